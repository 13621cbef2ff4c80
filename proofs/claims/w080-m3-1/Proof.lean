import JvmDerived
import JvmDerived.Pilot.@@N@@Statement
import JvmDerived.Pilot.@@N@@Code
set_option linter.unusedVariables false
set_option linter.unusedSimpArgs false
namespace Jvm.RoadKit
open Sem ClassFile Op Lib Jvm.Stand Jvm.Free Jvm.LawKit
section New
variable {p : Program} {l : Launch} {e : Env} {R : Room} {s : State} {m : MethodId} {args : Array Value} {below : List Frame} {meth : Method} {c : Code} {T : State} {locs : List Loc} {cells slots : Nat}
theorem retI (X : Stand p l e R s m args below meth c T locs cells slots) (hx : p.tables.exec = Jvm.exec) {pc : Nat} {Ls : Array Slot} {z : Int32} {rest : List Value} (hret : meth.sig.returnType = some .int) (hd : decode c.code pc = .ok (.ireturn, 1)) {fs : List Frame}
    (hl : ∀ (f : JFrame) (acts : List Action), f.method = m → f.locked = none → f.entered = [] → (doReturn e (T.setTop f) acts (some (.int z))).1 = T.setFrames fs) : Steps p.tables e below (T.setTop (mkF m pc Ls (.int z :: rest))) (T.setFrames fs) := by
  have hm' : T.vm.method? m = some meth := X.method'
  have hn : narrow .int (.int z) = .int z := rfl
  show Steps p.tables e below (T.setTop { method := m, pc := pc, locals := Ls, stack := _ :: rest, locked := none }) _
  jvm_step X.here [X.here.top, hx, hd, hm', hret, hn]
  first | (intro acts; rw [hl _ acts rfl rfl rfl]) | rw [hl _ _ rfl rfl rfl]
  exact Steps.refl _
end New
end Jvm.RoadKit
namespace Jvm.Pilot.@@N@@
open Jvm Jvm.ClassFile Sem Op Lib Jvm.Free Jvm.Stand Jvm.LawKit Jvm.RoadKit Bundle Jvm.Pilot.@@N@@.Jvm.D
theorem own_nn {x : Int32} (h : 0 ≤ x.toInt) : x.toInt = (x.toBitVec.toNat : Int) := by
  have e : x.toInt = x.toBitVec.toInt := rfl
  rw [BitVec.toInt_eq_toNat_cond] at e
  have := x.toBitVec.isLt
  split at e <;> omega
theorem own_ng {x : Int32} (h : x.toInt < 0) : x.toInt = (x.toBitVec.toNat : Int) - 4294967296 := by
  have e : x.toInt = x.toBitVec.toInt := rfl
  rw [BitVec.toInt_eq_toNat_cond] at e
  have := x.toBitVec.isLt
  split at e <;> omega
theorem own_md (x : Int64) : x.toInt % 18446744073709551616 = (x.toBitVec.toNat : Int) := by
  have e : x.toInt = x.toBitVec.toInt := rfl
  rw [BitVec.toInt_eq_toNat_cond] at e
  have := x.toBitVec.isLt
  split at e <;> omega
def own_nl32 (u : Nat) : Int := if u = 0 then 32 else 31 - (u.log2 : Int)
def own_nl64 (u : Nat) : Int := if u = 0 then 64 else 63 - (u.log2 : Int)
def own_len (u : Nat) : Int := 1 + (u.log2 : Int) / 7
theorem own_lg (u s i : Nat) (h : i = u / 2 ^ s) (hi : i ≠ 0) : u.log2 = i.log2 + s := by
  have hu : u ≠ 0 := by rintro rfl; simp at h; exact hi h
  obtain ⟨a, b⟩ := (Nat.log2_eq_iff hi).mp (rfl : i.log2 = i.log2)
  rw [Nat.log2_eq_iff hu]
  generalize i.log2 = k at *
  have hp : 0 < 2 ^ s := Nat.two_pow_pos s
  subst h
  rw [Nat.le_div_iff_mul_le hp] at a
  rw [Nat.div_lt_iff_lt_mul hp] at b
  rw [Nat.pow_add, show k + s + 1 = (k + 1) + s by omega, Nat.pow_add]
  exact ⟨a, b⟩
theorem own_st (v n v' n' c q d : Int32) (k : Nat) (P : Nat) (hP : P = 2 ^ k) (hc : c.toInt = P) (hq : q.toBitVec.toNat % 32 = k) (h0 : 0 < k) (hd : d.toInt = -(k : Int)) (hk : k ≤ 16) (hv' : v' = (if v < c then v else ((v.toUInt32 >>> (q &&& 31).toUInt32).toInt32))) (hn' : n' = (if v < c then n else n + d)) (h1 : 1 ≤ v.toInt) (hn : 0 ≤ n.toInt ∧ n.toInt ≤ 31) (hn2 : c.toInt ≤ v.toInt → (k : Int) ≤ n.toInt) :
    1 ≤ v'.toInt ∧ (v.toInt.toNat.log2 : Int) - n.toInt = (v'.toInt.toNat.log2 : Int) - n'.toInt ∧ ((v.toInt < P ∧ v'.toInt = v.toInt ∧ n'.toInt = n.toInt) ∨ (P ≤ v.toInt ∧ v'.toInt = v.toInt / P ∧ n'.toInt = n.toInt - k)) := by
  by_cases h : v < c
  · rw [if_pos h] at hv' hn'
    subst hv' hn'
    rw [Int32.lt_iff_toInt_lt] at h
    omega
  · rw [if_neg h] at hv' hn'
    have a := c_iushr v q k hq h0
    rw [← hv', ← hP] at a
    have b := c_iadd n d
    rw [← hn'] at b
    have r := rng32 v
    have r' := rng32 n'
    rw [Int32.lt_iff_toInt_lt, hc] at h
    have e1 : v.toInt % 4294967296 = v.toInt := by omega
    rw [e1] at a
    have hP0 : 0 < (P : Int) := by rw [hP]; exact_mod_cast Nat.two_pow_pos k
    have e2 : 1 ≤ v'.toInt := by rw [a]; exact (Int.le_ediv_iff_mul_le hP0).mpr (by omega)
    have e3 : n'.toInt = n.toInt - k := by omega
    have e4 := own_lg v.toInt.toNat k v'.toInt.toNat (by
      obtain ⟨w, hw⟩ := Int.eq_ofNat_of_zero_le (by omega : 0 ≤ v.toInt)
      rw [← hP, a, hw]; exact congrArg Int.toNat (Int.natCast_ediv w P).symm) (by omega)
    refine ⟨e2, by omega, Or.inr ⟨by omega, a, e3⟩⟩
theorem own_z (x0 : Int64) (q : Int32) (k : Nat) (P : Nat) (hP : P = 2 ^ k) (hq : q.toBitVec.toNat % 64 = k) (h0 : 0 < k) : ((x0.toUInt64 >>> (q &&& 0x3f).toInt64.toUInt64).toInt64) = 0 ↔ x0.toBitVec.toNat.log2 < k := by
  have a := c_lushr x0 q k hq h0
  rw [own_md, ← hP] at a
  have z0 : (0 : Int64).toInt = 0 := by decide
  rw [← Int64.toInt_inj, a, z0]
  have hp : 0 < P := by rw [hP]; exact Nat.two_pow_pos k
  by_cases h : x0.toBitVec.toNat = 0
  · rw [h]; simp [h0]
  · rw [Nat.log2_lt h, ← hP]
    constructor
    · intro q
      have q' : x0.toBitVec.toNat / P = 0 := by exact_mod_cast q
      exact (Nat.div_eq_zero_iff_lt hp).mp q'
    · intro q
      have := (Nat.div_eq_zero_iff_lt hp).mpr q
      exact_mod_cast this
theorem own_l63 (x0 : Int64) : x0.toBitVec.toNat.log2 < 64 := by
  by_cases h : x0.toBitVec.toNat = 0
  · rw [h]; decide
  · exact (Nat.log2_lt h).mpr x0.toBitVec.isLt
set_option maxHeartbeats 8000000 in
theorem own_b3_1 (x0 : Int32) (v4 : Int32) (v5 : Int32) (v8 : Int32) (v9 : Int32) (v12 : Int32) (v13 : Int32) (v16 : Int32) (v17 : Int32) (hc2 : (0 : Int32) < x0) (hv4 : v4 = (if x0 < (65536 : Int32) then x0 else ((x0.toUInt32 >>> ((16 : Int32) &&& 31).toUInt32).toInt32))) (hv5 : v5 = (if x0 < (65536 : Int32) then (31 : Int32) else (15 : Int32))) (hv8 : v8 = (if v4 < (256 : Int32) then v4 else ((v4.toUInt32 >>> ((8 : Int32) &&& 31).toUInt32).toInt32))) (hv9 : v9 = (if v4 < (256 : Int32) then v5 else (v5 + (-8 : Int32)))) (hv12 : v12 = (if v8 < (16 : Int32) then v8 else ((v8.toUInt32 >>> ((4 : Int32) &&& 31).toUInt32).toInt32))) (hv13 : v13 = (if v8 < (16 : Int32) then v9 else (v9 + (-4 : Int32)))) (hv16 : v16 = (if v12 < (4 : Int32) then v12 else ((v12.toUInt32 >>> ((2 : Int32) &&& 31).toUInt32).toInt32))) (hv17 : v17 = (if v12 < (4 : Int32) then v13 else (v13 + (-2 : Int32)))) : (v17 - ((v16.toUInt32 >>> ((1 : Int32) &&& 31).toUInt32).toInt32)).toInt = own_nl32 x0.toBitVec.toNat := by
  rw [Int32.lt_iff_toInt_lt] at hc2
  have z0 : (0 : Int32).toInt = 0 := by decide
  have z1 : (31 : Int32).toInt = 31 := by decide
  have r0 := rng32 x0
  have e15 : (15 : Int32) = 31 + (-16) := by decide
  rw [e15] at hv5
  obtain ⟨a1, a2, a3⟩ := own_st x0 31 v4 v5 65536 16 (-16) 16 65536 (by decide) (by decide) (by decide) (by decide) (by decide) (by decide) hv4 hv5 (by omega) (by decide) (by omega)
  obtain ⟨b1, b2, b3⟩ := own_st v4 v5 v8 v9 256 8 (-8) 8 256 (by decide) (by decide) (by decide) (by decide) (by decide) (by decide) hv8 hv9 (by omega) (by omega) (by omega)
  obtain ⟨c1, c2, c3⟩ := own_st v8 v9 v12 v13 16 4 (-4) 4 16 (by decide) (by decide) (by decide) (by decide) (by decide) (by decide) hv12 hv13 (by omega) (by omega) (by omega)
  obtain ⟨d1, d2, d3⟩ := own_st v12 v13 v16 v17 4 2 (-2) 2 4 (by decide) (by decide) (by decide) (by decide) (by decide) (by decide) hv16 hv17 (by omega) (by omega) (by omega)
  have f1 := c_iushr v16 1 1 (by decide) (by decide)
  have f2 := c_isub v17 ((v16.toUInt32 >>> ((1 : Int32) &&& 31).toUInt32).toInt32)
  have f3 := rng32 (v17 - ((v16.toUInt32 >>> ((1 : Int32) &&& 31).toUInt32).toInt32))
  have g : (v16.toInt.toNat.log2 : Int) = v16.toInt / 2 := by
    have : v16.toInt = 1 ∨ v16.toInt = 2 ∨ v16.toInt = 3 := by omega
    rcases this with h | h | h <;> rw [h] <;> decide
  have hu : x0.toBitVec.toNat = x0.toInt.toNat := by have := own_nn (x := x0) (by omega); omega
  rw [hu]
  unfold own_nl32
  rw [if_neg (by omega)]
  omega
set_option maxHeartbeats 8000000 in
theorem own_b3_2 (x0 : Int32) (v21 : Int32) (hc2 : ¬ ((0 : Int32) < x0)) (hv21 : v21 = (if x0 = (0 : Int32) then (32 : Int32) else (0 : Int32))) : v21.toInt = own_nl32 x0.toBitVec.toNat := by
  by_cases h : x0 = 0
  · subst h; rw [if_pos rfl] at hv21; subst hv21; decide
  · rw [if_neg h] at hv21; subst hv21
    have z0 : (0 : Int32).toInt = 0 := by decide
    rw [Int32.lt_iff_toInt_lt] at hc2
    have h' : x0.toInt ≠ 0 := fun q => h (Int32.toInt_inj.mp q)
    have e := own_ng (x := x0) (by omega)
    have r := rng32 x0
    have hl := x0.toBitVec.isLt
    unfold own_nl32
    rw [if_neg (by omega), z0]
    have : x0.toBitVec.toNat.log2 = 31 := (Nat.log2_eq_iff (by omega)).mpr ⟨by omega, by omega⟩
    rw [this]; rfl
theorem pn_0 : plainName "java/lang/Integer" = true := by first | (simp [plainName, overriddenIn]; done) | decide +kernel
theorem d3_0 : decode jdk_33_method_47_code 0 = .ok (.iload_n 0, 1) := by decide +kernel
theorem d3_1 : decode jdk_33_method_47_code 1 = .ok (.ifCond .gt 14, 3) := by decide +kernel
theorem d3_4 : decode jdk_33_method_47_code 4 = .ok (.iload_n 0, 1) := by decide +kernel
theorem d3_5 : decode jdk_33_method_47_code 5 = .ok (.ifCond .ne 8, 3) := by decide +kernel
theorem d3_8 : decode jdk_33_method_47_code 8 = .ok (.bipush 32, 2) := by decide +kernel
theorem d3_10 : decode jdk_33_method_47_code 10 = .ok (.goto 4, 3) := by decide +kernel
theorem d3_13 : decode jdk_33_method_47_code 13 = .ok (.iconst 0, 1) := by decide +kernel
theorem d3_14 : decode jdk_33_method_47_code 14 = .ok (.ireturn, 1) := by decide +kernel
theorem d3_15 : decode jdk_33_method_47_code 15 = .ok (.bipush 31, 2) := by decide +kernel
theorem d3_17 : decode jdk_33_method_47_code 17 = .ok (.istore_n 1, 1) := by decide +kernel
theorem d3_18 : decode jdk_33_method_47_code 18 = .ok (.iload_n 0, 1) := by decide +kernel
theorem d3_19 : decode jdk_33_method_47_code 19 = .ok (.ldc_w 264, 3) := by decide +kernel
theorem d3_22 : decode jdk_33_method_47_code 22 = .ok (.if_icmp .lt 11, 3) := by decide +kernel
theorem d3_25 : decode jdk_33_method_47_code 25 = .ok (.iinc 1 (-16), 3) := by decide +kernel
theorem d3_28 : decode jdk_33_method_47_code 28 = .ok (.iload_n 0, 1) := by decide +kernel
theorem d3_29 : decode jdk_33_method_47_code 29 = .ok (.bipush 16, 2) := by decide +kernel
theorem d3_31 : decode jdk_33_method_47_code 31 = .ok (.iushr, 1) := by decide +kernel
theorem d3_32 : decode jdk_33_method_47_code 32 = .ok (.istore_n 0, 1) := by decide +kernel
theorem d3_33 : decode jdk_33_method_47_code 33 = .ok (.iload_n 0, 1) := by decide +kernel
theorem d3_34 : decode jdk_33_method_47_code 34 = .ok (.sipush 256, 3) := by decide +kernel
theorem d3_37 : decode jdk_33_method_47_code 37 = .ok (.if_icmp .lt 11, 3) := by decide +kernel
theorem d3_40 : decode jdk_33_method_47_code 40 = .ok (.iinc 1 (-8), 3) := by decide +kernel
theorem d3_43 : decode jdk_33_method_47_code 43 = .ok (.iload_n 0, 1) := by decide +kernel
theorem d3_44 : decode jdk_33_method_47_code 44 = .ok (.bipush 8, 2) := by decide +kernel
theorem d3_46 : decode jdk_33_method_47_code 46 = .ok (.iushr, 1) := by decide +kernel
theorem d3_47 : decode jdk_33_method_47_code 47 = .ok (.istore_n 0, 1) := by decide +kernel
theorem d3_48 : decode jdk_33_method_47_code 48 = .ok (.iload_n 0, 1) := by decide +kernel
theorem d3_49 : decode jdk_33_method_47_code 49 = .ok (.bipush 16, 2) := by decide +kernel
theorem d3_51 : decode jdk_33_method_47_code 51 = .ok (.if_icmp .lt 10, 3) := by decide +kernel
theorem d3_54 : decode jdk_33_method_47_code 54 = .ok (.iinc 1 (-4), 3) := by decide +kernel
theorem d3_57 : decode jdk_33_method_47_code 57 = .ok (.iload_n 0, 1) := by decide +kernel
theorem d3_58 : decode jdk_33_method_47_code 58 = .ok (.iconst 4, 1) := by decide +kernel
theorem d3_59 : decode jdk_33_method_47_code 59 = .ok (.iushr, 1) := by decide +kernel
theorem d3_60 : decode jdk_33_method_47_code 60 = .ok (.istore_n 0, 1) := by decide +kernel
theorem d3_61 : decode jdk_33_method_47_code 61 = .ok (.iload_n 0, 1) := by decide +kernel
theorem d3_62 : decode jdk_33_method_47_code 62 = .ok (.iconst 4, 1) := by decide +kernel
theorem d3_63 : decode jdk_33_method_47_code 63 = .ok (.if_icmp .lt 10, 3) := by decide +kernel
theorem d3_66 : decode jdk_33_method_47_code 66 = .ok (.iinc 1 (-2), 3) := by decide +kernel
theorem d3_69 : decode jdk_33_method_47_code 69 = .ok (.iload_n 0, 1) := by decide +kernel
theorem d3_70 : decode jdk_33_method_47_code 70 = .ok (.iconst 2, 1) := by decide +kernel
theorem d3_71 : decode jdk_33_method_47_code 71 = .ok (.iushr, 1) := by decide +kernel
theorem d3_72 : decode jdk_33_method_47_code 72 = .ok (.istore_n 0, 1) := by decide +kernel
theorem d3_73 : decode jdk_33_method_47_code 73 = .ok (.iload_n 1, 1) := by decide +kernel
theorem d3_74 : decode jdk_33_method_47_code 74 = .ok (.iload_n 0, 1) := by decide +kernel
theorem d3_75 : decode jdk_33_method_47_code 75 = .ok (.iconst 1, 1) := by decide +kernel
theorem d3_76 : decode jdk_33_method_47_code 76 = .ok (.iushr, 1) := by decide +kernel
theorem d3_77 : decode jdk_33_method_47_code 77 = .ok (.isub, 1) := by decide +kernel
theorem d3_78 : decode jdk_33_method_47_code 78 = .ok (.ireturn, 1) := by decide +kernel
theorem ef_3 (m : MethodId) (x0 : Int32) : entryFrame m #[(.int x0)] 2 = mkF m 0 #[.val (.int x0), .unset] [] := by first | (simp [entryFrame, mkF, argsToLocals, Value.category]; done) | rfl
def Q3 (Z : State) (x0 : Int32) (h0 : Heap) (n0 : Nat) (v : Option Value) (h : Heap) (L : List Loc) : Prop := ∃ z : Int32, v = some (.int z) ∧ Fr n0 L ∧ h = h0 ∧ (z.toInt = own_nl32 x0.toBitVec.toNat)
set_option maxRecDepth 65536 in
set_option maxHeartbeats 40000000 in
theorem rm3 (l : Launch) (Z : State) (a0 : Array Value) (hw : ∀ d ∈ tables_1, d.before a0 Z = true) (ws : List Jvm.Cond) (x0 : Int32) (h0 : Heap) (n0 : Nat) (Z0 : n0 ≤ h0.size) :
    MetFree l (⟨"java/lang/Integer", "numberOfLeadingZeros", "(I)I"⟩ : MethodName) (head1 (Jvm.Cond.code (⟨"java/lang/Integer", "numberOfLeadingZeros", "(I)I"⟩ : MethodName) jdk_33_method_47_code 2 (some .int) :: ws) ({ frames := 0, cells := 0, slots := 0, locals := 0 } : Room)) (fun aa U => aa = #[(.int x0)] ∧ Z.Warmed39 U.vm ∧ U.heap = h0) (fun _ _ _ _ _ => True) (fun _ U o U' => ∃ v L, o = .returned v ∧ Q3 Z x0 h0 n0 v U'.heap L ∧ FrameEnd U o U' L ({ frames := 0, cells := 0, slots := 0, locals := 0 } : Room).cells ({ frames := 0, cells := 0, slots := 0, locals := 0 } : Room).slots) := by
  refine MetFree.of_bodySF (plainFor_of_name pn_0) hisR ?_
  intro p e s m args below meth c s₁ Bd hml0 hP hK
  obtain ⟨rfl, hZ, hh⟩ := hP
  have hx := Bd.exec
  have hby := Bd.bytes
  have hml : c.maxLocals = 2 := hml0
  have hown : s.vm.findClass "java/lang/Integer" = some m.cls := findClass_of_methodNamed Bd.named
  have hnm := (name_of_methodNamed Bd.named Bd.method).1
  have X0 : Stand p l e ({ frames := 0, cells := 0, slots := 0, locals := 0 } : Room) s m #[(.int x0)] below meth c s₁ [] 0 0 := Stand.of_body Bd
  have e0 : s₁.heap = h0 := by rw [← hh, Bd.state]; rfl
  have N0 := Fr.nil n0
  have pre0 : ∀ t, Steps p.tables e below (s₁.setTop (mkF m 0 #[.val (.int x0), .unset] [])) t → Steps p.tables e below (s₁.setTop (entryFrame m #[(.int x0)] 2)) t := fun t k => castTop (ef_3 m x0) k
  have pre1 : ∀ t, Steps p.tables e below (s₁.setTop (mkF m 1 #[.val (.int x0), .unset] [(.int x0)])) t → Steps p.tables e below (s₁.setTop (entryFrame m #[(.int x0)] 2)) t := fun t k => pre0 t (by
    show Steps p.tables e below (s₁.setTop (mkF m 0 #[.val (.int x0), .unset] [])) _
    refine XS.iloadN X0.here hx rfl (hb hby d3_0) rfl ?_
    show Steps p.tables e below (s₁.setTop (mkF m 1 #[.val (.int x0), .unset] [(.int x0)])) _
    exact k)
  by_cases hc2 : (0 : Int32) < x0
  · skip
    obtain ⟨v4, hv4⟩ : ∃ z : Int32, z = (if x0 < (65536 : Int32) then x0 else ((x0.toUInt32 >>> ((16 : Int32) &&& 31).toUInt32).toInt32)) := ⟨_, rfl⟩
    obtain ⟨v5, hv5⟩ : ∃ z : Int32, z = (if x0 < (65536 : Int32) then (31 : Int32) else (15 : Int32)) := ⟨_, rfl⟩
    have pre6 : ∀ t, Steps p.tables e below (s₁.setTop (mkF m 33 #[.val (.int v4), .val (.int v5)] [])) t → Steps p.tables e below (s₁.setTop (entryFrame m #[(.int x0)] 2)) t := fun t k => pre1 t (by
      show Steps p.tables e below (s₁.setTop (mkF m 1 #[.val (.int x0), .unset] [(.int x0)])) _
      refine XS.ifYes X0.here hx rfl (pc0 := 1) (pc' := 15) rfl (hb hby d3_1) rfl ((if0 _ _).trans (tlt hc2).2.2.1) (by decide) (by decide) ?_
      show Steps p.tables e below (s₁.setTop (mkF m 15 #[.val (.int x0), .unset] [])) _
      refine XS.bipush X0.here hx rfl (hb hby d3_15) ?_
      show Steps p.tables e below (s₁.setTop (mkF m 17 #[.val (.int x0), .unset] [(.int (31 : Int32))])) _
      refine XS.istoreN X0.here hx rfl (hb hby d3_17) rfl (l' := #[.val (.int x0), .val (.int (31 : Int32))]) rfl ?_
      show Steps p.tables e below (s₁.setTop (mkF m 18 #[.val (.int x0), .val (.int (31 : Int32))] [])) _
      refine XS.iloadN X0.here hx rfl (hb hby d3_18) rfl ?_
      show Steps p.tables e below (s₁.setTop (mkF m 19 #[.val (.int x0), .val (.int (31 : Int32))] [(.int x0)])) _
      refine X0.ldcwInt hx hown (mvT hZ (hw _ (List.mem_of_getElem? (i := 20) rfl))) (g := (mkF m 19 #[.val (.int x0), .val (.int (31 : Int32))] [(.int x0)])) rfl (hb hby d3_19) _ ?_
      show Steps p.tables e below (s₁.setTop (mkF m 22 #[.val (.int x0), .val (.int (31 : Int32))] [(.int (65536 : Int32)), (.int x0)])) _
      by_cases hc3 : x0 < (65536 : Int32)
      · skip
        refine XS.icmpYes X0.here hx rfl (pc0 := 22) (pc' := 33) rfl (hb hby d3_22) rfl (tlt hc3).1 (by decide) (by decide) ?_
        show Steps p.tables e below (s₁.setTop (mkF m 33 #[.val (.int x0), .val (.int (31 : Int32))] [])) _
        rw [show v4 = x0 from by rw [hv4, if_pos hc3]] at k
        rw [show v5 = (31 : Int32) from by rw [hv5, if_pos hc3]] at k
        exact k
      · skip
        refine XS.icmpNo X0.here hx rfl (hb hby d3_22) rfl (flt hc3).1 ?_
        show Steps p.tables e below (s₁.setTop (mkF m 25 #[.val (.int x0), .val (.int (31 : Int32))] [])) _
        refine XS.iinc X0.here hx rfl (hb hby d3_25) rfl (l' := #[.val (.int x0), .val (.int (15 : Int32))]) rfl ?_
        show Steps p.tables e below (s₁.setTop (mkF m 28 #[.val (.int x0), .val (.int (15 : Int32))] [])) _
        refine XS.iloadN X0.here hx rfl (hb hby d3_28) rfl ?_
        show Steps p.tables e below (s₁.setTop (mkF m 29 #[.val (.int x0), .val (.int (15 : Int32))] [(.int x0)])) _
        refine XS.bipush X0.here hx rfl (hb hby d3_29) ?_
        show Steps p.tables e below (s₁.setTop (mkF m 31 #[.val (.int x0), .val (.int (15 : Int32))] [(.int (16 : Int32)), (.int x0)])) _
        refine XS.iushr X0.here hx rfl (hb hby d3_31) rfl ?_
        show Steps p.tables e below (s₁.setTop (mkF m 32 #[.val (.int x0), .val (.int (15 : Int32))] [(.int ((x0.toUInt32 >>> ((16 : Int32) &&& 31).toUInt32).toInt32))])) _
        refine XS.istoreN X0.here hx rfl (hb hby d3_32) rfl (l' := #[.val (.int ((x0.toUInt32 >>> ((16 : Int32) &&& 31).toUInt32).toInt32)), .val (.int (15 : Int32))]) rfl ?_
        show Steps p.tables e below (s₁.setTop (mkF m 33 #[.val (.int ((x0.toUInt32 >>> ((16 : Int32) &&& 31).toUInt32).toInt32)), .val (.int (15 : Int32))] [])) _
        rw [show v4 = ((x0.toUInt32 >>> ((16 : Int32) &&& 31).toUInt32).toInt32) from by rw [hv4, if_neg hc3]] at k
        rw [show v5 = (15 : Int32) from by rw [hv5, if_neg hc3]] at k
        exact k)
    obtain ⟨v8, hv8⟩ : ∃ z : Int32, z = (if v4 < (256 : Int32) then v4 else ((v4.toUInt32 >>> ((8 : Int32) &&& 31).toUInt32).toInt32)) := ⟨_, rfl⟩
    obtain ⟨v9, hv9⟩ : ∃ z : Int32, z = (if v4 < (256 : Int32) then v5 else (v5 + (-8 : Int32))) := ⟨_, rfl⟩
    have pre10 : ∀ t, Steps p.tables e below (s₁.setTop (mkF m 48 #[.val (.int v8), .val (.int v9)] [])) t → Steps p.tables e below (s₁.setTop (entryFrame m #[(.int x0)] 2)) t := fun t k => pre6 t (by
      show Steps p.tables e below (s₁.setTop (mkF m 33 #[.val (.int v4), .val (.int v5)] [])) _
      refine XS.iloadN X0.here hx rfl (hb hby d3_33) rfl ?_
      show Steps p.tables e below (s₁.setTop (mkF m 34 #[.val (.int v4), .val (.int v5)] [(.int v4)])) _
      refine XS.sipush X0.here hx rfl (hb hby d3_34) ?_
      show Steps p.tables e below (s₁.setTop (mkF m 37 #[.val (.int v4), .val (.int v5)] [(.int (256 : Int32)), (.int v4)])) _
      by_cases hc7 : v4 < (256 : Int32)
      · skip
        refine XS.icmpYes X0.here hx rfl (pc0 := 37) (pc' := 48) rfl (hb hby d3_37) rfl (tlt hc7).1 (by decide) (by decide) ?_
        show Steps p.tables e below (s₁.setTop (mkF m 48 #[.val (.int v4), .val (.int v5)] [])) _
        rw [show v8 = v4 from by rw [hv8, if_pos hc7]] at k
        rw [show v9 = v5 from by rw [hv9, if_pos hc7]] at k
        exact k
      · skip
        refine XS.icmpNo X0.here hx rfl (hb hby d3_37) rfl (flt hc7).1 ?_
        show Steps p.tables e below (s₁.setTop (mkF m 40 #[.val (.int v4), .val (.int v5)] [])) _
        refine XS.iinc X0.here hx rfl (hb hby d3_40) rfl (l' := #[.val (.int v4), .val (.int (v5 + (-8 : Int32)))]) rfl ?_
        show Steps p.tables e below (s₁.setTop (mkF m 43 #[.val (.int v4), .val (.int (v5 + (-8 : Int32)))] [])) _
        refine XS.iloadN X0.here hx rfl (hb hby d3_43) rfl ?_
        show Steps p.tables e below (s₁.setTop (mkF m 44 #[.val (.int v4), .val (.int (v5 + (-8 : Int32)))] [(.int v4)])) _
        refine XS.bipush X0.here hx rfl (hb hby d3_44) ?_
        show Steps p.tables e below (s₁.setTop (mkF m 46 #[.val (.int v4), .val (.int (v5 + (-8 : Int32)))] [(.int (8 : Int32)), (.int v4)])) _
        refine XS.iushr X0.here hx rfl (hb hby d3_46) rfl ?_
        show Steps p.tables e below (s₁.setTop (mkF m 47 #[.val (.int v4), .val (.int (v5 + (-8 : Int32)))] [(.int ((v4.toUInt32 >>> ((8 : Int32) &&& 31).toUInt32).toInt32))])) _
        refine XS.istoreN X0.here hx rfl (hb hby d3_47) rfl (l' := #[.val (.int ((v4.toUInt32 >>> ((8 : Int32) &&& 31).toUInt32).toInt32)), .val (.int (v5 + (-8 : Int32)))]) rfl ?_
        show Steps p.tables e below (s₁.setTop (mkF m 48 #[.val (.int ((v4.toUInt32 >>> ((8 : Int32) &&& 31).toUInt32).toInt32)), .val (.int (v5 + (-8 : Int32)))] [])) _
        rw [show v8 = ((v4.toUInt32 >>> ((8 : Int32) &&& 31).toUInt32).toInt32) from by rw [hv8, if_neg hc7]] at k
        rw [show v9 = (v5 + (-8 : Int32)) from by rw [hv9, if_neg hc7]] at k
        exact k)
    obtain ⟨v12, hv12⟩ : ∃ z : Int32, z = (if v8 < (16 : Int32) then v8 else ((v8.toUInt32 >>> ((4 : Int32) &&& 31).toUInt32).toInt32)) := ⟨_, rfl⟩
    obtain ⟨v13, hv13⟩ : ∃ z : Int32, z = (if v8 < (16 : Int32) then v9 else (v9 + (-4 : Int32))) := ⟨_, rfl⟩
    have pre14 : ∀ t, Steps p.tables e below (s₁.setTop (mkF m 61 #[.val (.int v12), .val (.int v13)] [])) t → Steps p.tables e below (s₁.setTop (entryFrame m #[(.int x0)] 2)) t := fun t k => pre10 t (by
      show Steps p.tables e below (s₁.setTop (mkF m 48 #[.val (.int v8), .val (.int v9)] [])) _
      refine XS.iloadN X0.here hx rfl (hb hby d3_48) rfl ?_
      show Steps p.tables e below (s₁.setTop (mkF m 49 #[.val (.int v8), .val (.int v9)] [(.int v8)])) _
      refine XS.bipush X0.here hx rfl (hb hby d3_49) ?_
      show Steps p.tables e below (s₁.setTop (mkF m 51 #[.val (.int v8), .val (.int v9)] [(.int (16 : Int32)), (.int v8)])) _
      by_cases hc11 : v8 < (16 : Int32)
      · skip
        refine XS.icmpYes X0.here hx rfl (pc0 := 51) (pc' := 61) rfl (hb hby d3_51) rfl (tlt hc11).1 (by decide) (by decide) ?_
        show Steps p.tables e below (s₁.setTop (mkF m 61 #[.val (.int v8), .val (.int v9)] [])) _
        rw [show v12 = v8 from by rw [hv12, if_pos hc11]] at k
        rw [show v13 = v9 from by rw [hv13, if_pos hc11]] at k
        exact k
      · skip
        refine XS.icmpNo X0.here hx rfl (hb hby d3_51) rfl (flt hc11).1 ?_
        show Steps p.tables e below (s₁.setTop (mkF m 54 #[.val (.int v8), .val (.int v9)] [])) _
        refine XS.iinc X0.here hx rfl (hb hby d3_54) rfl (l' := #[.val (.int v8), .val (.int (v9 + (-4 : Int32)))]) rfl ?_
        show Steps p.tables e below (s₁.setTop (mkF m 57 #[.val (.int v8), .val (.int (v9 + (-4 : Int32)))] [])) _
        refine XS.iloadN X0.here hx rfl (hb hby d3_57) rfl ?_
        show Steps p.tables e below (s₁.setTop (mkF m 58 #[.val (.int v8), .val (.int (v9 + (-4 : Int32)))] [(.int v8)])) _
        refine XS.iconst X0.here hx rfl (hb hby d3_58) ?_
        show Steps p.tables e below (s₁.setTop (mkF m 59 #[.val (.int v8), .val (.int (v9 + (-4 : Int32)))] [(.int (4 : Int32)), (.int v8)])) _
        refine XS.iushr X0.here hx rfl (hb hby d3_59) rfl ?_
        show Steps p.tables e below (s₁.setTop (mkF m 60 #[.val (.int v8), .val (.int (v9 + (-4 : Int32)))] [(.int ((v8.toUInt32 >>> ((4 : Int32) &&& 31).toUInt32).toInt32))])) _
        refine XS.istoreN X0.here hx rfl (hb hby d3_60) rfl (l' := #[.val (.int ((v8.toUInt32 >>> ((4 : Int32) &&& 31).toUInt32).toInt32)), .val (.int (v9 + (-4 : Int32)))]) rfl ?_
        show Steps p.tables e below (s₁.setTop (mkF m 61 #[.val (.int ((v8.toUInt32 >>> ((4 : Int32) &&& 31).toUInt32).toInt32)), .val (.int (v9 + (-4 : Int32)))] [])) _
        rw [show v12 = ((v8.toUInt32 >>> ((4 : Int32) &&& 31).toUInt32).toInt32) from by rw [hv12, if_neg hc11]] at k
        rw [show v13 = (v9 + (-4 : Int32)) from by rw [hv13, if_neg hc11]] at k
        exact k)
    obtain ⟨v16, hv16⟩ : ∃ z : Int32, z = (if v12 < (4 : Int32) then v12 else ((v12.toUInt32 >>> ((2 : Int32) &&& 31).toUInt32).toInt32)) := ⟨_, rfl⟩
    obtain ⟨v17, hv17⟩ : ∃ z : Int32, z = (if v12 < (4 : Int32) then v13 else (v13 + (-2 : Int32))) := ⟨_, rfl⟩
    have pre18 : ∀ t, Steps p.tables e below (s₁.setTop (mkF m 73 #[.val (.int v16), .val (.int v17)] [])) t → Steps p.tables e below (s₁.setTop (entryFrame m #[(.int x0)] 2)) t := fun t k => pre14 t (by
      show Steps p.tables e below (s₁.setTop (mkF m 61 #[.val (.int v12), .val (.int v13)] [])) _
      refine XS.iloadN X0.here hx rfl (hb hby d3_61) rfl ?_
      show Steps p.tables e below (s₁.setTop (mkF m 62 #[.val (.int v12), .val (.int v13)] [(.int v12)])) _
      refine XS.iconst X0.here hx rfl (hb hby d3_62) ?_
      show Steps p.tables e below (s₁.setTop (mkF m 63 #[.val (.int v12), .val (.int v13)] [(.int (4 : Int32)), (.int v12)])) _
      by_cases hc15 : v12 < (4 : Int32)
      · skip
        refine XS.icmpYes X0.here hx rfl (pc0 := 63) (pc' := 73) rfl (hb hby d3_63) rfl (tlt hc15).1 (by decide) (by decide) ?_
        show Steps p.tables e below (s₁.setTop (mkF m 73 #[.val (.int v12), .val (.int v13)] [])) _
        rw [show v16 = v12 from by rw [hv16, if_pos hc15]] at k
        rw [show v17 = v13 from by rw [hv17, if_pos hc15]] at k
        exact k
      · skip
        refine XS.icmpNo X0.here hx rfl (hb hby d3_63) rfl (flt hc15).1 ?_
        show Steps p.tables e below (s₁.setTop (mkF m 66 #[.val (.int v12), .val (.int v13)] [])) _
        refine XS.iinc X0.here hx rfl (hb hby d3_66) rfl (l' := #[.val (.int v12), .val (.int (v13 + (-2 : Int32)))]) rfl ?_
        show Steps p.tables e below (s₁.setTop (mkF m 69 #[.val (.int v12), .val (.int (v13 + (-2 : Int32)))] [])) _
        refine XS.iloadN X0.here hx rfl (hb hby d3_69) rfl ?_
        show Steps p.tables e below (s₁.setTop (mkF m 70 #[.val (.int v12), .val (.int (v13 + (-2 : Int32)))] [(.int v12)])) _
        refine XS.iconst X0.here hx rfl (hb hby d3_70) ?_
        show Steps p.tables e below (s₁.setTop (mkF m 71 #[.val (.int v12), .val (.int (v13 + (-2 : Int32)))] [(.int (2 : Int32)), (.int v12)])) _
        refine XS.iushr X0.here hx rfl (hb hby d3_71) rfl ?_
        show Steps p.tables e below (s₁.setTop (mkF m 72 #[.val (.int v12), .val (.int (v13 + (-2 : Int32)))] [(.int ((v12.toUInt32 >>> ((2 : Int32) &&& 31).toUInt32).toInt32))])) _
        refine XS.istoreN X0.here hx rfl (hb hby d3_72) rfl (l' := #[.val (.int ((v12.toUInt32 >>> ((2 : Int32) &&& 31).toUInt32).toInt32)), .val (.int (v13 + (-2 : Int32)))]) rfl ?_
        show Steps p.tables e below (s₁.setTop (mkF m 73 #[.val (.int ((v12.toUInt32 >>> ((2 : Int32) &&& 31).toUInt32).toInt32)), .val (.int (v13 + (-2 : Int32)))] [])) _
        rw [show v16 = ((v12.toUInt32 >>> ((2 : Int32) &&& 31).toUInt32).toInt32) from by rw [hv16, if_neg hc15]] at k
        rw [show v17 = (v13 + (-2 : Int32)) from by rw [hv17, if_neg hc15]] at k
        exact k)
    have pre19 : ∀ t, Steps p.tables e below (s₁.setTop (mkF m 78 #[.val (.int v16), .val (.int v17)] [(.int (v17 - ((v16.toUInt32 >>> ((1 : Int32) &&& 31).toUInt32).toInt32)))])) t → Steps p.tables e below (s₁.setTop (entryFrame m #[(.int x0)] 2)) t := fun t k => pre18 t (by
      show Steps p.tables e below (s₁.setTop (mkF m 73 #[.val (.int v16), .val (.int v17)] [])) _
      refine XS.iloadN X0.here hx rfl (hb hby d3_73) rfl ?_
      show Steps p.tables e below (s₁.setTop (mkF m 74 #[.val (.int v16), .val (.int v17)] [(.int v17)])) _
      refine XS.iloadN X0.here hx rfl (hb hby d3_74) rfl ?_
      show Steps p.tables e below (s₁.setTop (mkF m 75 #[.val (.int v16), .val (.int v17)] [(.int v16), (.int v17)])) _
      refine XS.iconst X0.here hx rfl (hb hby d3_75) ?_
      show Steps p.tables e below (s₁.setTop (mkF m 76 #[.val (.int v16), .val (.int v17)] [(.int (1 : Int32)), (.int v16), (.int v17)])) _
      refine XS.iushr X0.here hx rfl (hb hby d3_76) rfl ?_
      show Steps p.tables e below (s₁.setTop (mkF m 77 #[.val (.int v16), .val (.int v17)] [(.int ((v16.toUInt32 >>> ((1 : Int32) &&& 31).toUInt32).toInt32)), (.int v17)])) _
      refine XS.isub X0.here hx rfl (hb hby d3_77) rfl ?_
      show Steps p.tables e below (s₁.setTop (mkF m 78 #[.val (.int v16), .val (.int v17)] [(.int (v17 - ((v16.toUInt32 >>> ((1 : Int32) &&& 31).toUInt32).toInt32)))])) _
      exact k)
    obtain ⟨fs, hr, hrun, hended, hW, hsame⟩ := X0.leave (v := some (.int (v17 - ((v16.toUInt32 >>> ((1 : Int32) &&& 31).toUInt32).toInt32)))) (fun h => by rw [Bd.returns] at h; cases h)
    refine ⟨_, _, pre19 _ ?_, hrun, hended, _, _, rfl, ?_, ⟨_, rfl⟩, hW, hsame.mono (by decide) (by decide)⟩
    · show Steps p.tables e below (s₁.setTop (mkF m 78 #[.val (.int v16), .val (.int v17)] [(.int (v17 - ((v16.toUInt32 >>> ((1 : Int32) &&& 31).toUInt32).toInt32)))])) _
      exact retI X0 hx Bd.returns (hb hby d3_78) hr
    · show Q3 Z x0 h0 n0 _ s₁.heap _
      rw [e0]
      exact ⟨_, rfl, N0, rfl, own_b3_1 x0 v4 v5 v8 v9 v12 v13 v16 v17 hc2 hv4 hv5 hv8 hv9 hv12 hv13 hv16 hv17⟩
  · skip
    obtain ⟨v21, hv21⟩ : ∃ z : Int32, z = (if x0 = (0 : Int32) then (32 : Int32) else (0 : Int32)) := ⟨_, rfl⟩
    have pre22 : ∀ t, Steps p.tables e below (s₁.setTop (mkF m 14 #[.val (.int x0), .unset] [(.int v21)])) t → Steps p.tables e below (s₁.setTop (entryFrame m #[(.int x0)] 2)) t := fun t k => pre1 t (by
      show Steps p.tables e below (s₁.setTop (mkF m 1 #[.val (.int x0), .unset] [(.int x0)])) _
      refine XS.ifNo X0.here hx rfl (hb hby d3_1) rfl ((if0 _ _).trans (flt hc2).2.2.1) ?_
      show Steps p.tables e below (s₁.setTop (mkF m 4 #[.val (.int x0), .unset] [])) _
      refine XS.iloadN X0.here hx rfl (hb hby d3_4) rfl ?_
      show Steps p.tables e below (s₁.setTop (mkF m 5 #[.val (.int x0), .unset] [(.int x0)])) _
      by_cases hc20 : x0 = (0 : Int32)
      · skip
        refine XS.ifNo X0.here hx rfl (hb hby d3_5) rfl ((if0 _ _).trans (teq hc20).2) ?_
        show Steps p.tables e below (s₁.setTop (mkF m 8 #[.val (.int x0), .unset] [])) _
        refine XS.bipush X0.here hx rfl (hb hby d3_8) ?_
        show Steps p.tables e below (s₁.setTop (mkF m 10 #[.val (.int x0), .unset] [(.int (32 : Int32))])) _
        refine XS.goto X0.here hx rfl (pc0 := 10) (pc' := 14) rfl (hb hby d3_10) (by decide) (by decide) ?_
        show Steps p.tables e below (s₁.setTop (mkF m 14 #[.val (.int x0), .unset] [(.int (32 : Int32))])) _
        rw [show v21 = (32 : Int32) from by rw [hv21, if_pos hc20]] at k
        exact k
      · skip
        refine XS.ifYes X0.here hx rfl (pc0 := 5) (pc' := 13) rfl (hb hby d3_5) rfl ((if0 _ _).trans (feq hc20).2) (by decide) (by decide) ?_
        show Steps p.tables e below (s₁.setTop (mkF m 13 #[.val (.int x0), .unset] [])) _
        refine XS.iconst X0.here hx rfl (hb hby d3_13) ?_
        show Steps p.tables e below (s₁.setTop (mkF m 14 #[.val (.int x0), .unset] [(.int (0 : Int32))])) _
        rw [show v21 = (0 : Int32) from by rw [hv21, if_neg hc20]] at k
        exact k)
    obtain ⟨fs, hr, hrun, hended, hW, hsame⟩ := X0.leave (v := some (.int v21)) (fun h => by rw [Bd.returns] at h; cases h)
    refine ⟨_, _, pre22 _ ?_, hrun, hended, _, _, rfl, ?_, ⟨_, rfl⟩, hW, hsame.mono (by decide) (by decide)⟩
    · show Steps p.tables e below (s₁.setTop (mkF m 14 #[.val (.int x0), .unset] [(.int v21)])) _
      exact retI X0 hx Bd.returns (hb hby d3_14) hr
    · show Q3 Z x0 h0 n0 _ s₁.heap _
      rw [e0]
      exact ⟨_, rfl, N0, rfl, own_b3_2 x0 v21 hc2 hv21⟩
theorem pd_0 : parseMethodDescriptor "(I)I" = some ⟨[.int], some .int⟩ := by decide +kernel
set_option maxHeartbeats 8000000 in
theorem own_b2_1 (x0 : Int64) (v1 : Int32) (r5 : Int32) (hv1 : v1 = (((x0.toUInt64 >>> ((32 : Int32) &&& 0x3f).toInt64.toUInt64).toInt64).toInt32)) (hc3 : v1 = (0 : Int32)) (P5 : r5.toInt = own_nl32 (x0.toInt32).toBitVec.toNat) : ((32 : Int32) + r5).toInt = own_nl64 x0.toBitVec.toNat := by
  have a := c_lushr x0 32 32 (by decide) (by decide)
  have b := c_l2i ((x0.toUInt64 >>> ((32 : Int32) &&& 0x3f).toInt64.toUInt64).toInt64)
  rw [← hv1, hc3] at b
  have z0 : (0 : Int32).toInt = 0 := by decide
  have z1 : (32 : Int32).toInt = 32 := by decide
  have c := c_l2i x0
  have d := own_md x0
  have hl := x0.toBitVec.isLt
  have e : x0.toBitVec.toNat < 4294967296 := by omega
  have f : (x0.toInt32).toBitVec.toNat = x0.toBitVec.toNat := by
    have h1 := x0.toInt32.toBitVec.isLt
    by_cases h : 0 ≤ x0.toInt32.toInt
    · have := own_nn h; omega
    · have := own_ng (x := x0.toInt32) (by omega); omega
  rw [f] at P5
  have g := c_iadd 32 r5
  have q := rng32 (32 + r5)
  unfold own_nl32 at P5
  unfold own_nl64
  by_cases h : x0.toBitVec.toNat = 0
  · rw [if_pos h] at P5 ⊢; omega
  · rw [if_neg h] at P5 ⊢
    have : x0.toBitVec.toNat.log2 < 32 := (Nat.log2_lt h).mpr (by omega)
    omega
set_option maxHeartbeats 8000000 in
theorem own_b2_2 (x0 : Int64) (v1 : Int32) (r9 : Int32) (hv1 : v1 = (((x0.toUInt64 >>> ((32 : Int32) &&& 0x3f).toInt64.toUInt64).toInt64).toInt32)) (hc3 : ¬ (v1 = (0 : Int32))) (P9 : r9.toInt = own_nl32 v1.toBitVec.toNat) : r9.toInt = own_nl64 x0.toBitVec.toNat := by
  have a := c_lushr x0 32 32 (by decide) (by decide)
  have b := c_l2i ((x0.toUInt64 >>> ((32 : Int32) &&& 0x3f).toInt64.toUInt64).toInt64)
  rw [← hv1] at b
  have d := own_md x0
  have hl := x0.toBitVec.isLt
  have h' : v1.toInt ≠ 0 := fun q => hc3 (Int32.toInt_inj.mp q)
  have f : v1.toBitVec.toNat = x0.toBitVec.toNat / 4294967296 := by
    have h1 := v1.toBitVec.isLt
    by_cases h : 0 ≤ v1.toInt
    · have := own_nn h; omega
    · have := own_ng (x := v1) (by omega); omega
  have hn : v1.toBitVec.toNat ≠ 0 := by
    intro q
    by_cases h : 0 ≤ v1.toInt
    · have := own_nn h; omega
    · have := own_ng (x := v1) (by omega); have := rng32 v1; omega
  have g := own_lg x0.toBitVec.toNat 32 _ f hn
  unfold own_nl32 at P9
  unfold own_nl64
  rw [if_neg hn] at P9
  rw [if_neg (by omega)]
  omega
theorem pn_1 : plainName "java/lang/Long" = true := by first | (simp [plainName, overriddenIn]; done) | decide +kernel
theorem d2_0 : decode jdk_35_method_48_code 0 = .ok (.lload_n 0, 1) := by decide +kernel
theorem d2_1 : decode jdk_35_method_48_code 1 = .ok (.bipush 32, 2) := by decide +kernel
theorem d2_3 : decode jdk_35_method_48_code 3 = .ok (.lushr, 1) := by decide +kernel
theorem d2_4 : decode jdk_35_method_48_code 4 = .ok (.l2i, 1) := by decide +kernel
theorem d2_5 : decode jdk_35_method_48_code 5 = .ok (.istore_n 2, 1) := by decide +kernel
theorem d2_6 : decode jdk_35_method_48_code 6 = .ok (.iload_n 2, 1) := by decide +kernel
theorem d2_7 : decode jdk_35_method_48_code 7 = .ok (.ifCond .ne 14, 3) := by decide +kernel
theorem d2_10 : decode jdk_35_method_48_code 10 = .ok (.bipush 32, 2) := by decide +kernel
theorem d2_12 : decode jdk_35_method_48_code 12 = .ok (.lload_n 0, 1) := by decide +kernel
theorem d2_13 : decode jdk_35_method_48_code 13 = .ok (.l2i, 1) := by decide +kernel
theorem d2_14 : decode jdk_35_method_48_code 14 = .ok (.invokestatic 308, 3) := by decide +kernel
theorem d2_17 : decode jdk_35_method_48_code 17 = .ok (.iadd, 1) := by decide +kernel
theorem d2_18 : decode jdk_35_method_48_code 18 = .ok (.goto 7, 3) := by decide +kernel
theorem d2_21 : decode jdk_35_method_48_code 21 = .ok (.iload_n 2, 1) := by decide +kernel
theorem d2_22 : decode jdk_35_method_48_code 22 = .ok (.invokestatic 308, 3) := by decide +kernel
theorem d2_25 : decode jdk_35_method_48_code 25 = .ok (.ireturn, 1) := by decide +kernel
theorem ef_2 (m : MethodId) (x0 : Int64) : entryFrame m #[(.long x0)] 3 = mkF m 0 #[.val (.long x0), .second, .unset] [] := by first | (simp [entryFrame, mkF, argsToLocals, Value.category]; done) | rfl
def Q2 (Z : State) (x0 : Int64) (h0 : Heap) (n0 : Nat) (v : Option Value) (h : Heap) (L : List Loc) : Prop := ∃ z : Int32, v = some (.int z) ∧ Fr n0 L ∧ h = h0 ∧ (z.toInt = own_nl64 x0.toBitVec.toNat)
set_option maxRecDepth 65536 in
set_option maxHeartbeats 40000000 in
theorem rm2 (l : Launch) (Z : State) (a0 : Array Value) (hw : ∀ d ∈ tables_1, d.before a0 Z = true) (ws : List Jvm.Cond) (x0 : Int64) (h0 : Heap) (n0 : Nat) (Z0 : n0 ≤ h0.size) :
    MetFree l (⟨"java/lang/Long", "numberOfLeadingZeros", "(J)I"⟩ : MethodName) (head1 (Jvm.Cond.code (⟨"java/lang/Long", "numberOfLeadingZeros", "(J)I"⟩ : MethodName) jdk_35_method_48_code 3 (some .int) :: ws) ({ frames := 1, cells := 0, slots := 0, locals := 14 } : Room)) (fun aa U => aa = #[(.long x0)] ∧ Z.Warmed39 U.vm ∧ U.heap = h0) (fun _ _ _ _ _ => True) (fun _ U o U' => ∃ v L, o = .returned v ∧ Q2 Z x0 h0 n0 v U'.heap L ∧ FrameEnd U o U' L ({ frames := 1, cells := 0, slots := 0, locals := 14 } : Room).cells ({ frames := 1, cells := 0, slots := 0, locals := 14 } : Room).slots) := by
  refine MetFree.of_bodySF (plainFor_of_name pn_1) hisR ?_
  intro p e s m args below meth c s₁ Bd hml0 hP hK
  obtain ⟨rfl, hZ, hh⟩ := hP
  have hx := Bd.exec
  have hby := Bd.bytes
  have hml : c.maxLocals = 3 := hml0
  have hown : s.vm.findClass "java/lang/Long" = some m.cls := findClass_of_methodNamed Bd.named
  have hnm := (name_of_methodNamed Bd.named Bd.method).1
  have X0 : Stand p l e ({ frames := 1, cells := 0, slots := 0, locals := 14 } : Room) s m #[(.long x0)] below meth c s₁ [] 0 0 := Stand.of_body Bd
  have e0 : s₁.heap = h0 := by rw [← hh, Bd.state]; rfl
  have N0 := Fr.nil n0
  have pre0 : ∀ t, Steps p.tables e below (s₁.setTop (mkF m 0 #[.val (.long x0), .second, .unset] [])) t → Steps p.tables e below (s₁.setTop (entryFrame m #[(.long x0)] 3)) t := fun t k => castTop (ef_2 m x0) k
  obtain ⟨v1, hv1⟩ : ∃ z : Int32, z = (((x0.toUInt64 >>> ((32 : Int32) &&& 0x3f).toInt64.toUInt64).toInt64).toInt32) := ⟨_, rfl⟩
  have pre2 : ∀ t, Steps p.tables e below (s₁.setTop (mkF m 7 #[.val (.long x0), .second, .val (.int v1)] [(.int v1)])) t → Steps p.tables e below (s₁.setTop (entryFrame m #[(.long x0)] 3)) t := fun t k => pre0 t (by
    subst hv1
    show Steps p.tables e below (s₁.setTop (mkF m 0 #[.val (.long x0), .second, .unset] [])) _
    refine XS.lloadN X0.here hx rfl (hb hby d2_0) rfl ?_
    show Steps p.tables e below (s₁.setTop (mkF m 1 #[.val (.long x0), .second, .unset] [(.long x0)])) _
    refine XS.bipush X0.here hx rfl (hb hby d2_1) ?_
    show Steps p.tables e below (s₁.setTop (mkF m 3 #[.val (.long x0), .second, .unset] [(.int (32 : Int32)), (.long x0)])) _
    refine XS.lushr X0.here hx rfl (hb hby d2_3) rfl ?_
    show Steps p.tables e below (s₁.setTop (mkF m 4 #[.val (.long x0), .second, .unset] [(.long ((x0.toUInt64 >>> ((32 : Int32) &&& 0x3f).toInt64.toUInt64).toInt64))])) _
    refine XS.l2i X0.here hx rfl (hb hby d2_4) rfl ?_
    show Steps p.tables e below (s₁.setTop (mkF m 5 #[.val (.long x0), .second, .unset] [(.int (((x0.toUInt64 >>> ((32 : Int32) &&& 0x3f).toInt64.toUInt64).toInt64).toInt32))])) _
    refine XS.istoreN X0.here hx rfl (hb hby d2_5) rfl (l' := #[.val (.long x0), .second, .val (.int (((x0.toUInt64 >>> ((32 : Int32) &&& 0x3f).toInt64.toUInt64).toInt64).toInt32))]) rfl ?_
    show Steps p.tables e below (s₁.setTop (mkF m 6 #[.val (.long x0), .second, .val (.int (((x0.toUInt64 >>> ((32 : Int32) &&& 0x3f).toInt64.toUInt64).toInt64).toInt32))] [])) _
    refine XS.iloadN X0.here hx rfl (hb hby d2_6) rfl ?_
    show Steps p.tables e below (s₁.setTop (mkF m 7 #[.val (.long x0), .second, .val (.int (((x0.toUInt64 >>> ((32 : Int32) &&& 0x3f).toInt64.toUInt64).toInt64).toInt32))] [(.int (((x0.toUInt64 >>> ((32 : Int32) &&& 0x3f).toInt64.toUInt64).toInt64).toInt32))])) _
    exact k)
  by_cases hc3 : v1 = (0 : Int32)
  · skip
    have pre4 : ∀ t, Steps p.tables e below (s₁.setTop (mkF m 14 #[.val (.long x0), .second, .val (.int v1)] [(.int (x0.toInt32)), (.int (32 : Int32))])) t → Steps p.tables e below (s₁.setTop (entryFrame m #[(.long x0)] 3)) t := fun t k => pre2 t (by
      show Steps p.tables e below (s₁.setTop (mkF m 7 #[.val (.long x0), .second, .val (.int v1)] [(.int v1)])) _
      refine XS.ifNo X0.here hx rfl (hb hby d2_7) rfl ((if0 _ _).trans (teq hc3).2) ?_
      show Steps p.tables e below (s₁.setTop (mkF m 10 #[.val (.long x0), .second, .val (.int v1)] [])) _
      refine XS.bipush X0.here hx rfl (hb hby d2_10) ?_
      show Steps p.tables e below (s₁.setTop (mkF m 12 #[.val (.long x0), .second, .val (.int v1)] [(.int (32 : Int32))])) _
      refine XS.lloadN X0.here hx rfl (hb hby d2_12) rfl ?_
      show Steps p.tables e below (s₁.setTop (mkF m 13 #[.val (.long x0), .second, .val (.int v1)] [(.long x0), (.int (32 : Int32))])) _
      refine XS.l2i X0.here hx rfl (hb hby d2_13) rfl ?_
      show Steps p.tables e below (s₁.setTop (mkF m 14 #[.val (.long x0), .second, .val (.int v1)] [(.int (x0.toInt32)), (.int (32 : Int32))])) _
      exact k)
    obtain ⟨_, _, ⟨T5, L5, k5, n5⟩, -, X5, ⟨Lc5, hQ5, l5, y5, z5⟩, st5⟩ := Jvm.LawKit.callS X0 hx (y := (⟨"java/lang/Integer", "numberOfLeadingZeros", "(I)I"⟩ : MethodName)) hown (mvT hZ (hw _ (List.mem_of_getElem? (i := 8) rfl))) (mvT hZ (hw _ (List.mem_of_getElem? (i := 9) rfl))) (mvT hZ (hw _ (List.mem_of_getElem? (i := 10) rfl))) (mvT hZ (hw _ (List.mem_of_getElem? (i := 11) rfl))) (by decide) (backOf (W := 1) (rm3 l Z a0 hw [] (x0.toInt32)  h0 n0 Z0 ) hZ (hw _ (List.mem_of_getElem? (i := 11) rfl)) (hw _ (List.mem_of_getElem? (i := 10) rfl)) (by decide) (by decide)) (g := (mkF m 14 #[.val (.long x0), .second, .val (.int v1)] [(.int (x0.toInt32)), (.int (32 : Int32))])) rfl (by rw [hml]; rfl) (argsL := [(.int (x0.toInt32))]) (rest := [(.int (32 : Int32))]) (lenOf pd_0 rfl) rfl (by show 2 * 0 + _ ≤ _; exact Nat.le_of_eq rfl) (hb hby d2_14) (fun _ _ => ⟨rfl, e0, (by decide : 0 + 0 ≤ _), (by decide : 0 + 0 ≤ _)⟩)
    dsimp only [Pt.U, Pt.locs, Pt.cells, Pt.slots] at X5 l5 y5 z5 st5 hQ5
    subst l5 y5 z5
    obtain ⟨r5, rfl, N5q, e5, P5⟩ := hQ5
    have N5 := Fr.app N0 N5q
    have pre6 : ∀ t, Steps p.tables e below (T5.setTop (mkF m 17 #[.val (.long x0), .second, .val (.int v1)] [(.int r5), (.int (32 : Int32))])) t → Steps p.tables e below (s₁.setTop (entryFrame m #[(.long x0)] 3)) t := fun t k => pre4 t (st5 _ k)
    have pre7 : ∀ t, Steps p.tables e below (T5.setTop (mkF m 25 #[.val (.long x0), .second, .val (.int v1)] [(.int ((32 : Int32) + r5))])) t → Steps p.tables e below (s₁.setTop (entryFrame m #[(.long x0)] 3)) t := fun t k => pre6 t (by
      show Steps p.tables e below (T5.setTop (mkF m 17 #[.val (.long x0), .second, .val (.int v1)] [(.int r5), (.int (32 : Int32))])) _
      refine XS.iadd X5.here hx rfl (hb hby d2_17) rfl ?_
      show Steps p.tables e below (T5.setTop (mkF m 18 #[.val (.long x0), .second, .val (.int v1)] [(.int ((32 : Int32) + r5))])) _
      refine XS.goto X5.here hx rfl (pc0 := 18) (pc' := 25) rfl (hb hby d2_18) (by decide) (by decide) ?_
      show Steps p.tables e below (T5.setTop (mkF m 25 #[.val (.long x0), .second, .val (.int v1)] [(.int ((32 : Int32) + r5))])) _
      exact k)
    obtain ⟨fs, hr, hrun, hended, hW, hsame⟩ := X5.leave (v := some (.int ((32 : Int32) + r5))) (fun h => by rw [Bd.returns] at h; cases h)
    refine ⟨_, _, pre7 _ ?_, hrun, hended, _, _, rfl, ?_, ⟨_, rfl⟩, hW, hsame.mono (by decide) (by decide)⟩
    · show Steps p.tables e below (T5.setTop (mkF m 25 #[.val (.long x0), .second, .val (.int v1)] [(.int ((32 : Int32) + r5))])) _
      exact retI X5 hx Bd.returns (hb hby d2_25) hr
    · show Q2 Z x0 h0 n0 _ T5.heap _
      rw [e5]
      exact ⟨_, rfl, N5, rfl, own_b2_1 x0 v1 r5 hv1 hc3 P5⟩
  · skip
    have pre8 : ∀ t, Steps p.tables e below (s₁.setTop (mkF m 22 #[.val (.long x0), .second, .val (.int v1)] [(.int v1)])) t → Steps p.tables e below (s₁.setTop (entryFrame m #[(.long x0)] 3)) t := fun t k => pre2 t (by
      show Steps p.tables e below (s₁.setTop (mkF m 7 #[.val (.long x0), .second, .val (.int v1)] [(.int v1)])) _
      refine XS.ifYes X0.here hx rfl (pc0 := 7) (pc' := 21) rfl (hb hby d2_7) rfl ((if0 _ _).trans (feq hc3).2) (by decide) (by decide) ?_
      show Steps p.tables e below (s₁.setTop (mkF m 21 #[.val (.long x0), .second, .val (.int v1)] [])) _
      refine XS.iloadN X0.here hx rfl (hb hby d2_21) rfl ?_
      show Steps p.tables e below (s₁.setTop (mkF m 22 #[.val (.long x0), .second, .val (.int v1)] [(.int v1)])) _
      exact k)
    obtain ⟨_, _, ⟨T9, L9, k9, n9⟩, -, X9, ⟨Lc9, hQ9, l9, y9, z9⟩, st9⟩ := Jvm.LawKit.callS X0 hx (y := (⟨"java/lang/Integer", "numberOfLeadingZeros", "(I)I"⟩ : MethodName)) hown (mvT hZ (hw _ (List.mem_of_getElem? (i := 8) rfl))) (mvT hZ (hw _ (List.mem_of_getElem? (i := 9) rfl))) (mvT hZ (hw _ (List.mem_of_getElem? (i := 10) rfl))) (mvT hZ (hw _ (List.mem_of_getElem? (i := 11) rfl))) (by decide) (backOf (W := 0) (rm3 l Z a0 hw [] v1  h0 n0 Z0 ) hZ (hw _ (List.mem_of_getElem? (i := 11) rfl)) (hw _ (List.mem_of_getElem? (i := 10) rfl)) (by decide) (by decide)) (g := (mkF m 22 #[.val (.long x0), .second, .val (.int v1)] [(.int v1)])) rfl (by rw [hml]; rfl) (argsL := [(.int v1)]) (rest := []) (lenOf pd_0 rfl) rfl (by show 2 * 0 + _ ≤ _; exact Nat.le_of_eq rfl) (hb hby d2_22) (fun _ _ => ⟨rfl, e0, (by decide : 0 + 0 ≤ _), (by decide : 0 + 0 ≤ _)⟩)
    dsimp only [Pt.U, Pt.locs, Pt.cells, Pt.slots] at X9 l9 y9 z9 st9 hQ9
    subst l9 y9 z9
    obtain ⟨r9, rfl, N9q, e9, P9⟩ := hQ9
    have N9 := Fr.app N0 N9q
    have pre10 : ∀ t, Steps p.tables e below (T9.setTop (mkF m 25 #[.val (.long x0), .second, .val (.int v1)] [(.int r9)])) t → Steps p.tables e below (s₁.setTop (entryFrame m #[(.long x0)] 3)) t := fun t k => pre8 t (st9 _ k)
    obtain ⟨fs, hr, hrun, hended, hW, hsame⟩ := X9.leave (v := some (.int r9)) (fun h => by rw [Bd.returns] at h; cases h)
    refine ⟨_, _, pre10 _ ?_, hrun, hended, _, _, rfl, ?_, ⟨_, rfl⟩, hW, hsame.mono (by decide) (by decide)⟩
    · show Steps p.tables e below (T9.setTop (mkF m 25 #[.val (.long x0), .second, .val (.int v1)] [(.int r9)])) _
      exact retI X9 hx Bd.returns (hb hby d2_25) hr
    · show Q2 Z x0 h0 n0 _ T9.heap _
      rw [e9]
      exact ⟨_, rfl, N9, rfl, own_b2_2 x0 v1 r9 hv1 hc3 P9⟩
def F4 (x0 : Int32) (x1 : Int32) : Int32 := (if x0 < x1 then x1 else x0)
theorem d4_0 : decode jdk_29_method_65_code 0 = .ok (.iload_n 0, 1) := by decide +kernel
theorem d4_1 : decode jdk_29_method_65_code 1 = .ok (.iload_n 1, 1) := by decide +kernel
theorem d4_2 : decode jdk_29_method_65_code 2 = .ok (.if_icmp .lt 7, 3) := by decide +kernel
theorem d4_5 : decode jdk_29_method_65_code 5 = .ok (.iload_n 0, 1) := by decide +kernel
theorem d4_6 : decode jdk_29_method_65_code 6 = .ok (.goto 4, 3) := by decide +kernel
theorem d4_9 : decode jdk_29_method_65_code 9 = .ok (.iload_n 1, 1) := by decide +kernel
theorem d4_10 : decode jdk_29_method_65_code 10 = .ok (.ireturn, 1) := by decide +kernel
theorem ef_4 (m : MethodId) (x0 : Int32) (x1 : Int32) : entryFrame m #[(.int x0), (.int x1)] 2 = mkF m 0 #[.val (.int x0), .val (.int x1)] [] := by first | (simp [entryFrame, mkF, argsToLocals, Value.category]; done) | rfl
def Q4 (Z : State) (x0 : Int32) (x1 : Int32) (h0 : Heap) (n0 : Nat) (v : Option Value) (h : Heap) (L : List Loc) : Prop := ∃ z : Int32, v = some (.int z) ∧ Fr n0 L ∧ h = h0 ∧ z = F4 x0 x1
set_option maxRecDepth 65536 in
set_option maxHeartbeats 40000000 in
theorem rm4 (l : Launch) (Z : State) (a0 : Array Value) (hw : ∀ d ∈ tables_1, d.before a0 Z = true) (ws : List Jvm.Cond) (x0 : Int32) (x1 : Int32) (h0 : Heap) (n0 : Nat) (Z0 : n0 ≤ h0.size) :
    MetFree l (⟨"java/lang/Math", "max", "(II)I"⟩ : MethodName) (head1 (Jvm.Cond.code (⟨"java/lang/Math", "max", "(II)I"⟩ : MethodName) jdk_29_method_65_code 2 (some .int) :: ws) ({ frames := 0, cells := 0, slots := 0, locals := 0 } : Room)) (fun aa U => aa = #[(.int x0), (.int x1)] ∧ Z.Warmed39 U.vm ∧ U.heap = h0) (fun _ _ _ _ _ => True) (fun _ U o U' => ∃ v L, o = .returned v ∧ Q4 Z x0 x1 h0 n0 v U'.heap L ∧ FrameEnd U o U' L ({ frames := 0, cells := 0, slots := 0, locals := 0 } : Room).cells ({ frames := 0, cells := 0, slots := 0, locals := 0 } : Room).slots) := by
  refine MetFree.of_bodySF (Jvm.Free.JP.mathPlain rfl (by decide +kernel)) hisR ?_
  intro p e s m args below meth c s₁ Bd hml0 hP hK
  obtain ⟨rfl, hZ, hh⟩ := hP
  have hx := Bd.exec
  have hby := Bd.bytes
  have hml : c.maxLocals = 2 := hml0
  have hown : s.vm.findClass "java/lang/Math" = some m.cls := findClass_of_methodNamed Bd.named
  have hnm := (name_of_methodNamed Bd.named Bd.method).1
  have X0 : Stand p l e ({ frames := 0, cells := 0, slots := 0, locals := 0 } : Room) s m #[(.int x0), (.int x1)] below meth c s₁ [] 0 0 := Stand.of_body Bd
  have e0 : s₁.heap = h0 := by rw [← hh, Bd.state]; rfl
  have N0 := Fr.nil n0
  have pre0 : ∀ t, Steps p.tables e below (s₁.setTop (mkF m 0 #[.val (.int x0), .val (.int x1)] [])) t → Steps p.tables e below (s₁.setTop (entryFrame m #[(.int x0), (.int x1)] 2)) t := fun t k => castTop (ef_4 m x0 x1) k
  obtain ⟨v2, hv2⟩ : ∃ z : Int32, z = (if x0 < x1 then x1 else x0) := ⟨_, rfl⟩
  have pre3 : ∀ t, Steps p.tables e below (s₁.setTop (mkF m 10 #[.val (.int x0), .val (.int x1)] [(.int v2)])) t → Steps p.tables e below (s₁.setTop (entryFrame m #[(.int x0), (.int x1)] 2)) t := fun t k => pre0 t (by
    show Steps p.tables e below (s₁.setTop (mkF m 0 #[.val (.int x0), .val (.int x1)] [])) _
    refine XS.iloadN X0.here hx rfl (hb hby d4_0) rfl ?_
    show Steps p.tables e below (s₁.setTop (mkF m 1 #[.val (.int x0), .val (.int x1)] [(.int x0)])) _
    refine XS.iloadN X0.here hx rfl (hb hby d4_1) rfl ?_
    show Steps p.tables e below (s₁.setTop (mkF m 2 #[.val (.int x0), .val (.int x1)] [(.int x1), (.int x0)])) _
    by_cases hc1 : x0 < x1
    · skip
      refine XS.icmpYes X0.here hx rfl (pc0 := 2) (pc' := 9) rfl (hb hby d4_2) rfl (tlt hc1).1 (by decide) (by decide) ?_
      show Steps p.tables e below (s₁.setTop (mkF m 9 #[.val (.int x0), .val (.int x1)] [])) _
      refine XS.iloadN X0.here hx rfl (hb hby d4_9) rfl ?_
      show Steps p.tables e below (s₁.setTop (mkF m 10 #[.val (.int x0), .val (.int x1)] [(.int x1)])) _
      rw [show v2 = x1 from by rw [hv2, if_pos hc1]] at k
      exact k
    · skip
      refine XS.icmpNo X0.here hx rfl (hb hby d4_2) rfl (flt hc1).1 ?_
      show Steps p.tables e below (s₁.setTop (mkF m 5 #[.val (.int x0), .val (.int x1)] [])) _
      refine XS.iloadN X0.here hx rfl (hb hby d4_5) rfl ?_
      show Steps p.tables e below (s₁.setTop (mkF m 6 #[.val (.int x0), .val (.int x1)] [(.int x0)])) _
      refine XS.goto X0.here hx rfl (pc0 := 6) (pc' := 10) rfl (hb hby d4_6) (by decide) (by decide) ?_
      show Steps p.tables e below (s₁.setTop (mkF m 10 #[.val (.int x0), .val (.int x1)] [(.int x0)])) _
      rw [show v2 = x0 from by rw [hv2, if_neg hc1]] at k
      exact k)
  obtain ⟨fs, hr, hrun, hended, hW, hsame⟩ := X0.leave (v := some (.int v2)) (fun h => by rw [Bd.returns] at h; cases h)
  refine ⟨_, _, pre3 _ ?_, hrun, hended, _, _, rfl, ?_, ⟨_, rfl⟩, hW, hsame.mono (by decide) (by decide)⟩
  · show Steps p.tables e below (s₁.setTop (mkF m 10 #[.val (.int x0), .val (.int x1)] [(.int v2)])) _
    exact retI X0 hx Bd.returns (hb hby d4_10) hr
  · show Q4 Z x0 x1 h0 n0 _ s₁.heap _
    rw [e0]
    exact ⟨_, rfl, N0, rfl, by subst hv2; rw [F4]⟩
theorem pd_1 : parseMethodDescriptor "(J)I" = some ⟨[.long], some .int⟩ := by decide +kernel
theorem pd_2 : parseMethodDescriptor "(II)I" = some ⟨[.int, .int], some .int⟩ := by decide +kernel
set_option maxHeartbeats 8000000 in
theorem own_b1_1 (x0 : Int64) (r2 : Int32) (r5 : Int32) (P2 : r2.toInt = own_nl64 x0.toBitVec.toNat) (P5 : r5 = F4 (1 : Int32) (((70 : Int32) - r2) / (7 : Int32))) : r5.toInt = own_len x0.toBitVec.toNat := by
  have hl := x0.toBitVec.isLt
  have a := c_isub 70 r2
  have b := rng32 (70 - r2)
  have c := c_idiv (70 - r2) 7 7 (by decide) (by decide)
  have z0 : (1 : Int32).toInt = 1 := by decide
  have z1 : (70 : Int32).toInt = 70 := by decide
  unfold F4 at P5
  have d := congrArg Int32.toInt P5
  simp only [apply_ite Int32.toInt, Int32.lt_iff_toInt_lt, z0] at d
  unfold own_nl64 at P2
  unfold own_len
  by_cases h : x0.toBitVec.toNat = 0
  · rw [if_pos h] at P2
    rw [h]
    have : (Nat.log2 0 : Int) = 0 := by decide
    omega
  · rw [if_neg h] at P2
    have : x0.toBitVec.toNat.log2 < 64 := (Nat.log2_lt h).mpr (by omega)
    omega
theorem pn_2 : plainName "com/example/tidemark/tidemark/Varints" = true := by first | (simp [plainName, overriddenIn]; done) | decide +kernel
theorem d1_0 : decode prog_41_method_6_code 0 = .ok (.iconst 1, 1) := by decide +kernel
theorem d1_1 : decode prog_41_method_6_code 1 = .ok (.bipush 70, 2) := by decide +kernel
theorem d1_3 : decode prog_41_method_6_code 3 = .ok (.lload_n 0, 1) := by decide +kernel
theorem d1_4 : decode prog_41_method_6_code 4 = .ok (.invokestatic 42, 3) := by decide +kernel
theorem d1_7 : decode prog_41_method_6_code 7 = .ok (.isub, 1) := by decide +kernel
theorem d1_8 : decode prog_41_method_6_code 8 = .ok (.bipush 7, 2) := by decide +kernel
theorem d1_10 : decode prog_41_method_6_code 10 = .ok (.idiv, 1) := by decide +kernel
theorem d1_11 : decode prog_41_method_6_code 11 = .ok (.invokestatic 46, 3) := by decide +kernel
theorem d1_14 : decode prog_41_method_6_code 14 = .ok (.ireturn, 1) := by decide +kernel
theorem ef_1 (m : MethodId) (x0 : Int64) : entryFrame m #[(.long x0)] 2 = mkF m 0 #[.val (.long x0), .second] [] := by first | (simp [entryFrame, mkF, argsToLocals, Value.category]; done) | rfl
def Q1 (Z : State) (x0 : Int64) (h0 : Heap) (n0 : Nat) (v : Option Value) (h : Heap) (L : List Loc) : Prop := ∃ z : Int32, v = some (.int z) ∧ Fr n0 L ∧ h = h0 ∧ (z.toInt = own_len x0.toBitVec.toNat)
set_option maxRecDepth 65536 in
set_option maxHeartbeats 40000000 in
theorem rm1 (l : Launch) (Z : State) (a0 : Array Value) (hw : ∀ d ∈ tables_1, d.before a0 Z = true) (ws : List Jvm.Cond) (x0 : Int64) (h0 : Heap) (n0 : Nat) (Z0 : n0 ≤ h0.size) :
    MetFree l (⟨"com/example/tidemark/tidemark/Varints", "unsignedLength", "(J)I"⟩ : MethodName) (head1 (Jvm.Cond.code (⟨"com/example/tidemark/tidemark/Varints", "unsignedLength", "(J)I"⟩ : MethodName) prog_41_method_6_code 2 (some .int) :: ws) ({ frames := 2, cells := 0, slots := 0, locals := 30 } : Room)) (fun aa U => aa = #[(.long x0)] ∧ Z.Warmed39 U.vm ∧ U.heap = h0) (fun _ _ _ _ _ => True) (fun _ U o U' => ∃ v L, o = .returned v ∧ Q1 Z x0 h0 n0 v U'.heap L ∧ FrameEnd U o U' L ({ frames := 2, cells := 0, slots := 0, locals := 30 } : Room).cells ({ frames := 2, cells := 0, slots := 0, locals := 30 } : Room).slots) := by
  refine MetFree.of_bodySF (plainFor_of_name pn_2) hisR ?_
  intro p e s m args below meth c s₁ Bd hml0 hP hK
  obtain ⟨rfl, hZ, hh⟩ := hP
  have hx := Bd.exec
  have hby := Bd.bytes
  have hml : c.maxLocals = 2 := hml0
  have hown : s.vm.findClass "com/example/tidemark/tidemark/Varints" = some m.cls := findClass_of_methodNamed Bd.named
  have hnm := (name_of_methodNamed Bd.named Bd.method).1
  have X0 : Stand p l e ({ frames := 2, cells := 0, slots := 0, locals := 30 } : Room) s m #[(.long x0)] below meth c s₁ [] 0 0 := Stand.of_body Bd
  have e0 : s₁.heap = h0 := by rw [← hh, Bd.state]; rfl
  have N0 := Fr.nil n0
  have pre0 : ∀ t, Steps p.tables e below (s₁.setTop (mkF m 0 #[.val (.long x0), .second] [])) t → Steps p.tables e below (s₁.setTop (entryFrame m #[(.long x0)] 2)) t := fun t k => castTop (ef_1 m x0) k
  have pre1 : ∀ t, Steps p.tables e below (s₁.setTop (mkF m 4 #[.val (.long x0), .second] [(.long x0), (.int (70 : Int32)), (.int (1 : Int32))])) t → Steps p.tables e below (s₁.setTop (entryFrame m #[(.long x0)] 2)) t := fun t k => pre0 t (by
    show Steps p.tables e below (s₁.setTop (mkF m 0 #[.val (.long x0), .second] [])) _
    refine XS.iconst X0.here hx rfl (hb hby d1_0) ?_
    show Steps p.tables e below (s₁.setTop (mkF m 1 #[.val (.long x0), .second] [(.int (1 : Int32))])) _
    refine XS.bipush X0.here hx rfl (hb hby d1_1) ?_
    show Steps p.tables e below (s₁.setTop (mkF m 3 #[.val (.long x0), .second] [(.int (70 : Int32)), (.int (1 : Int32))])) _
    refine XS.lloadN X0.here hx rfl (hb hby d1_3) rfl ?_
    show Steps p.tables e below (s₁.setTop (mkF m 4 #[.val (.long x0), .second] [(.long x0), (.int (70 : Int32)), (.int (1 : Int32))])) _
    exact k)
  obtain ⟨_, _, ⟨T2, L2, k2, n2⟩, -, X2, ⟨Lc2, hQ2, l2, y2, z2⟩, st2⟩ := Jvm.LawKit.callS X0 hx (y := (⟨"java/lang/Long", "numberOfLeadingZeros", "(J)I"⟩ : MethodName)) hown (mvT hZ (hw _ (List.mem_of_getElem? (i := 4) rfl))) (mvT hZ (hw _ (List.mem_of_getElem? (i := 5) rfl))) (mvT hZ (hw _ (List.mem_of_getElem? (i := 6) rfl))) (mvT hZ (hw _ (List.mem_of_getElem? (i := 7) rfl))) (by decide) (backOf (W := 2) (rm2 l Z a0 hw [] x0  h0 n0 Z0 ) hZ (hw _ (List.mem_of_getElem? (i := 7) rfl)) (hw _ (List.mem_of_getElem? (i := 6) rfl)) (by decide) (by decide)) (g := (mkF m 4 #[.val (.long x0), .second] [(.long x0), (.int (70 : Int32)), (.int (1 : Int32))])) rfl (by rw [hml]; rfl) (argsL := [(.long x0)]) (rest := [(.int (70 : Int32)), (.int (1 : Int32))]) (lenOf pd_1 rfl) rfl (by show 2 * 0 + _ ≤ _; exact Nat.le_of_eq rfl) (hb hby d1_4) (fun _ _ => ⟨rfl, e0, (by decide : 0 + 0 ≤ _), (by decide : 0 + 0 ≤ _)⟩)
  dsimp only [Pt.U, Pt.locs, Pt.cells, Pt.slots] at X2 l2 y2 z2 st2 hQ2
  subst l2 y2 z2
  obtain ⟨r2, rfl, N2q, e2, P2⟩ := hQ2
  have N2 := Fr.app N0 N2q
  have pre3 : ∀ t, Steps p.tables e below (T2.setTop (mkF m 7 #[.val (.long x0), .second] [(.int r2), (.int (70 : Int32)), (.int (1 : Int32))])) t → Steps p.tables e below (s₁.setTop (entryFrame m #[(.long x0)] 2)) t := fun t k => pre1 t (st2 _ k)
  have pre4 : ∀ t, Steps p.tables e below (T2.setTop (mkF m 11 #[.val (.long x0), .second] [(.int (((70 : Int32) - r2) / (7 : Int32))), (.int (1 : Int32))])) t → Steps p.tables e below (s₁.setTop (entryFrame m #[(.long x0)] 2)) t := fun t k => pre3 t (by
    show Steps p.tables e below (T2.setTop (mkF m 7 #[.val (.long x0), .second] [(.int r2), (.int (70 : Int32)), (.int (1 : Int32))])) _
    refine XS.isub X2.here hx rfl (hb hby d1_7) rfl ?_
    show Steps p.tables e below (T2.setTop (mkF m 8 #[.val (.long x0), .second] [(.int ((70 : Int32) - r2)), (.int (1 : Int32))])) _
    refine XS.bipush X2.here hx rfl (hb hby d1_8) ?_
    show Steps p.tables e below (T2.setTop (mkF m 10 #[.val (.long x0), .second] [(.int (7 : Int32)), (.int ((70 : Int32) - r2)), (.int (1 : Int32))])) _
    refine XS.idiv X2.here hx rfl (hb hby d1_10) rfl (by decide) ?_
    show Steps p.tables e below (T2.setTop (mkF m 11 #[.val (.long x0), .second] [(.int (((70 : Int32) - r2) / (7 : Int32))), (.int (1 : Int32))])) _
    exact k)
  obtain ⟨_, _, ⟨T5, L5, k5, n5⟩, -, X5, ⟨Lc5, hQ5, l5, y5, z5⟩, st5⟩ := Jvm.LawKit.callS X2 hx (y := (⟨"java/lang/Math", "max", "(II)I"⟩ : MethodName)) hown (mvT hZ (hw _ (List.mem_of_getElem? (i := 12) rfl))) (mvT hZ (hw _ (List.mem_of_getElem? (i := 13) rfl))) (mvT hZ (hw _ (List.mem_of_getElem? (i := 14) rfl))) (mvT hZ (hw _ (List.mem_of_getElem? (i := 15) rfl))) (by decide) (backOf (W := 0) (rm4 l Z a0 hw [] (1 : Int32) (((70 : Int32) - r2) / (7 : Int32))  h0 n0 Z0 ) hZ (hw _ (List.mem_of_getElem? (i := 15) rfl)) (hw _ (List.mem_of_getElem? (i := 14) rfl)) (by decide) (by decide)) (g := (mkF m 11 #[.val (.long x0), .second] [(.int (((70 : Int32) - r2) / (7 : Int32))), (.int (1 : Int32))])) rfl (by rw [hml]; rfl) (argsL := [(.int (1 : Int32)), (.int (((70 : Int32) - r2) / (7 : Int32)))]) (rest := []) (lenOf pd_2 rfl) rfl (by show 2 * 0 + _ ≤ _; exact Nat.le_of_eq rfl) (hb hby d1_11) (fun _ _ => ⟨rfl, e2, (by decide : 0 + 0 ≤ _), (by decide : 0 + 0 ≤ _)⟩)
  dsimp only [Pt.U, Pt.locs, Pt.cells, Pt.slots] at X5 l5 y5 z5 st5 hQ5
  subst l5 y5 z5
  obtain ⟨r5, rfl, N5q, e5, P5⟩ := hQ5
  have N5 := Fr.app N2 N5q
  have pre6 : ∀ t, Steps p.tables e below (T5.setTop (mkF m 14 #[.val (.long x0), .second] [(.int r5)])) t → Steps p.tables e below (s₁.setTop (entryFrame m #[(.long x0)] 2)) t := fun t k => pre4 t (st5 _ k)
  obtain ⟨fs, hr, hrun, hended, hW, hsame⟩ := X5.leave (v := some (.int r5)) (fun h => by rw [Bd.returns] at h; cases h)
  refine ⟨_, _, pre6 _ ?_, hrun, hended, _, _, rfl, ?_, ⟨_, rfl⟩, hW, hsame.mono (by decide) (by decide)⟩
  · show Steps p.tables e below (T5.setTop (mkF m 14 #[.val (.long x0), .second] [(.int r5)])) _
    exact retI X5 hx Bd.returns (hb hby d1_14) hr
  · show Q1 Z x0 h0 n0 _ T5.heap _
    rw [e5]
    exact ⟨_, rfl, N5, rfl, own_b1_1 x0 r2 r5 P2 P5⟩
set_option maxHeartbeats 8000000 in
theorem own_b5_1 (x0 : Int64) (hc2 : ((x0.toUInt64 >>> ((7 : Int32) &&& 0x3f).toInt64.toUInt64).toInt64) = (0 : Int64)) : (1 : Int32).toInt = own_len x0.toBitVec.toNat := by
  have h := own_l63 x0
  unfold own_len
  simp only [own_z x0 7 7 128 (by decide) (by decide) (by decide), own_z x0 14 14 16384 (by decide) (by decide) (by decide), own_z x0 21 21 2097152 (by decide) (by decide) (by decide), own_z x0 28 28 268435456 (by decide) (by decide) (by decide), own_z x0 35 35 34359738368 (by decide) (by decide) (by decide), own_z x0 42 42 4398046511104 (by decide) (by decide) (by decide), own_z x0 49 49 562949953421312 (by decide) (by decide) (by decide), own_z x0 56 56 72057594037927936 (by decide) (by decide) (by decide), own_z x0 63 63 9223372036854775808 (by decide) (by decide) (by decide)] at *
  have e : (1 : Int32).toInt = 1 := by decide
  rw [e]; omega
set_option maxHeartbeats 8000000 in
theorem own_b5_2 (x0 : Int64) (hc2 : ¬ (((x0.toUInt64 >>> ((7 : Int32) &&& 0x3f).toInt64.toUInt64).toInt64) = (0 : Int64))) (hc5 : ((x0.toUInt64 >>> ((14 : Int32) &&& 0x3f).toInt64.toUInt64).toInt64) = (0 : Int64)) : (2 : Int32).toInt = own_len x0.toBitVec.toNat := by
  have h := own_l63 x0
  unfold own_len
  simp only [own_z x0 7 7 128 (by decide) (by decide) (by decide), own_z x0 14 14 16384 (by decide) (by decide) (by decide), own_z x0 21 21 2097152 (by decide) (by decide) (by decide), own_z x0 28 28 268435456 (by decide) (by decide) (by decide), own_z x0 35 35 34359738368 (by decide) (by decide) (by decide), own_z x0 42 42 4398046511104 (by decide) (by decide) (by decide), own_z x0 49 49 562949953421312 (by decide) (by decide) (by decide), own_z x0 56 56 72057594037927936 (by decide) (by decide) (by decide), own_z x0 63 63 9223372036854775808 (by decide) (by decide) (by decide)] at *
  have e : (2 : Int32).toInt = 2 := by decide
  rw [e]; omega
set_option maxHeartbeats 8000000 in
theorem own_b5_3 (x0 : Int64) (hc2 : ¬ (((x0.toUInt64 >>> ((7 : Int32) &&& 0x3f).toInt64.toUInt64).toInt64) = (0 : Int64))) (hc5 : ¬ (((x0.toUInt64 >>> ((14 : Int32) &&& 0x3f).toInt64.toUInt64).toInt64) = (0 : Int64))) (hc8 : ((x0.toUInt64 >>> ((21 : Int32) &&& 0x3f).toInt64.toUInt64).toInt64) = (0 : Int64)) : (3 : Int32).toInt = own_len x0.toBitVec.toNat := by
  have h := own_l63 x0
  unfold own_len
  simp only [own_z x0 7 7 128 (by decide) (by decide) (by decide), own_z x0 14 14 16384 (by decide) (by decide) (by decide), own_z x0 21 21 2097152 (by decide) (by decide) (by decide), own_z x0 28 28 268435456 (by decide) (by decide) (by decide), own_z x0 35 35 34359738368 (by decide) (by decide) (by decide), own_z x0 42 42 4398046511104 (by decide) (by decide) (by decide), own_z x0 49 49 562949953421312 (by decide) (by decide) (by decide), own_z x0 56 56 72057594037927936 (by decide) (by decide) (by decide), own_z x0 63 63 9223372036854775808 (by decide) (by decide) (by decide)] at *
  have e : (3 : Int32).toInt = 3 := by decide
  rw [e]; omega
set_option maxHeartbeats 8000000 in
theorem own_b5_4 (x0 : Int64) (hc2 : ¬ (((x0.toUInt64 >>> ((7 : Int32) &&& 0x3f).toInt64.toUInt64).toInt64) = (0 : Int64))) (hc5 : ¬ (((x0.toUInt64 >>> ((14 : Int32) &&& 0x3f).toInt64.toUInt64).toInt64) = (0 : Int64))) (hc8 : ¬ (((x0.toUInt64 >>> ((21 : Int32) &&& 0x3f).toInt64.toUInt64).toInt64) = (0 : Int64))) (hc11 : ((x0.toUInt64 >>> ((28 : Int32) &&& 0x3f).toInt64.toUInt64).toInt64) = (0 : Int64)) : (4 : Int32).toInt = own_len x0.toBitVec.toNat := by
  have h := own_l63 x0
  unfold own_len
  simp only [own_z x0 7 7 128 (by decide) (by decide) (by decide), own_z x0 14 14 16384 (by decide) (by decide) (by decide), own_z x0 21 21 2097152 (by decide) (by decide) (by decide), own_z x0 28 28 268435456 (by decide) (by decide) (by decide), own_z x0 35 35 34359738368 (by decide) (by decide) (by decide), own_z x0 42 42 4398046511104 (by decide) (by decide) (by decide), own_z x0 49 49 562949953421312 (by decide) (by decide) (by decide), own_z x0 56 56 72057594037927936 (by decide) (by decide) (by decide), own_z x0 63 63 9223372036854775808 (by decide) (by decide) (by decide)] at *
  have e : (4 : Int32).toInt = 4 := by decide
  rw [e]; omega
set_option maxHeartbeats 8000000 in
theorem own_b5_5 (x0 : Int64) (hc2 : ¬ (((x0.toUInt64 >>> ((7 : Int32) &&& 0x3f).toInt64.toUInt64).toInt64) = (0 : Int64))) (hc5 : ¬ (((x0.toUInt64 >>> ((14 : Int32) &&& 0x3f).toInt64.toUInt64).toInt64) = (0 : Int64))) (hc8 : ¬ (((x0.toUInt64 >>> ((21 : Int32) &&& 0x3f).toInt64.toUInt64).toInt64) = (0 : Int64))) (hc11 : ¬ (((x0.toUInt64 >>> ((28 : Int32) &&& 0x3f).toInt64.toUInt64).toInt64) = (0 : Int64))) (hc14 : ((x0.toUInt64 >>> ((35 : Int32) &&& 0x3f).toInt64.toUInt64).toInt64) = (0 : Int64)) : (5 : Int32).toInt = own_len x0.toBitVec.toNat := by
  have h := own_l63 x0
  unfold own_len
  simp only [own_z x0 7 7 128 (by decide) (by decide) (by decide), own_z x0 14 14 16384 (by decide) (by decide) (by decide), own_z x0 21 21 2097152 (by decide) (by decide) (by decide), own_z x0 28 28 268435456 (by decide) (by decide) (by decide), own_z x0 35 35 34359738368 (by decide) (by decide) (by decide), own_z x0 42 42 4398046511104 (by decide) (by decide) (by decide), own_z x0 49 49 562949953421312 (by decide) (by decide) (by decide), own_z x0 56 56 72057594037927936 (by decide) (by decide) (by decide), own_z x0 63 63 9223372036854775808 (by decide) (by decide) (by decide)] at *
  have e : (5 : Int32).toInt = 5 := by decide
  rw [e]; omega
set_option maxHeartbeats 8000000 in
theorem own_b5_6 (x0 : Int64) (hc2 : ¬ (((x0.toUInt64 >>> ((7 : Int32) &&& 0x3f).toInt64.toUInt64).toInt64) = (0 : Int64))) (hc5 : ¬ (((x0.toUInt64 >>> ((14 : Int32) &&& 0x3f).toInt64.toUInt64).toInt64) = (0 : Int64))) (hc8 : ¬ (((x0.toUInt64 >>> ((21 : Int32) &&& 0x3f).toInt64.toUInt64).toInt64) = (0 : Int64))) (hc11 : ¬ (((x0.toUInt64 >>> ((28 : Int32) &&& 0x3f).toInt64.toUInt64).toInt64) = (0 : Int64))) (hc14 : ¬ (((x0.toUInt64 >>> ((35 : Int32) &&& 0x3f).toInt64.toUInt64).toInt64) = (0 : Int64))) (hc17 : ((x0.toUInt64 >>> ((42 : Int32) &&& 0x3f).toInt64.toUInt64).toInt64) = (0 : Int64)) : (6 : Int32).toInt = own_len x0.toBitVec.toNat := by
  have h := own_l63 x0
  unfold own_len
  simp only [own_z x0 7 7 128 (by decide) (by decide) (by decide), own_z x0 14 14 16384 (by decide) (by decide) (by decide), own_z x0 21 21 2097152 (by decide) (by decide) (by decide), own_z x0 28 28 268435456 (by decide) (by decide) (by decide), own_z x0 35 35 34359738368 (by decide) (by decide) (by decide), own_z x0 42 42 4398046511104 (by decide) (by decide) (by decide), own_z x0 49 49 562949953421312 (by decide) (by decide) (by decide), own_z x0 56 56 72057594037927936 (by decide) (by decide) (by decide), own_z x0 63 63 9223372036854775808 (by decide) (by decide) (by decide)] at *
  have e : (6 : Int32).toInt = 6 := by decide
  rw [e]; omega
set_option maxHeartbeats 8000000 in
theorem own_b5_7 (x0 : Int64) (hc2 : ¬ (((x0.toUInt64 >>> ((7 : Int32) &&& 0x3f).toInt64.toUInt64).toInt64) = (0 : Int64))) (hc5 : ¬ (((x0.toUInt64 >>> ((14 : Int32) &&& 0x3f).toInt64.toUInt64).toInt64) = (0 : Int64))) (hc8 : ¬ (((x0.toUInt64 >>> ((21 : Int32) &&& 0x3f).toInt64.toUInt64).toInt64) = (0 : Int64))) (hc11 : ¬ (((x0.toUInt64 >>> ((28 : Int32) &&& 0x3f).toInt64.toUInt64).toInt64) = (0 : Int64))) (hc14 : ¬ (((x0.toUInt64 >>> ((35 : Int32) &&& 0x3f).toInt64.toUInt64).toInt64) = (0 : Int64))) (hc17 : ¬ (((x0.toUInt64 >>> ((42 : Int32) &&& 0x3f).toInt64.toUInt64).toInt64) = (0 : Int64))) (hc20 : ((x0.toUInt64 >>> ((49 : Int32) &&& 0x3f).toInt64.toUInt64).toInt64) = (0 : Int64)) : (7 : Int32).toInt = own_len x0.toBitVec.toNat := by
  have h := own_l63 x0
  unfold own_len
  simp only [own_z x0 7 7 128 (by decide) (by decide) (by decide), own_z x0 14 14 16384 (by decide) (by decide) (by decide), own_z x0 21 21 2097152 (by decide) (by decide) (by decide), own_z x0 28 28 268435456 (by decide) (by decide) (by decide), own_z x0 35 35 34359738368 (by decide) (by decide) (by decide), own_z x0 42 42 4398046511104 (by decide) (by decide) (by decide), own_z x0 49 49 562949953421312 (by decide) (by decide) (by decide), own_z x0 56 56 72057594037927936 (by decide) (by decide) (by decide), own_z x0 63 63 9223372036854775808 (by decide) (by decide) (by decide)] at *
  have e : (7 : Int32).toInt = 7 := by decide
  rw [e]; omega
set_option maxHeartbeats 8000000 in
theorem own_b5_8 (x0 : Int64) (hc2 : ¬ (((x0.toUInt64 >>> ((7 : Int32) &&& 0x3f).toInt64.toUInt64).toInt64) = (0 : Int64))) (hc5 : ¬ (((x0.toUInt64 >>> ((14 : Int32) &&& 0x3f).toInt64.toUInt64).toInt64) = (0 : Int64))) (hc8 : ¬ (((x0.toUInt64 >>> ((21 : Int32) &&& 0x3f).toInt64.toUInt64).toInt64) = (0 : Int64))) (hc11 : ¬ (((x0.toUInt64 >>> ((28 : Int32) &&& 0x3f).toInt64.toUInt64).toInt64) = (0 : Int64))) (hc14 : ¬ (((x0.toUInt64 >>> ((35 : Int32) &&& 0x3f).toInt64.toUInt64).toInt64) = (0 : Int64))) (hc17 : ¬ (((x0.toUInt64 >>> ((42 : Int32) &&& 0x3f).toInt64.toUInt64).toInt64) = (0 : Int64))) (hc20 : ¬ (((x0.toUInt64 >>> ((49 : Int32) &&& 0x3f).toInt64.toUInt64).toInt64) = (0 : Int64))) (hc23 : ((x0.toUInt64 >>> ((56 : Int32) &&& 0x3f).toInt64.toUInt64).toInt64) = (0 : Int64)) : (8 : Int32).toInt = own_len x0.toBitVec.toNat := by
  have h := own_l63 x0
  unfold own_len
  simp only [own_z x0 7 7 128 (by decide) (by decide) (by decide), own_z x0 14 14 16384 (by decide) (by decide) (by decide), own_z x0 21 21 2097152 (by decide) (by decide) (by decide), own_z x0 28 28 268435456 (by decide) (by decide) (by decide), own_z x0 35 35 34359738368 (by decide) (by decide) (by decide), own_z x0 42 42 4398046511104 (by decide) (by decide) (by decide), own_z x0 49 49 562949953421312 (by decide) (by decide) (by decide), own_z x0 56 56 72057594037927936 (by decide) (by decide) (by decide), own_z x0 63 63 9223372036854775808 (by decide) (by decide) (by decide)] at *
  have e : (8 : Int32).toInt = 8 := by decide
  rw [e]; omega
set_option maxHeartbeats 8000000 in
theorem own_b5_9 (x0 : Int64) (hc2 : ¬ (((x0.toUInt64 >>> ((7 : Int32) &&& 0x3f).toInt64.toUInt64).toInt64) = (0 : Int64))) (hc5 : ¬ (((x0.toUInt64 >>> ((14 : Int32) &&& 0x3f).toInt64.toUInt64).toInt64) = (0 : Int64))) (hc8 : ¬ (((x0.toUInt64 >>> ((21 : Int32) &&& 0x3f).toInt64.toUInt64).toInt64) = (0 : Int64))) (hc11 : ¬ (((x0.toUInt64 >>> ((28 : Int32) &&& 0x3f).toInt64.toUInt64).toInt64) = (0 : Int64))) (hc14 : ¬ (((x0.toUInt64 >>> ((35 : Int32) &&& 0x3f).toInt64.toUInt64).toInt64) = (0 : Int64))) (hc17 : ¬ (((x0.toUInt64 >>> ((42 : Int32) &&& 0x3f).toInt64.toUInt64).toInt64) = (0 : Int64))) (hc20 : ¬ (((x0.toUInt64 >>> ((49 : Int32) &&& 0x3f).toInt64.toUInt64).toInt64) = (0 : Int64))) (hc23 : ¬ (((x0.toUInt64 >>> ((56 : Int32) &&& 0x3f).toInt64.toUInt64).toInt64) = (0 : Int64))) (hc26 : ((x0.toUInt64 >>> ((63 : Int32) &&& 0x3f).toInt64.toUInt64).toInt64) = (0 : Int64)) : (9 : Int32).toInt = own_len x0.toBitVec.toNat := by
  have h := own_l63 x0
  unfold own_len
  simp only [own_z x0 7 7 128 (by decide) (by decide) (by decide), own_z x0 14 14 16384 (by decide) (by decide) (by decide), own_z x0 21 21 2097152 (by decide) (by decide) (by decide), own_z x0 28 28 268435456 (by decide) (by decide) (by decide), own_z x0 35 35 34359738368 (by decide) (by decide) (by decide), own_z x0 42 42 4398046511104 (by decide) (by decide) (by decide), own_z x0 49 49 562949953421312 (by decide) (by decide) (by decide), own_z x0 56 56 72057594037927936 (by decide) (by decide) (by decide), own_z x0 63 63 9223372036854775808 (by decide) (by decide) (by decide)] at *
  have e : (9 : Int32).toInt = 9 := by decide
  rw [e]; omega
set_option maxHeartbeats 8000000 in
theorem own_b5_10 (x0 : Int64) (hc2 : ¬ (((x0.toUInt64 >>> ((7 : Int32) &&& 0x3f).toInt64.toUInt64).toInt64) = (0 : Int64))) (hc5 : ¬ (((x0.toUInt64 >>> ((14 : Int32) &&& 0x3f).toInt64.toUInt64).toInt64) = (0 : Int64))) (hc8 : ¬ (((x0.toUInt64 >>> ((21 : Int32) &&& 0x3f).toInt64.toUInt64).toInt64) = (0 : Int64))) (hc11 : ¬ (((x0.toUInt64 >>> ((28 : Int32) &&& 0x3f).toInt64.toUInt64).toInt64) = (0 : Int64))) (hc14 : ¬ (((x0.toUInt64 >>> ((35 : Int32) &&& 0x3f).toInt64.toUInt64).toInt64) = (0 : Int64))) (hc17 : ¬ (((x0.toUInt64 >>> ((42 : Int32) &&& 0x3f).toInt64.toUInt64).toInt64) = (0 : Int64))) (hc20 : ¬ (((x0.toUInt64 >>> ((49 : Int32) &&& 0x3f).toInt64.toUInt64).toInt64) = (0 : Int64))) (hc23 : ¬ (((x0.toUInt64 >>> ((56 : Int32) &&& 0x3f).toInt64.toUInt64).toInt64) = (0 : Int64))) (hc26 : ¬ (((x0.toUInt64 >>> ((63 : Int32) &&& 0x3f).toInt64.toUInt64).toInt64) = (0 : Int64))) : (10 : Int32).toInt = own_len x0.toBitVec.toNat := by
  have h := own_l63 x0
  unfold own_len
  simp only [own_z x0 7 7 128 (by decide) (by decide) (by decide), own_z x0 14 14 16384 (by decide) (by decide) (by decide), own_z x0 21 21 2097152 (by decide) (by decide) (by decide), own_z x0 28 28 268435456 (by decide) (by decide) (by decide), own_z x0 35 35 34359738368 (by decide) (by decide) (by decide), own_z x0 42 42 4398046511104 (by decide) (by decide) (by decide), own_z x0 49 49 562949953421312 (by decide) (by decide) (by decide), own_z x0 56 56 72057594037927936 (by decide) (by decide) (by decide), own_z x0 63 63 9223372036854775808 (by decide) (by decide) (by decide)] at *
  have e : (10 : Int32).toInt = 10 := by decide
  rw [e]; omega
theorem pn_3 : plainName "com/example/tidemark/tidemark/VarintsUnsignedLengthPinLaw" = true := by first | (simp [plainName, overriddenIn]; done) | decide +kernel
theorem d5_0 : decode method_2_code 0 = .ok (.lload_n 0, 1) := by decide +kernel
theorem d5_1 : decode method_2_code 1 = .ok (.bipush 7, 2) := by decide +kernel
theorem d5_3 : decode method_2_code 3 = .ok (.lushr, 1) := by decide +kernel
theorem d5_4 : decode method_2_code 4 = .ok (.lconst 0, 1) := by decide +kernel
theorem d5_5 : decode method_2_code 5 = .ok (.lcmp, 1) := by decide +kernel
theorem d5_6 : decode method_2_code 6 = .ok (.ifCond .ne 5, 3) := by decide +kernel
theorem d5_9 : decode method_2_code 9 = .ok (.iconst 1, 1) := by decide +kernel
theorem d5_10 : decode method_2_code 10 = .ok (.ireturn, 1) := by decide +kernel
theorem d5_11 : decode method_2_code 11 = .ok (.lload_n 0, 1) := by decide +kernel
theorem d5_12 : decode method_2_code 12 = .ok (.bipush 14, 2) := by decide +kernel
theorem d5_14 : decode method_2_code 14 = .ok (.lushr, 1) := by decide +kernel
theorem d5_15 : decode method_2_code 15 = .ok (.lconst 0, 1) := by decide +kernel
theorem d5_16 : decode method_2_code 16 = .ok (.lcmp, 1) := by decide +kernel
theorem d5_17 : decode method_2_code 17 = .ok (.ifCond .ne 5, 3) := by decide +kernel
theorem d5_20 : decode method_2_code 20 = .ok (.iconst 2, 1) := by decide +kernel
theorem d5_21 : decode method_2_code 21 = .ok (.ireturn, 1) := by decide +kernel
theorem d5_22 : decode method_2_code 22 = .ok (.lload_n 0, 1) := by decide +kernel
theorem d5_23 : decode method_2_code 23 = .ok (.bipush 21, 2) := by decide +kernel
theorem d5_25 : decode method_2_code 25 = .ok (.lushr, 1) := by decide +kernel
theorem d5_26 : decode method_2_code 26 = .ok (.lconst 0, 1) := by decide +kernel
theorem d5_27 : decode method_2_code 27 = .ok (.lcmp, 1) := by decide +kernel
theorem d5_28 : decode method_2_code 28 = .ok (.ifCond .ne 5, 3) := by decide +kernel
theorem d5_31 : decode method_2_code 31 = .ok (.iconst 3, 1) := by decide +kernel
theorem d5_32 : decode method_2_code 32 = .ok (.ireturn, 1) := by decide +kernel
theorem d5_33 : decode method_2_code 33 = .ok (.lload_n 0, 1) := by decide +kernel
theorem d5_34 : decode method_2_code 34 = .ok (.bipush 28, 2) := by decide +kernel
theorem d5_36 : decode method_2_code 36 = .ok (.lushr, 1) := by decide +kernel
theorem d5_37 : decode method_2_code 37 = .ok (.lconst 0, 1) := by decide +kernel
theorem d5_38 : decode method_2_code 38 = .ok (.lcmp, 1) := by decide +kernel
theorem d5_39 : decode method_2_code 39 = .ok (.ifCond .ne 5, 3) := by decide +kernel
theorem d5_42 : decode method_2_code 42 = .ok (.iconst 4, 1) := by decide +kernel
theorem d5_43 : decode method_2_code 43 = .ok (.ireturn, 1) := by decide +kernel
theorem d5_44 : decode method_2_code 44 = .ok (.lload_n 0, 1) := by decide +kernel
theorem d5_45 : decode method_2_code 45 = .ok (.bipush 35, 2) := by decide +kernel
theorem d5_47 : decode method_2_code 47 = .ok (.lushr, 1) := by decide +kernel
theorem d5_48 : decode method_2_code 48 = .ok (.lconst 0, 1) := by decide +kernel
theorem d5_49 : decode method_2_code 49 = .ok (.lcmp, 1) := by decide +kernel
theorem d5_50 : decode method_2_code 50 = .ok (.ifCond .ne 5, 3) := by decide +kernel
theorem d5_53 : decode method_2_code 53 = .ok (.iconst 5, 1) := by decide +kernel
theorem d5_54 : decode method_2_code 54 = .ok (.ireturn, 1) := by decide +kernel
theorem d5_55 : decode method_2_code 55 = .ok (.lload_n 0, 1) := by decide +kernel
theorem d5_56 : decode method_2_code 56 = .ok (.bipush 42, 2) := by decide +kernel
theorem d5_58 : decode method_2_code 58 = .ok (.lushr, 1) := by decide +kernel
theorem d5_59 : decode method_2_code 59 = .ok (.lconst 0, 1) := by decide +kernel
theorem d5_60 : decode method_2_code 60 = .ok (.lcmp, 1) := by decide +kernel
theorem d5_61 : decode method_2_code 61 = .ok (.ifCond .ne 6, 3) := by decide +kernel
theorem d5_64 : decode method_2_code 64 = .ok (.bipush 6, 2) := by decide +kernel
theorem d5_66 : decode method_2_code 66 = .ok (.ireturn, 1) := by decide +kernel
theorem d5_67 : decode method_2_code 67 = .ok (.lload_n 0, 1) := by decide +kernel
theorem d5_68 : decode method_2_code 68 = .ok (.bipush 49, 2) := by decide +kernel
theorem d5_70 : decode method_2_code 70 = .ok (.lushr, 1) := by decide +kernel
theorem d5_71 : decode method_2_code 71 = .ok (.lconst 0, 1) := by decide +kernel
theorem d5_72 : decode method_2_code 72 = .ok (.lcmp, 1) := by decide +kernel
theorem d5_73 : decode method_2_code 73 = .ok (.ifCond .ne 6, 3) := by decide +kernel
theorem d5_76 : decode method_2_code 76 = .ok (.bipush 7, 2) := by decide +kernel
theorem d5_78 : decode method_2_code 78 = .ok (.ireturn, 1) := by decide +kernel
theorem d5_79 : decode method_2_code 79 = .ok (.lload_n 0, 1) := by decide +kernel
theorem d5_80 : decode method_2_code 80 = .ok (.bipush 56, 2) := by decide +kernel
theorem d5_82 : decode method_2_code 82 = .ok (.lushr, 1) := by decide +kernel
theorem d5_83 : decode method_2_code 83 = .ok (.lconst 0, 1) := by decide +kernel
theorem d5_84 : decode method_2_code 84 = .ok (.lcmp, 1) := by decide +kernel
theorem d5_85 : decode method_2_code 85 = .ok (.ifCond .ne 6, 3) := by decide +kernel
theorem d5_88 : decode method_2_code 88 = .ok (.bipush 8, 2) := by decide +kernel
theorem d5_90 : decode method_2_code 90 = .ok (.ireturn, 1) := by decide +kernel
theorem d5_91 : decode method_2_code 91 = .ok (.lload_n 0, 1) := by decide +kernel
theorem d5_92 : decode method_2_code 92 = .ok (.bipush 63, 2) := by decide +kernel
theorem d5_94 : decode method_2_code 94 = .ok (.lushr, 1) := by decide +kernel
theorem d5_95 : decode method_2_code 95 = .ok (.lconst 0, 1) := by decide +kernel
theorem d5_96 : decode method_2_code 96 = .ok (.lcmp, 1) := by decide +kernel
theorem d5_97 : decode method_2_code 97 = .ok (.ifCond .ne 6, 3) := by decide +kernel
theorem d5_100 : decode method_2_code 100 = .ok (.bipush 9, 2) := by decide +kernel
theorem d5_102 : decode method_2_code 102 = .ok (.ireturn, 1) := by decide +kernel
theorem d5_103 : decode method_2_code 103 = .ok (.bipush 10, 2) := by decide +kernel
theorem d5_105 : decode method_2_code 105 = .ok (.ireturn, 1) := by decide +kernel
theorem ef_5 (m : MethodId) (x0 : Int64) : entryFrame m #[(.long x0)] 2 = mkF m 0 #[.val (.long x0), .second] [] := by first | (simp [entryFrame, mkF, argsToLocals, Value.category]; done) | rfl
def Q5 (Z : State) (x0 : Int64) (h0 : Heap) (n0 : Nat) (v : Option Value) (h : Heap) (L : List Loc) : Prop := ∃ z : Int32, v = some (.int z) ∧ Fr n0 L ∧ h = h0 ∧ (z.toInt = own_len x0.toBitVec.toNat)
set_option maxRecDepth 65536 in
set_option maxHeartbeats 40000000 in
theorem rm5 (l : Launch) (Z : State) (a0 : Array Value) (hw : ∀ d ∈ tables_1, d.before a0 Z = true) (ws : List Jvm.Cond) (x0 : Int64) (h0 : Heap) (n0 : Nat) (Z0 : n0 ≤ h0.size) :
    MetFree l (⟨"com/example/tidemark/tidemark/VarintsUnsignedLengthPinLaw", "ref", "(J)I"⟩ : MethodName) (head1 (Jvm.Cond.code (⟨"com/example/tidemark/tidemark/VarintsUnsignedLengthPinLaw", "ref", "(J)I"⟩ : MethodName) method_2_code 2 (some .int) :: ws) ({ frames := 0, cells := 0, slots := 0, locals := 0 } : Room)) (fun aa U => aa = #[(.long x0)] ∧ Z.Warmed39 U.vm ∧ U.heap = h0) (fun _ _ _ _ _ => True) (fun _ U o U' => ∃ v L, o = .returned v ∧ Q5 Z x0 h0 n0 v U'.heap L ∧ FrameEnd U o U' L ({ frames := 0, cells := 0, slots := 0, locals := 0 } : Room).cells ({ frames := 0, cells := 0, slots := 0, locals := 0 } : Room).slots) := by
  refine MetFree.of_bodySF (plainFor_of_name pn_3) hisR ?_
  intro p e s m args below meth c s₁ Bd hml0 hP hK
  obtain ⟨rfl, hZ, hh⟩ := hP
  have hx := Bd.exec
  have hby := Bd.bytes
  have hml : c.maxLocals = 2 := hml0
  have hown : s.vm.findClass "com/example/tidemark/tidemark/VarintsUnsignedLengthPinLaw" = some m.cls := findClass_of_methodNamed Bd.named
  have hnm := (name_of_methodNamed Bd.named Bd.method).1
  have X0 : Stand p l e ({ frames := 0, cells := 0, slots := 0, locals := 0 } : Room) s m #[(.long x0)] below meth c s₁ [] 0 0 := Stand.of_body Bd
  have e0 : s₁.heap = h0 := by rw [← hh, Bd.state]; rfl
  have N0 := Fr.nil n0
  have pre0 : ∀ t, Steps p.tables e below (s₁.setTop (mkF m 0 #[.val (.long x0), .second] [])) t → Steps p.tables e below (s₁.setTop (entryFrame m #[(.long x0)] 2)) t := fun t k => castTop (ef_5 m x0) k
  have pre1 : ∀ t, Steps p.tables e below (s₁.setTop (mkF m 6 #[.val (.long x0), .second] [(.int (lcmpW ((x0.toUInt64 >>> ((7 : Int32) &&& 0x3f).toInt64.toUInt64).toInt64) (0 : Int64)))])) t → Steps p.tables e below (s₁.setTop (entryFrame m #[(.long x0)] 2)) t := fun t k => pre0 t (by
    show Steps p.tables e below (s₁.setTop (mkF m 0 #[.val (.long x0), .second] [])) _
    refine XS.lloadN X0.here hx rfl (hb hby d5_0) rfl ?_
    show Steps p.tables e below (s₁.setTop (mkF m 1 #[.val (.long x0), .second] [(.long x0)])) _
    refine XS.bipush X0.here hx rfl (hb hby d5_1) ?_
    show Steps p.tables e below (s₁.setTop (mkF m 3 #[.val (.long x0), .second] [(.int (7 : Int32)), (.long x0)])) _
    refine XS.lushr X0.here hx rfl (hb hby d5_3) rfl ?_
    show Steps p.tables e below (s₁.setTop (mkF m 4 #[.val (.long x0), .second] [(.long ((x0.toUInt64 >>> ((7 : Int32) &&& 0x3f).toInt64.toUInt64).toInt64))])) _
    refine XS.lconst X0.here hx rfl (hb hby d5_4) ?_
    show Steps p.tables e below (s₁.setTop (mkF m 5 #[.val (.long x0), .second] [(.long (0 : Int64)), (.long ((x0.toUInt64 >>> ((7 : Int32) &&& 0x3f).toInt64.toUInt64).toInt64))])) _
    refine XS.lcmp X0.here hx rfl (hb hby d5_5) rfl ?_
    show Steps p.tables e below (s₁.setTop (mkF m 6 #[.val (.long x0), .second] [(.int (lcmpW ((x0.toUInt64 >>> ((7 : Int32) &&& 0x3f).toInt64.toUInt64).toInt64) (0 : Int64)))])) _
    exact k)
  by_cases hc2 : ((x0.toUInt64 >>> ((7 : Int32) &&& 0x3f).toInt64.toUInt64).toInt64) = (0 : Int64)
  · skip
    have pre3 : ∀ t, Steps p.tables e below (s₁.setTop (mkF m 10 #[.val (.long x0), .second] [(.int (1 : Int32))])) t → Steps p.tables e below (s₁.setTop (entryFrame m #[(.long x0)] 2)) t := fun t k => pre1 t (by
      show Steps p.tables e below (s₁.setTop (mkF m 6 #[.val (.long x0), .second] [(.int (lcmpW ((x0.toUInt64 >>> ((7 : Int32) &&& 0x3f).toInt64.toUInt64).toInt64) (0 : Int64)))])) _
      refine XS.ifNo X0.here hx rfl (hb hby d5_6) rfl ((if0 _ _).trans (teq ((lw_eq _ _).mpr hc2)).2) ?_
      show Steps p.tables e below (s₁.setTop (mkF m 9 #[.val (.long x0), .second] [])) _
      refine XS.iconst X0.here hx rfl (hb hby d5_9) ?_
      show Steps p.tables e below (s₁.setTop (mkF m 10 #[.val (.long x0), .second] [(.int (1 : Int32))])) _
      exact k)
    obtain ⟨fs, hr, hrun, hended, hW, hsame⟩ := X0.leave (v := some (.int (1 : Int32))) (fun h => by rw [Bd.returns] at h; cases h)
    refine ⟨_, _, pre3 _ ?_, hrun, hended, _, _, rfl, ?_, ⟨_, rfl⟩, hW, hsame.mono (by decide) (by decide)⟩
    · show Steps p.tables e below (s₁.setTop (mkF m 10 #[.val (.long x0), .second] [(.int (1 : Int32))])) _
      exact retI X0 hx Bd.returns (hb hby d5_10) hr
    · show Q5 Z x0 h0 n0 _ s₁.heap _
      rw [e0]
      exact ⟨_, rfl, N0, rfl, own_b5_1 x0 hc2⟩
  · skip
    have pre4 : ∀ t, Steps p.tables e below (s₁.setTop (mkF m 17 #[.val (.long x0), .second] [(.int (lcmpW ((x0.toUInt64 >>> ((14 : Int32) &&& 0x3f).toInt64.toUInt64).toInt64) (0 : Int64)))])) t → Steps p.tables e below (s₁.setTop (entryFrame m #[(.long x0)] 2)) t := fun t k => pre1 t (by
      show Steps p.tables e below (s₁.setTop (mkF m 6 #[.val (.long x0), .second] [(.int (lcmpW ((x0.toUInt64 >>> ((7 : Int32) &&& 0x3f).toInt64.toUInt64).toInt64) (0 : Int64)))])) _
      refine XS.ifYes X0.here hx rfl (pc0 := 6) (pc' := 11) rfl (hb hby d5_6) rfl ((if0 _ _).trans (feq (fun q => hc2 ((lw_eq _ _).mp q))).2) (by decide) (by decide) ?_
      show Steps p.tables e below (s₁.setTop (mkF m 11 #[.val (.long x0), .second] [])) _
      refine XS.lloadN X0.here hx rfl (hb hby d5_11) rfl ?_
      show Steps p.tables e below (s₁.setTop (mkF m 12 #[.val (.long x0), .second] [(.long x0)])) _
      refine XS.bipush X0.here hx rfl (hb hby d5_12) ?_
      show Steps p.tables e below (s₁.setTop (mkF m 14 #[.val (.long x0), .second] [(.int (14 : Int32)), (.long x0)])) _
      refine XS.lushr X0.here hx rfl (hb hby d5_14) rfl ?_
      show Steps p.tables e below (s₁.setTop (mkF m 15 #[.val (.long x0), .second] [(.long ((x0.toUInt64 >>> ((14 : Int32) &&& 0x3f).toInt64.toUInt64).toInt64))])) _
      refine XS.lconst X0.here hx rfl (hb hby d5_15) ?_
      show Steps p.tables e below (s₁.setTop (mkF m 16 #[.val (.long x0), .second] [(.long (0 : Int64)), (.long ((x0.toUInt64 >>> ((14 : Int32) &&& 0x3f).toInt64.toUInt64).toInt64))])) _
      refine XS.lcmp X0.here hx rfl (hb hby d5_16) rfl ?_
      show Steps p.tables e below (s₁.setTop (mkF m 17 #[.val (.long x0), .second] [(.int (lcmpW ((x0.toUInt64 >>> ((14 : Int32) &&& 0x3f).toInt64.toUInt64).toInt64) (0 : Int64)))])) _
      exact k)
    by_cases hc5 : ((x0.toUInt64 >>> ((14 : Int32) &&& 0x3f).toInt64.toUInt64).toInt64) = (0 : Int64)
    · skip
      have pre6 : ∀ t, Steps p.tables e below (s₁.setTop (mkF m 21 #[.val (.long x0), .second] [(.int (2 : Int32))])) t → Steps p.tables e below (s₁.setTop (entryFrame m #[(.long x0)] 2)) t := fun t k => pre4 t (by
        show Steps p.tables e below (s₁.setTop (mkF m 17 #[.val (.long x0), .second] [(.int (lcmpW ((x0.toUInt64 >>> ((14 : Int32) &&& 0x3f).toInt64.toUInt64).toInt64) (0 : Int64)))])) _
        refine XS.ifNo X0.here hx rfl (hb hby d5_17) rfl ((if0 _ _).trans (teq ((lw_eq _ _).mpr hc5)).2) ?_
        show Steps p.tables e below (s₁.setTop (mkF m 20 #[.val (.long x0), .second] [])) _
        refine XS.iconst X0.here hx rfl (hb hby d5_20) ?_
        show Steps p.tables e below (s₁.setTop (mkF m 21 #[.val (.long x0), .second] [(.int (2 : Int32))])) _
        exact k)
      obtain ⟨fs, hr, hrun, hended, hW, hsame⟩ := X0.leave (v := some (.int (2 : Int32))) (fun h => by rw [Bd.returns] at h; cases h)
      refine ⟨_, _, pre6 _ ?_, hrun, hended, _, _, rfl, ?_, ⟨_, rfl⟩, hW, hsame.mono (by decide) (by decide)⟩
      · show Steps p.tables e below (s₁.setTop (mkF m 21 #[.val (.long x0), .second] [(.int (2 : Int32))])) _
        exact retI X0 hx Bd.returns (hb hby d5_21) hr
      · show Q5 Z x0 h0 n0 _ s₁.heap _
        rw [e0]
        exact ⟨_, rfl, N0, rfl, own_b5_2 x0 hc2 hc5⟩
    · skip
      have pre7 : ∀ t, Steps p.tables e below (s₁.setTop (mkF m 28 #[.val (.long x0), .second] [(.int (lcmpW ((x0.toUInt64 >>> ((21 : Int32) &&& 0x3f).toInt64.toUInt64).toInt64) (0 : Int64)))])) t → Steps p.tables e below (s₁.setTop (entryFrame m #[(.long x0)] 2)) t := fun t k => pre4 t (by
        show Steps p.tables e below (s₁.setTop (mkF m 17 #[.val (.long x0), .second] [(.int (lcmpW ((x0.toUInt64 >>> ((14 : Int32) &&& 0x3f).toInt64.toUInt64).toInt64) (0 : Int64)))])) _
        refine XS.ifYes X0.here hx rfl (pc0 := 17) (pc' := 22) rfl (hb hby d5_17) rfl ((if0 _ _).trans (feq (fun q => hc5 ((lw_eq _ _).mp q))).2) (by decide) (by decide) ?_
        show Steps p.tables e below (s₁.setTop (mkF m 22 #[.val (.long x0), .second] [])) _
        refine XS.lloadN X0.here hx rfl (hb hby d5_22) rfl ?_
        show Steps p.tables e below (s₁.setTop (mkF m 23 #[.val (.long x0), .second] [(.long x0)])) _
        refine XS.bipush X0.here hx rfl (hb hby d5_23) ?_
        show Steps p.tables e below (s₁.setTop (mkF m 25 #[.val (.long x0), .second] [(.int (21 : Int32)), (.long x0)])) _
        refine XS.lushr X0.here hx rfl (hb hby d5_25) rfl ?_
        show Steps p.tables e below (s₁.setTop (mkF m 26 #[.val (.long x0), .second] [(.long ((x0.toUInt64 >>> ((21 : Int32) &&& 0x3f).toInt64.toUInt64).toInt64))])) _
        refine XS.lconst X0.here hx rfl (hb hby d5_26) ?_
        show Steps p.tables e below (s₁.setTop (mkF m 27 #[.val (.long x0), .second] [(.long (0 : Int64)), (.long ((x0.toUInt64 >>> ((21 : Int32) &&& 0x3f).toInt64.toUInt64).toInt64))])) _
        refine XS.lcmp X0.here hx rfl (hb hby d5_27) rfl ?_
        show Steps p.tables e below (s₁.setTop (mkF m 28 #[.val (.long x0), .second] [(.int (lcmpW ((x0.toUInt64 >>> ((21 : Int32) &&& 0x3f).toInt64.toUInt64).toInt64) (0 : Int64)))])) _
        exact k)
      by_cases hc8 : ((x0.toUInt64 >>> ((21 : Int32) &&& 0x3f).toInt64.toUInt64).toInt64) = (0 : Int64)
      · skip
        have pre9 : ∀ t, Steps p.tables e below (s₁.setTop (mkF m 32 #[.val (.long x0), .second] [(.int (3 : Int32))])) t → Steps p.tables e below (s₁.setTop (entryFrame m #[(.long x0)] 2)) t := fun t k => pre7 t (by
          show Steps p.tables e below (s₁.setTop (mkF m 28 #[.val (.long x0), .second] [(.int (lcmpW ((x0.toUInt64 >>> ((21 : Int32) &&& 0x3f).toInt64.toUInt64).toInt64) (0 : Int64)))])) _
          refine XS.ifNo X0.here hx rfl (hb hby d5_28) rfl ((if0 _ _).trans (teq ((lw_eq _ _).mpr hc8)).2) ?_
          show Steps p.tables e below (s₁.setTop (mkF m 31 #[.val (.long x0), .second] [])) _
          refine XS.iconst X0.here hx rfl (hb hby d5_31) ?_
          show Steps p.tables e below (s₁.setTop (mkF m 32 #[.val (.long x0), .second] [(.int (3 : Int32))])) _
          exact k)
        obtain ⟨fs, hr, hrun, hended, hW, hsame⟩ := X0.leave (v := some (.int (3 : Int32))) (fun h => by rw [Bd.returns] at h; cases h)
        refine ⟨_, _, pre9 _ ?_, hrun, hended, _, _, rfl, ?_, ⟨_, rfl⟩, hW, hsame.mono (by decide) (by decide)⟩
        · show Steps p.tables e below (s₁.setTop (mkF m 32 #[.val (.long x0), .second] [(.int (3 : Int32))])) _
          exact retI X0 hx Bd.returns (hb hby d5_32) hr
        · show Q5 Z x0 h0 n0 _ s₁.heap _
          rw [e0]
          exact ⟨_, rfl, N0, rfl, own_b5_3 x0 hc2 hc5 hc8⟩
      · skip
        have pre10 : ∀ t, Steps p.tables e below (s₁.setTop (mkF m 39 #[.val (.long x0), .second] [(.int (lcmpW ((x0.toUInt64 >>> ((28 : Int32) &&& 0x3f).toInt64.toUInt64).toInt64) (0 : Int64)))])) t → Steps p.tables e below (s₁.setTop (entryFrame m #[(.long x0)] 2)) t := fun t k => pre7 t (by
          show Steps p.tables e below (s₁.setTop (mkF m 28 #[.val (.long x0), .second] [(.int (lcmpW ((x0.toUInt64 >>> ((21 : Int32) &&& 0x3f).toInt64.toUInt64).toInt64) (0 : Int64)))])) _
          refine XS.ifYes X0.here hx rfl (pc0 := 28) (pc' := 33) rfl (hb hby d5_28) rfl ((if0 _ _).trans (feq (fun q => hc8 ((lw_eq _ _).mp q))).2) (by decide) (by decide) ?_
          show Steps p.tables e below (s₁.setTop (mkF m 33 #[.val (.long x0), .second] [])) _
          refine XS.lloadN X0.here hx rfl (hb hby d5_33) rfl ?_
          show Steps p.tables e below (s₁.setTop (mkF m 34 #[.val (.long x0), .second] [(.long x0)])) _
          refine XS.bipush X0.here hx rfl (hb hby d5_34) ?_
          show Steps p.tables e below (s₁.setTop (mkF m 36 #[.val (.long x0), .second] [(.int (28 : Int32)), (.long x0)])) _
          refine XS.lushr X0.here hx rfl (hb hby d5_36) rfl ?_
          show Steps p.tables e below (s₁.setTop (mkF m 37 #[.val (.long x0), .second] [(.long ((x0.toUInt64 >>> ((28 : Int32) &&& 0x3f).toInt64.toUInt64).toInt64))])) _
          refine XS.lconst X0.here hx rfl (hb hby d5_37) ?_
          show Steps p.tables e below (s₁.setTop (mkF m 38 #[.val (.long x0), .second] [(.long (0 : Int64)), (.long ((x0.toUInt64 >>> ((28 : Int32) &&& 0x3f).toInt64.toUInt64).toInt64))])) _
          refine XS.lcmp X0.here hx rfl (hb hby d5_38) rfl ?_
          show Steps p.tables e below (s₁.setTop (mkF m 39 #[.val (.long x0), .second] [(.int (lcmpW ((x0.toUInt64 >>> ((28 : Int32) &&& 0x3f).toInt64.toUInt64).toInt64) (0 : Int64)))])) _
          exact k)
        by_cases hc11 : ((x0.toUInt64 >>> ((28 : Int32) &&& 0x3f).toInt64.toUInt64).toInt64) = (0 : Int64)
        · skip
          have pre12 : ∀ t, Steps p.tables e below (s₁.setTop (mkF m 43 #[.val (.long x0), .second] [(.int (4 : Int32))])) t → Steps p.tables e below (s₁.setTop (entryFrame m #[(.long x0)] 2)) t := fun t k => pre10 t (by
            show Steps p.tables e below (s₁.setTop (mkF m 39 #[.val (.long x0), .second] [(.int (lcmpW ((x0.toUInt64 >>> ((28 : Int32) &&& 0x3f).toInt64.toUInt64).toInt64) (0 : Int64)))])) _
            refine XS.ifNo X0.here hx rfl (hb hby d5_39) rfl ((if0 _ _).trans (teq ((lw_eq _ _).mpr hc11)).2) ?_
            show Steps p.tables e below (s₁.setTop (mkF m 42 #[.val (.long x0), .second] [])) _
            refine XS.iconst X0.here hx rfl (hb hby d5_42) ?_
            show Steps p.tables e below (s₁.setTop (mkF m 43 #[.val (.long x0), .second] [(.int (4 : Int32))])) _
            exact k)
          obtain ⟨fs, hr, hrun, hended, hW, hsame⟩ := X0.leave (v := some (.int (4 : Int32))) (fun h => by rw [Bd.returns] at h; cases h)
          refine ⟨_, _, pre12 _ ?_, hrun, hended, _, _, rfl, ?_, ⟨_, rfl⟩, hW, hsame.mono (by decide) (by decide)⟩
          · show Steps p.tables e below (s₁.setTop (mkF m 43 #[.val (.long x0), .second] [(.int (4 : Int32))])) _
            exact retI X0 hx Bd.returns (hb hby d5_43) hr
          · show Q5 Z x0 h0 n0 _ s₁.heap _
            rw [e0]
            exact ⟨_, rfl, N0, rfl, own_b5_4 x0 hc2 hc5 hc8 hc11⟩
        · skip
          have pre13 : ∀ t, Steps p.tables e below (s₁.setTop (mkF m 50 #[.val (.long x0), .second] [(.int (lcmpW ((x0.toUInt64 >>> ((35 : Int32) &&& 0x3f).toInt64.toUInt64).toInt64) (0 : Int64)))])) t → Steps p.tables e below (s₁.setTop (entryFrame m #[(.long x0)] 2)) t := fun t k => pre10 t (by
            show Steps p.tables e below (s₁.setTop (mkF m 39 #[.val (.long x0), .second] [(.int (lcmpW ((x0.toUInt64 >>> ((28 : Int32) &&& 0x3f).toInt64.toUInt64).toInt64) (0 : Int64)))])) _
            refine XS.ifYes X0.here hx rfl (pc0 := 39) (pc' := 44) rfl (hb hby d5_39) rfl ((if0 _ _).trans (feq (fun q => hc11 ((lw_eq _ _).mp q))).2) (by decide) (by decide) ?_
            show Steps p.tables e below (s₁.setTop (mkF m 44 #[.val (.long x0), .second] [])) _
            refine XS.lloadN X0.here hx rfl (hb hby d5_44) rfl ?_
            show Steps p.tables e below (s₁.setTop (mkF m 45 #[.val (.long x0), .second] [(.long x0)])) _
            refine XS.bipush X0.here hx rfl (hb hby d5_45) ?_
            show Steps p.tables e below (s₁.setTop (mkF m 47 #[.val (.long x0), .second] [(.int (35 : Int32)), (.long x0)])) _
            refine XS.lushr X0.here hx rfl (hb hby d5_47) rfl ?_
            show Steps p.tables e below (s₁.setTop (mkF m 48 #[.val (.long x0), .second] [(.long ((x0.toUInt64 >>> ((35 : Int32) &&& 0x3f).toInt64.toUInt64).toInt64))])) _
            refine XS.lconst X0.here hx rfl (hb hby d5_48) ?_
            show Steps p.tables e below (s₁.setTop (mkF m 49 #[.val (.long x0), .second] [(.long (0 : Int64)), (.long ((x0.toUInt64 >>> ((35 : Int32) &&& 0x3f).toInt64.toUInt64).toInt64))])) _
            refine XS.lcmp X0.here hx rfl (hb hby d5_49) rfl ?_
            show Steps p.tables e below (s₁.setTop (mkF m 50 #[.val (.long x0), .second] [(.int (lcmpW ((x0.toUInt64 >>> ((35 : Int32) &&& 0x3f).toInt64.toUInt64).toInt64) (0 : Int64)))])) _
            exact k)
          by_cases hc14 : ((x0.toUInt64 >>> ((35 : Int32) &&& 0x3f).toInt64.toUInt64).toInt64) = (0 : Int64)
          · skip
            have pre15 : ∀ t, Steps p.tables e below (s₁.setTop (mkF m 54 #[.val (.long x0), .second] [(.int (5 : Int32))])) t → Steps p.tables e below (s₁.setTop (entryFrame m #[(.long x0)] 2)) t := fun t k => pre13 t (by
              show Steps p.tables e below (s₁.setTop (mkF m 50 #[.val (.long x0), .second] [(.int (lcmpW ((x0.toUInt64 >>> ((35 : Int32) &&& 0x3f).toInt64.toUInt64).toInt64) (0 : Int64)))])) _
              refine XS.ifNo X0.here hx rfl (hb hby d5_50) rfl ((if0 _ _).trans (teq ((lw_eq _ _).mpr hc14)).2) ?_
              show Steps p.tables e below (s₁.setTop (mkF m 53 #[.val (.long x0), .second] [])) _
              refine XS.iconst X0.here hx rfl (hb hby d5_53) ?_
              show Steps p.tables e below (s₁.setTop (mkF m 54 #[.val (.long x0), .second] [(.int (5 : Int32))])) _
              exact k)
            obtain ⟨fs, hr, hrun, hended, hW, hsame⟩ := X0.leave (v := some (.int (5 : Int32))) (fun h => by rw [Bd.returns] at h; cases h)
            refine ⟨_, _, pre15 _ ?_, hrun, hended, _, _, rfl, ?_, ⟨_, rfl⟩, hW, hsame.mono (by decide) (by decide)⟩
            · show Steps p.tables e below (s₁.setTop (mkF m 54 #[.val (.long x0), .second] [(.int (5 : Int32))])) _
              exact retI X0 hx Bd.returns (hb hby d5_54) hr
            · show Q5 Z x0 h0 n0 _ s₁.heap _
              rw [e0]
              exact ⟨_, rfl, N0, rfl, own_b5_5 x0 hc2 hc5 hc8 hc11 hc14⟩
          · skip
            have pre16 : ∀ t, Steps p.tables e below (s₁.setTop (mkF m 61 #[.val (.long x0), .second] [(.int (lcmpW ((x0.toUInt64 >>> ((42 : Int32) &&& 0x3f).toInt64.toUInt64).toInt64) (0 : Int64)))])) t → Steps p.tables e below (s₁.setTop (entryFrame m #[(.long x0)] 2)) t := fun t k => pre13 t (by
              show Steps p.tables e below (s₁.setTop (mkF m 50 #[.val (.long x0), .second] [(.int (lcmpW ((x0.toUInt64 >>> ((35 : Int32) &&& 0x3f).toInt64.toUInt64).toInt64) (0 : Int64)))])) _
              refine XS.ifYes X0.here hx rfl (pc0 := 50) (pc' := 55) rfl (hb hby d5_50) rfl ((if0 _ _).trans (feq (fun q => hc14 ((lw_eq _ _).mp q))).2) (by decide) (by decide) ?_
              show Steps p.tables e below (s₁.setTop (mkF m 55 #[.val (.long x0), .second] [])) _
              refine XS.lloadN X0.here hx rfl (hb hby d5_55) rfl ?_
              show Steps p.tables e below (s₁.setTop (mkF m 56 #[.val (.long x0), .second] [(.long x0)])) _
              refine XS.bipush X0.here hx rfl (hb hby d5_56) ?_
              show Steps p.tables e below (s₁.setTop (mkF m 58 #[.val (.long x0), .second] [(.int (42 : Int32)), (.long x0)])) _
              refine XS.lushr X0.here hx rfl (hb hby d5_58) rfl ?_
              show Steps p.tables e below (s₁.setTop (mkF m 59 #[.val (.long x0), .second] [(.long ((x0.toUInt64 >>> ((42 : Int32) &&& 0x3f).toInt64.toUInt64).toInt64))])) _
              refine XS.lconst X0.here hx rfl (hb hby d5_59) ?_
              show Steps p.tables e below (s₁.setTop (mkF m 60 #[.val (.long x0), .second] [(.long (0 : Int64)), (.long ((x0.toUInt64 >>> ((42 : Int32) &&& 0x3f).toInt64.toUInt64).toInt64))])) _
              refine XS.lcmp X0.here hx rfl (hb hby d5_60) rfl ?_
              show Steps p.tables e below (s₁.setTop (mkF m 61 #[.val (.long x0), .second] [(.int (lcmpW ((x0.toUInt64 >>> ((42 : Int32) &&& 0x3f).toInt64.toUInt64).toInt64) (0 : Int64)))])) _
              exact k)
            by_cases hc17 : ((x0.toUInt64 >>> ((42 : Int32) &&& 0x3f).toInt64.toUInt64).toInt64) = (0 : Int64)
            · skip
              have pre18 : ∀ t, Steps p.tables e below (s₁.setTop (mkF m 66 #[.val (.long x0), .second] [(.int (6 : Int32))])) t → Steps p.tables e below (s₁.setTop (entryFrame m #[(.long x0)] 2)) t := fun t k => pre16 t (by
                show Steps p.tables e below (s₁.setTop (mkF m 61 #[.val (.long x0), .second] [(.int (lcmpW ((x0.toUInt64 >>> ((42 : Int32) &&& 0x3f).toInt64.toUInt64).toInt64) (0 : Int64)))])) _
                refine XS.ifNo X0.here hx rfl (hb hby d5_61) rfl ((if0 _ _).trans (teq ((lw_eq _ _).mpr hc17)).2) ?_
                show Steps p.tables e below (s₁.setTop (mkF m 64 #[.val (.long x0), .second] [])) _
                refine XS.bipush X0.here hx rfl (hb hby d5_64) ?_
                show Steps p.tables e below (s₁.setTop (mkF m 66 #[.val (.long x0), .second] [(.int (6 : Int32))])) _
                exact k)
              obtain ⟨fs, hr, hrun, hended, hW, hsame⟩ := X0.leave (v := some (.int (6 : Int32))) (fun h => by rw [Bd.returns] at h; cases h)
              refine ⟨_, _, pre18 _ ?_, hrun, hended, _, _, rfl, ?_, ⟨_, rfl⟩, hW, hsame.mono (by decide) (by decide)⟩
              · show Steps p.tables e below (s₁.setTop (mkF m 66 #[.val (.long x0), .second] [(.int (6 : Int32))])) _
                exact retI X0 hx Bd.returns (hb hby d5_66) hr
              · show Q5 Z x0 h0 n0 _ s₁.heap _
                rw [e0]
                exact ⟨_, rfl, N0, rfl, own_b5_6 x0 hc2 hc5 hc8 hc11 hc14 hc17⟩
            · skip
              have pre19 : ∀ t, Steps p.tables e below (s₁.setTop (mkF m 73 #[.val (.long x0), .second] [(.int (lcmpW ((x0.toUInt64 >>> ((49 : Int32) &&& 0x3f).toInt64.toUInt64).toInt64) (0 : Int64)))])) t → Steps p.tables e below (s₁.setTop (entryFrame m #[(.long x0)] 2)) t := fun t k => pre16 t (by
                show Steps p.tables e below (s₁.setTop (mkF m 61 #[.val (.long x0), .second] [(.int (lcmpW ((x0.toUInt64 >>> ((42 : Int32) &&& 0x3f).toInt64.toUInt64).toInt64) (0 : Int64)))])) _
                refine XS.ifYes X0.here hx rfl (pc0 := 61) (pc' := 67) rfl (hb hby d5_61) rfl ((if0 _ _).trans (feq (fun q => hc17 ((lw_eq _ _).mp q))).2) (by decide) (by decide) ?_
                show Steps p.tables e below (s₁.setTop (mkF m 67 #[.val (.long x0), .second] [])) _
                refine XS.lloadN X0.here hx rfl (hb hby d5_67) rfl ?_
                show Steps p.tables e below (s₁.setTop (mkF m 68 #[.val (.long x0), .second] [(.long x0)])) _
                refine XS.bipush X0.here hx rfl (hb hby d5_68) ?_
                show Steps p.tables e below (s₁.setTop (mkF m 70 #[.val (.long x0), .second] [(.int (49 : Int32)), (.long x0)])) _
                refine XS.lushr X0.here hx rfl (hb hby d5_70) rfl ?_
                show Steps p.tables e below (s₁.setTop (mkF m 71 #[.val (.long x0), .second] [(.long ((x0.toUInt64 >>> ((49 : Int32) &&& 0x3f).toInt64.toUInt64).toInt64))])) _
                refine XS.lconst X0.here hx rfl (hb hby d5_71) ?_
                show Steps p.tables e below (s₁.setTop (mkF m 72 #[.val (.long x0), .second] [(.long (0 : Int64)), (.long ((x0.toUInt64 >>> ((49 : Int32) &&& 0x3f).toInt64.toUInt64).toInt64))])) _
                refine XS.lcmp X0.here hx rfl (hb hby d5_72) rfl ?_
                show Steps p.tables e below (s₁.setTop (mkF m 73 #[.val (.long x0), .second] [(.int (lcmpW ((x0.toUInt64 >>> ((49 : Int32) &&& 0x3f).toInt64.toUInt64).toInt64) (0 : Int64)))])) _
                exact k)
              by_cases hc20 : ((x0.toUInt64 >>> ((49 : Int32) &&& 0x3f).toInt64.toUInt64).toInt64) = (0 : Int64)
              · skip
                have pre21 : ∀ t, Steps p.tables e below (s₁.setTop (mkF m 78 #[.val (.long x0), .second] [(.int (7 : Int32))])) t → Steps p.tables e below (s₁.setTop (entryFrame m #[(.long x0)] 2)) t := fun t k => pre19 t (by
                  show Steps p.tables e below (s₁.setTop (mkF m 73 #[.val (.long x0), .second] [(.int (lcmpW ((x0.toUInt64 >>> ((49 : Int32) &&& 0x3f).toInt64.toUInt64).toInt64) (0 : Int64)))])) _
                  refine XS.ifNo X0.here hx rfl (hb hby d5_73) rfl ((if0 _ _).trans (teq ((lw_eq _ _).mpr hc20)).2) ?_
                  show Steps p.tables e below (s₁.setTop (mkF m 76 #[.val (.long x0), .second] [])) _
                  refine XS.bipush X0.here hx rfl (hb hby d5_76) ?_
                  show Steps p.tables e below (s₁.setTop (mkF m 78 #[.val (.long x0), .second] [(.int (7 : Int32))])) _
                  exact k)
                obtain ⟨fs, hr, hrun, hended, hW, hsame⟩ := X0.leave (v := some (.int (7 : Int32))) (fun h => by rw [Bd.returns] at h; cases h)
                refine ⟨_, _, pre21 _ ?_, hrun, hended, _, _, rfl, ?_, ⟨_, rfl⟩, hW, hsame.mono (by decide) (by decide)⟩
                · show Steps p.tables e below (s₁.setTop (mkF m 78 #[.val (.long x0), .second] [(.int (7 : Int32))])) _
                  exact retI X0 hx Bd.returns (hb hby d5_78) hr
                · show Q5 Z x0 h0 n0 _ s₁.heap _
                  rw [e0]
                  exact ⟨_, rfl, N0, rfl, own_b5_7 x0 hc2 hc5 hc8 hc11 hc14 hc17 hc20⟩
              · skip
                have pre22 : ∀ t, Steps p.tables e below (s₁.setTop (mkF m 85 #[.val (.long x0), .second] [(.int (lcmpW ((x0.toUInt64 >>> ((56 : Int32) &&& 0x3f).toInt64.toUInt64).toInt64) (0 : Int64)))])) t → Steps p.tables e below (s₁.setTop (entryFrame m #[(.long x0)] 2)) t := fun t k => pre19 t (by
                  show Steps p.tables e below (s₁.setTop (mkF m 73 #[.val (.long x0), .second] [(.int (lcmpW ((x0.toUInt64 >>> ((49 : Int32) &&& 0x3f).toInt64.toUInt64).toInt64) (0 : Int64)))])) _
                  refine XS.ifYes X0.here hx rfl (pc0 := 73) (pc' := 79) rfl (hb hby d5_73) rfl ((if0 _ _).trans (feq (fun q => hc20 ((lw_eq _ _).mp q))).2) (by decide) (by decide) ?_
                  show Steps p.tables e below (s₁.setTop (mkF m 79 #[.val (.long x0), .second] [])) _
                  refine XS.lloadN X0.here hx rfl (hb hby d5_79) rfl ?_
                  show Steps p.tables e below (s₁.setTop (mkF m 80 #[.val (.long x0), .second] [(.long x0)])) _
                  refine XS.bipush X0.here hx rfl (hb hby d5_80) ?_
                  show Steps p.tables e below (s₁.setTop (mkF m 82 #[.val (.long x0), .second] [(.int (56 : Int32)), (.long x0)])) _
                  refine XS.lushr X0.here hx rfl (hb hby d5_82) rfl ?_
                  show Steps p.tables e below (s₁.setTop (mkF m 83 #[.val (.long x0), .second] [(.long ((x0.toUInt64 >>> ((56 : Int32) &&& 0x3f).toInt64.toUInt64).toInt64))])) _
                  refine XS.lconst X0.here hx rfl (hb hby d5_83) ?_
                  show Steps p.tables e below (s₁.setTop (mkF m 84 #[.val (.long x0), .second] [(.long (0 : Int64)), (.long ((x0.toUInt64 >>> ((56 : Int32) &&& 0x3f).toInt64.toUInt64).toInt64))])) _
                  refine XS.lcmp X0.here hx rfl (hb hby d5_84) rfl ?_
                  show Steps p.tables e below (s₁.setTop (mkF m 85 #[.val (.long x0), .second] [(.int (lcmpW ((x0.toUInt64 >>> ((56 : Int32) &&& 0x3f).toInt64.toUInt64).toInt64) (0 : Int64)))])) _
                  exact k)
                by_cases hc23 : ((x0.toUInt64 >>> ((56 : Int32) &&& 0x3f).toInt64.toUInt64).toInt64) = (0 : Int64)
                · skip
                  have pre24 : ∀ t, Steps p.tables e below (s₁.setTop (mkF m 90 #[.val (.long x0), .second] [(.int (8 : Int32))])) t → Steps p.tables e below (s₁.setTop (entryFrame m #[(.long x0)] 2)) t := fun t k => pre22 t (by
                    show Steps p.tables e below (s₁.setTop (mkF m 85 #[.val (.long x0), .second] [(.int (lcmpW ((x0.toUInt64 >>> ((56 : Int32) &&& 0x3f).toInt64.toUInt64).toInt64) (0 : Int64)))])) _
                    refine XS.ifNo X0.here hx rfl (hb hby d5_85) rfl ((if0 _ _).trans (teq ((lw_eq _ _).mpr hc23)).2) ?_
                    show Steps p.tables e below (s₁.setTop (mkF m 88 #[.val (.long x0), .second] [])) _
                    refine XS.bipush X0.here hx rfl (hb hby d5_88) ?_
                    show Steps p.tables e below (s₁.setTop (mkF m 90 #[.val (.long x0), .second] [(.int (8 : Int32))])) _
                    exact k)
                  obtain ⟨fs, hr, hrun, hended, hW, hsame⟩ := X0.leave (v := some (.int (8 : Int32))) (fun h => by rw [Bd.returns] at h; cases h)
                  refine ⟨_, _, pre24 _ ?_, hrun, hended, _, _, rfl, ?_, ⟨_, rfl⟩, hW, hsame.mono (by decide) (by decide)⟩
                  · show Steps p.tables e below (s₁.setTop (mkF m 90 #[.val (.long x0), .second] [(.int (8 : Int32))])) _
                    exact retI X0 hx Bd.returns (hb hby d5_90) hr
                  · show Q5 Z x0 h0 n0 _ s₁.heap _
                    rw [e0]
                    exact ⟨_, rfl, N0, rfl, own_b5_8 x0 hc2 hc5 hc8 hc11 hc14 hc17 hc20 hc23⟩
                · skip
                  have pre25 : ∀ t, Steps p.tables e below (s₁.setTop (mkF m 97 #[.val (.long x0), .second] [(.int (lcmpW ((x0.toUInt64 >>> ((63 : Int32) &&& 0x3f).toInt64.toUInt64).toInt64) (0 : Int64)))])) t → Steps p.tables e below (s₁.setTop (entryFrame m #[(.long x0)] 2)) t := fun t k => pre22 t (by
                    show Steps p.tables e below (s₁.setTop (mkF m 85 #[.val (.long x0), .second] [(.int (lcmpW ((x0.toUInt64 >>> ((56 : Int32) &&& 0x3f).toInt64.toUInt64).toInt64) (0 : Int64)))])) _
                    refine XS.ifYes X0.here hx rfl (pc0 := 85) (pc' := 91) rfl (hb hby d5_85) rfl ((if0 _ _).trans (feq (fun q => hc23 ((lw_eq _ _).mp q))).2) (by decide) (by decide) ?_
                    show Steps p.tables e below (s₁.setTop (mkF m 91 #[.val (.long x0), .second] [])) _
                    refine XS.lloadN X0.here hx rfl (hb hby d5_91) rfl ?_
                    show Steps p.tables e below (s₁.setTop (mkF m 92 #[.val (.long x0), .second] [(.long x0)])) _
                    refine XS.bipush X0.here hx rfl (hb hby d5_92) ?_
                    show Steps p.tables e below (s₁.setTop (mkF m 94 #[.val (.long x0), .second] [(.int (63 : Int32)), (.long x0)])) _
                    refine XS.lushr X0.here hx rfl (hb hby d5_94) rfl ?_
                    show Steps p.tables e below (s₁.setTop (mkF m 95 #[.val (.long x0), .second] [(.long ((x0.toUInt64 >>> ((63 : Int32) &&& 0x3f).toInt64.toUInt64).toInt64))])) _
                    refine XS.lconst X0.here hx rfl (hb hby d5_95) ?_
                    show Steps p.tables e below (s₁.setTop (mkF m 96 #[.val (.long x0), .second] [(.long (0 : Int64)), (.long ((x0.toUInt64 >>> ((63 : Int32) &&& 0x3f).toInt64.toUInt64).toInt64))])) _
                    refine XS.lcmp X0.here hx rfl (hb hby d5_96) rfl ?_
                    show Steps p.tables e below (s₁.setTop (mkF m 97 #[.val (.long x0), .second] [(.int (lcmpW ((x0.toUInt64 >>> ((63 : Int32) &&& 0x3f).toInt64.toUInt64).toInt64) (0 : Int64)))])) _
                    exact k)
                  by_cases hc26 : ((x0.toUInt64 >>> ((63 : Int32) &&& 0x3f).toInt64.toUInt64).toInt64) = (0 : Int64)
                  · skip
                    have pre27 : ∀ t, Steps p.tables e below (s₁.setTop (mkF m 102 #[.val (.long x0), .second] [(.int (9 : Int32))])) t → Steps p.tables e below (s₁.setTop (entryFrame m #[(.long x0)] 2)) t := fun t k => pre25 t (by
                      show Steps p.tables e below (s₁.setTop (mkF m 97 #[.val (.long x0), .second] [(.int (lcmpW ((x0.toUInt64 >>> ((63 : Int32) &&& 0x3f).toInt64.toUInt64).toInt64) (0 : Int64)))])) _
                      refine XS.ifNo X0.here hx rfl (hb hby d5_97) rfl ((if0 _ _).trans (teq ((lw_eq _ _).mpr hc26)).2) ?_
                      show Steps p.tables e below (s₁.setTop (mkF m 100 #[.val (.long x0), .second] [])) _
                      refine XS.bipush X0.here hx rfl (hb hby d5_100) ?_
                      show Steps p.tables e below (s₁.setTop (mkF m 102 #[.val (.long x0), .second] [(.int (9 : Int32))])) _
                      exact k)
                    obtain ⟨fs, hr, hrun, hended, hW, hsame⟩ := X0.leave (v := some (.int (9 : Int32))) (fun h => by rw [Bd.returns] at h; cases h)
                    refine ⟨_, _, pre27 _ ?_, hrun, hended, _, _, rfl, ?_, ⟨_, rfl⟩, hW, hsame.mono (by decide) (by decide)⟩
                    · show Steps p.tables e below (s₁.setTop (mkF m 102 #[.val (.long x0), .second] [(.int (9 : Int32))])) _
                      exact retI X0 hx Bd.returns (hb hby d5_102) hr
                    · show Q5 Z x0 h0 n0 _ s₁.heap _
                      rw [e0]
                      exact ⟨_, rfl, N0, rfl, own_b5_9 x0 hc2 hc5 hc8 hc11 hc14 hc17 hc20 hc23 hc26⟩
                  · skip
                    have pre28 : ∀ t, Steps p.tables e below (s₁.setTop (mkF m 105 #[.val (.long x0), .second] [(.int (10 : Int32))])) t → Steps p.tables e below (s₁.setTop (entryFrame m #[(.long x0)] 2)) t := fun t k => pre25 t (by
                      show Steps p.tables e below (s₁.setTop (mkF m 97 #[.val (.long x0), .second] [(.int (lcmpW ((x0.toUInt64 >>> ((63 : Int32) &&& 0x3f).toInt64.toUInt64).toInt64) (0 : Int64)))])) _
                      refine XS.ifYes X0.here hx rfl (pc0 := 97) (pc' := 103) rfl (hb hby d5_97) rfl ((if0 _ _).trans (feq (fun q => hc26 ((lw_eq _ _).mp q))).2) (by decide) (by decide) ?_
                      show Steps p.tables e below (s₁.setTop (mkF m 103 #[.val (.long x0), .second] [])) _
                      refine XS.bipush X0.here hx rfl (hb hby d5_103) ?_
                      show Steps p.tables e below (s₁.setTop (mkF m 105 #[.val (.long x0), .second] [(.int (10 : Int32))])) _
                      exact k)
                    obtain ⟨fs, hr, hrun, hended, hW, hsame⟩ := X0.leave (v := some (.int (10 : Int32))) (fun h => by rw [Bd.returns] at h; cases h)
                    refine ⟨_, _, pre28 _ ?_, hrun, hended, _, _, rfl, ?_, ⟨_, rfl⟩, hW, hsame.mono (by decide) (by decide)⟩
                    · show Steps p.tables e below (s₁.setTop (mkF m 105 #[.val (.long x0), .second] [(.int (10 : Int32))])) _
                      exact retI X0 hx Bd.returns (hb hby d5_105) hr
                    · show Q5 Z x0 h0 n0 _ s₁.heap _
                      rw [e0]
                      exact ⟨_, rfl, N0, rfl, own_b5_10 x0 hc2 hc5 hc8 hc11 hc14 hc17 hc20 hc23 hc26⟩
set_option maxHeartbeats 8000000 in
theorem own_fin (x0 : Int64) (x1 : Int32) (v1 : Int64) (r3 : Int32) (r6 : Int32) (v9 : Int32) (hv1 : v1 = ((x0.toUInt64 >>> ((x1 &&& (63 : Int32)) &&& 0x3f).toInt64.toUInt64).toInt64)) (P3 : r3.toInt = own_len v1.toBitVec.toNat) (P6 : r6.toInt = own_len v1.toBitVec.toNat) (hv9 : v9 = (if r3 = r6 then (1 : Int32) else (0 : Int32))) : v9 = (1 : Int32) := by
  have e : r3 = r6 := Int32.toInt_inj.mp (P3.trans P6.symm)
  rw [hv9, if_pos e]
theorem ef_0 (m : MethodId) (x0 : Int64) (x1 : Int32) : entryFrame m #[(.long x0), (.int x1)] maxLocals = mkF m 0 #[.val (.long x0), .second, .val (.int x1), .unset, .unset] [] := by first | (simp [entryFrame, mkF, argsToLocals, Value.category, maxLocals]; done) | rfl
def Q0 (Z : State) (x0 : Int64) (x1 : Int32) (h0 : Heap) (n0 : Nat) (v : Option Value) (h : Heap) (L : List Loc) : Prop := v = some (.int 1) ∧ Fr n0 L
set_option maxRecDepth 65536 in
set_option maxHeartbeats 40000000 in
theorem rm0 (l : Launch) (Z : State) (a0 : Array Value) (hw : ∀ d ∈ tables_1, d.before a0 Z = true) (ws : List Jvm.Cond) (x0 : Int64) (x1 : Int32) (h0 : Heap) (n0 : Nat) (Z0 : n0 ≤ h0.size) :
    MetFree l x (head1 (Jvm.Cond.code x code maxLocals ret :: ws) room_1) (fun aa U => aa = #[(.long x0), (.int x1)] ∧ Z.Warmed39 U.vm ∧ U.heap = h0) (fun _ _ _ _ _ => True) (fun _ U o U' => ∃ v L, o = .returned v ∧ Q0 Z x0 x1 h0 n0 v U'.heap L ∧ FrameEnd U o U' L room_1.cells room_1.slots) := by
  refine MetFree.of_bodySF (plainFor_of_name pn_3) hisR ?_
  intro p e s m args below meth c s₁ Bd hml0 hP hK
  obtain ⟨rfl, hZ, hh⟩ := hP
  have hx := Bd.exec
  have hby := Bd.bytes
  have hml : c.maxLocals = 5 := hml0
  have hown : s.vm.findClass "com/example/tidemark/tidemark/VarintsUnsignedLengthPinLaw" = some m.cls := findClass_of_methodNamed Bd.named
  have hnm := (name_of_methodNamed Bd.named Bd.method).1
  have X0 : Stand p l e room_1 s m #[(.long x0), (.int x1)] below meth c s₁ [] 0 0 := Stand.of_body Bd
  have e0 : s₁.heap = h0 := by rw [← hh, Bd.state]; rfl
  have N0 := Fr.nil n0
  have pre0 : ∀ t, Steps p.tables e below (s₁.setTop (mkF m 0 #[.val (.long x0), .second, .val (.int x1), .unset, .unset] [])) t → Steps p.tables e below (s₁.setTop (entryFrame m #[(.long x0), (.int x1)] maxLocals)) t := fun t k => castTop (ef_0 m x0 x1) k
  obtain ⟨v1, hv1⟩ : ∃ z : Int64, z = ((x0.toUInt64 >>> ((x1 &&& (63 : Int32)) &&& 0x3f).toInt64.toUInt64).toInt64) := ⟨_, rfl⟩
  have pre2 : ∀ t, Steps p.tables e below (s₁.setTop (mkF m 8 #[.val (.long x0), .second, .val (.int x1), .val (.long v1), .second] [(.long v1)])) t → Steps p.tables e below (s₁.setTop (entryFrame m #[(.long x0), (.int x1)] maxLocals)) t := fun t k => pre0 t (by
    subst hv1
    show Steps p.tables e below (s₁.setTop (mkF m 0 #[.val (.long x0), .second, .val (.int x1), .unset, .unset] [])) _
    refine XS.lloadN X0.here hx rfl (hb hby at_0) rfl ?_
    show Steps p.tables e below (s₁.setTop (mkF m 1 #[.val (.long x0), .second, .val (.int x1), .unset, .unset] [(.long x0)])) _
    refine XS.iloadN X0.here hx rfl (hb hby at_1) rfl ?_
    show Steps p.tables e below (s₁.setTop (mkF m 2 #[.val (.long x0), .second, .val (.int x1), .unset, .unset] [(.int x1), (.long x0)])) _
    refine XS.bipush X0.here hx rfl (hb hby at_2) ?_
    show Steps p.tables e below (s₁.setTop (mkF m 4 #[.val (.long x0), .second, .val (.int x1), .unset, .unset] [(.int (63 : Int32)), (.int x1), (.long x0)])) _
    refine XS.iand X0.here hx rfl (hb hby at_4) rfl ?_
    show Steps p.tables e below (s₁.setTop (mkF m 5 #[.val (.long x0), .second, .val (.int x1), .unset, .unset] [(.int (x1 &&& (63 : Int32))), (.long x0)])) _
    refine XS.lushr X0.here hx rfl (hb hby at_5) rfl ?_
    show Steps p.tables e below (s₁.setTop (mkF m 6 #[.val (.long x0), .second, .val (.int x1), .unset, .unset] [(.long ((x0.toUInt64 >>> ((x1 &&& (63 : Int32)) &&& 0x3f).toInt64.toUInt64).toInt64))])) _
    refine XS.lstoreN X0.here hx rfl (hb hby at_6) rfl (l' := #[.val (.long x0), .second, .val (.int x1), .val (.long ((x0.toUInt64 >>> ((x1 &&& (63 : Int32)) &&& 0x3f).toInt64.toUInt64).toInt64)), .second]) rfl ?_
    show Steps p.tables e below (s₁.setTop (mkF m 7 #[.val (.long x0), .second, .val (.int x1), .val (.long ((x0.toUInt64 >>> ((x1 &&& (63 : Int32)) &&& 0x3f).toInt64.toUInt64).toInt64)), .second] [])) _
    refine XS.lloadN X0.here hx rfl (hb hby at_7) rfl ?_
    show Steps p.tables e below (s₁.setTop (mkF m 8 #[.val (.long x0), .second, .val (.int x1), .val (.long ((x0.toUInt64 >>> ((x1 &&& (63 : Int32)) &&& 0x3f).toInt64.toUInt64).toInt64)), .second] [(.long ((x0.toUInt64 >>> ((x1 &&& (63 : Int32)) &&& 0x3f).toInt64.toUInt64).toInt64))])) _
    exact k)
  obtain ⟨_, _, ⟨T3, L3, k3, n3⟩, -, X3, ⟨Lc3, hQ3, l3, y3, z3⟩, st3⟩ := Jvm.LawKit.callS X0 hx (y := (⟨"com/example/tidemark/tidemark/Varints", "unsignedLength", "(J)I"⟩ : MethodName)) hown (mvT hZ (hw _ (List.mem_of_getElem? (i := 0) rfl))) (mvT hZ (hw _ (List.mem_of_getElem? (i := 1) rfl))) (mvT hZ (hw _ (List.mem_of_getElem? (i := 2) rfl))) (mvT hZ (hw _ (List.mem_of_getElem? (i := 3) rfl))) (by decide) (backOf (W := 0) (rm1 l Z a0 hw [] v1  h0 n0 Z0 ) hZ (hw _ (List.mem_of_getElem? (i := 3) rfl)) (hw _ (List.mem_of_getElem? (i := 2) rfl)) (by decide) (by decide)) (g := (mkF m 8 #[.val (.long x0), .second, .val (.int x1), .val (.long v1), .second] [(.long v1)])) rfl (by rw [hml]; rfl) (argsL := [(.long v1)]) (rest := []) (lenOf pd_1 rfl) rfl (by show 2 * 0 + _ ≤ _; exact Nat.le_of_eq rfl) (hb hby at_8) (fun _ _ => ⟨rfl, e0, (by decide : 0 + 0 ≤ _), (by decide : 0 + 0 ≤ _)⟩)
  dsimp only [Pt.U, Pt.locs, Pt.cells, Pt.slots] at X3 l3 y3 z3 st3 hQ3
  subst l3 y3 z3
  obtain ⟨r3, rfl, N3q, e3, P3⟩ := hQ3
  have N3 := Fr.app N0 N3q
  have pre4 : ∀ t, Steps p.tables e below (T3.setTop (mkF m 11 #[.val (.long x0), .second, .val (.int x1), .val (.long v1), .second] [(.int r3)])) t → Steps p.tables e below (s₁.setTop (entryFrame m #[(.long x0), (.int x1)] maxLocals)) t := fun t k => pre2 t (st3 _ k)
  have pre5 : ∀ t, Steps p.tables e below (T3.setTop (mkF m 12 #[.val (.long x0), .second, .val (.int x1), .val (.long v1), .second] [(.long v1), (.int r3)])) t → Steps p.tables e below (s₁.setTop (entryFrame m #[(.long x0), (.int x1)] maxLocals)) t := fun t k => pre4 t (by
    show Steps p.tables e below (T3.setTop (mkF m 11 #[.val (.long x0), .second, .val (.int x1), .val (.long v1), .second] [(.int r3)])) _
    refine XS.lloadN X3.here hx rfl (hb hby at_11) rfl ?_
    show Steps p.tables e below (T3.setTop (mkF m 12 #[.val (.long x0), .second, .val (.int x1), .val (.long v1), .second] [(.long v1), (.int r3)])) _
    exact k)
  obtain ⟨_, _, ⟨T6, L6, k6, n6⟩, -, X6, ⟨Lc6, hQ6, l6, y6, z6⟩, st6⟩ := Jvm.LawKit.callS X3 hx (y := (⟨"com/example/tidemark/tidemark/VarintsUnsignedLengthPinLaw", "ref", "(J)I"⟩ : MethodName)) hown (mvT hZ (hw _ (List.mem_of_getElem? (i := 16) rfl))) (mvT hZ (hw _ (List.mem_of_getElem? (i := 17) rfl))) (mvT hZ (hw _ (List.mem_of_getElem? (i := 18) rfl))) (mvT hZ (hw _ (List.mem_of_getElem? (i := 19) rfl))) (by decide) (backOf (W := 1) (rm5 l Z a0 hw [] v1  h0 n0 Z0 ) hZ (hw _ (List.mem_of_getElem? (i := 19) rfl)) (hw _ (List.mem_of_getElem? (i := 18) rfl)) (by decide) (by decide)) (g := (mkF m 12 #[.val (.long x0), .second, .val (.int x1), .val (.long v1), .second] [(.long v1), (.int r3)])) rfl (by rw [hml]; rfl) (argsL := [(.long v1)]) (rest := [(.int r3)]) (lenOf pd_1 rfl) rfl (by show 2 * 0 + _ ≤ _; exact Nat.le_of_eq rfl) (hb hby at_12) (fun _ _ => ⟨rfl, e3, (by decide : 0 + 0 ≤ _), (by decide : 0 + 0 ≤ _)⟩)
  dsimp only [Pt.U, Pt.locs, Pt.cells, Pt.slots] at X6 l6 y6 z6 st6 hQ6
  subst l6 y6 z6
  obtain ⟨r6, rfl, N6q, e6, P6⟩ := hQ6
  have N6 := Fr.app N3 N6q
  have pre7 : ∀ t, Steps p.tables e below (T6.setTop (mkF m 15 #[.val (.long x0), .second, .val (.int x1), .val (.long v1), .second] [(.int r6), (.int r3)])) t → Steps p.tables e below (s₁.setTop (entryFrame m #[(.long x0), (.int x1)] maxLocals)) t := fun t k => pre5 t (st6 _ k)
  obtain ⟨v9, hv9⟩ : ∃ z : Int32, z = (if r3 = r6 then (1 : Int32) else (0 : Int32)) := ⟨_, rfl⟩
  have pre10 : ∀ t, Steps p.tables e below (T6.setTop (mkF m 23 #[.val (.long x0), .second, .val (.int x1), .val (.long v1), .second] [(.int v9)])) t → Steps p.tables e below (s₁.setTop (entryFrame m #[(.long x0), (.int x1)] maxLocals)) t := fun t k => pre7 t (by
    show Steps p.tables e below (T6.setTop (mkF m 15 #[.val (.long x0), .second, .val (.int x1), .val (.long v1), .second] [(.int r6), (.int r3)])) _
    by_cases hc8 : r3 = r6
    · skip
      refine XS.icmpNo X6.here hx rfl (hb hby at_15) rfl (teq hc8).2 ?_
      show Steps p.tables e below (T6.setTop (mkF m 18 #[.val (.long x0), .second, .val (.int x1), .val (.long v1), .second] [])) _
      refine XS.iconst X6.here hx rfl (hb hby at_18) ?_
      show Steps p.tables e below (T6.setTop (mkF m 19 #[.val (.long x0), .second, .val (.int x1), .val (.long v1), .second] [(.int (1 : Int32))])) _
      refine XS.goto X6.here hx rfl (pc0 := 19) (pc' := 23) rfl (hb hby at_19) (by decide) (by decide) ?_
      show Steps p.tables e below (T6.setTop (mkF m 23 #[.val (.long x0), .second, .val (.int x1), .val (.long v1), .second] [(.int (1 : Int32))])) _
      rw [show v9 = (1 : Int32) from by rw [hv9, if_pos hc8]] at k
      exact k
    · skip
      refine XS.icmpYes X6.here hx rfl (pc0 := 15) (pc' := 22) rfl (hb hby at_15) rfl (feq hc8).2 (by decide) (by decide) ?_
      show Steps p.tables e below (T6.setTop (mkF m 22 #[.val (.long x0), .second, .val (.int x1), .val (.long v1), .second] [])) _
      refine XS.iconst X6.here hx rfl (hb hby at_22) ?_
      show Steps p.tables e below (T6.setTop (mkF m 23 #[.val (.long x0), .second, .val (.int x1), .val (.long v1), .second] [(.int (0 : Int32))])) _
      rw [show v9 = (0 : Int32) from by rw [hv9, if_neg hc8]] at k
      exact k)
  obtain rfl : v9 = (1 : Int32) := by exact own_fin x0 x1 v1 r3 r6 v9 hv1 P3 P6 hv9
  obtain ⟨fs, hr, hrun, hended, hW, hsame⟩ := X6.leave (v := some (.int (1 : Int32))) (fun h => by rw [Bd.returns] at h; cases h)
  refine ⟨_, _, pre10 _ ?_, hrun, hended, _, _, rfl, ?_, ⟨_, rfl⟩, hW, hsame.mono (by decide) (by decide)⟩
  · show Steps p.tables e below (T6.setTop (mkF m 23 #[.val (.long x0), .second, .val (.int x1), .val (.long v1), .second] [(.int (1 : Int32))])) _
    exact retN X6 hx (t := .boolean) Bd.returns (by simp) (hb hby at_23) hr
  · show Q0 Z x0 x1 h0 n0 _ T6.heap _
    rw [e6]
    exact ⟨rfl, N6⟩
set_option maxRecDepth 65536 in
set_option maxHeartbeats 40000000 in
theorem comes_1 {Post : Tables → Env → Array Value → State → Outcome → State → Prop} (hpost : ∀ tb e args s v u, (limb_1_1.after args s (.returned v) u = true ∧ limb_1_2.after args s (.returned v) u = true ∧ True) → FrameEnd s (.returned v) u (Jvm.fieldLocs frame_1_writes args s ++ Jvm.arrayLocs frame_1_arrays args s ++ Jvm.staticLocs frame_1_statics s) 0 0 → Post tb e args s (.returned v) u) :
    ArmFor flags0 classFile x code maxLocals ret World_1 tables_1 room_1 Calls_1 rest_1 Pre_1 Post := by
  intro l hfl _ _ p e ha hc hk s m args below hf hA hF happ hP
  obtain ⟨hcalls, hrest, hpre⟩ := hP
  obtain ⟨-, -, -, hnamed, -, -, -, hat⟩ := (Spec.applies_iff hf).mp happ
  obtain ⟨hg, hn⟩ := and_e (Cond.before_iff.mp (show (Jvm.Cond.and given_1 narrow_1).before args s = true from hpre))
  obtain ⟨hcount, hg0⟩ := and_e hg
  obtain ⟨ha0, hg1⟩ := and_e hg0
  have ha1 := hg1
  obtain ⟨w0, w1, rfl⟩ : ∃ w0 w1 : Value, args = #[w0, w1] := by
    have hs : args.size = 2 := by simpa [Cond.value, given_1] using hcount
    obtain ⟨L⟩ := args
    match L, hs with
    | [w0, w1], _ => exact ⟨w0, w1, rfl⟩
  have hw := fun d (hd : d ∈ tables_1) => atoms_spec (ws := Jvm.Cond.code x code maxLocals ret :: tables_1) hat d (List.mem_cons_of_mem _ hd)
  obtain ⟨i0, ei0⟩ := isL_v ha0
  obtain rfl : w0 = (.long i0) := Option.some.inj ei0
  obtain ⟨i1, ei1⟩ := is_v ha1
  obtain rfl : w1 = (.int i1) := Option.some.inj ei1
  obtain ⟨n, o, h1, h2, h3, _, L, rfl, ⟨rfl, N⟩, hq⟩ := rm0 l s _ hw tables_1 i0 i1  s.heap s.heap.size (Nat.le_refl _) p e ha hc hk s m _ below hf ((Spec.applies_iff_loose hf).mp happ).1 ⟨rfl, State.Warmed39.refl s, rfl⟩ trivial
  refine ⟨n, _, h1, h2, h3, hpost _ _ _ _ _ _ ⟨Cond.after_iff.mpr rfl, Cond.after_iff.mpr (eq_i res_at (Term.int_eval (1)) rfl), trivial⟩ ⟨hq.1, hq.2.1, (hq.2.2.sift fun y hy => Or.inr (N y hy)).mono (by decide) (by decide)⟩⟩
theorem main_1_1 : Claimed_1_1 := comes_1 fun _ _ _ _ _ _ h hF => ⟨h.1, hF⟩
theorem main_1_2 : Claimed_1_2 := comes_1 fun _ _ _ _ _ _ h hF => ⟨h.2.1, hF⟩
end Jvm.Pilot.@@N@@
namespace Jvm.Pilot.@@N@@
open Jvm Jvm.ClassFile Sem Op Lib Jvm.Free Jvm.Stand Jvm.Pilot.@@N@@.Jvm.D
/-! MADE BY PROGRAM (witnessworld.py) out of the Statement's table words and the real class files: 16 classes; the members and pool entries that the words name. The judged class is class 1, her method 2. -/
namespace start1
open Jvm.ClassFile
def u (s : String) : CpInfo := .utf8 (stringToUtf16 s)
/-- a pool by its gaps: so many unusable entries, then the entry; so many at the end -/
def gap : Nat → List CpInfo → List CpInfo
  | 0, r => r
  | n + 1, r => .unusable :: gap n r
def poolList (es : List (Nat × CpInfo)) (last : Nat) : List CpInfo := es.foldr (fun e r => gap e.1 (e.2 :: r)) (gap last [])
def pool (es : List (Nat × CpInfo)) (last : Nat) : Array CpInfo := ⟨poolList es last⟩
def fileOf (pool : Array CpInfo) (this : Nat) (attrs : Array Attribute := #[]) (ms : Array MethodInfo := #[]) (fl : Nat := 33) (sup : Nat := 0) (ifs : Array Nat := #[]) (fds : Array FieldInfo := #[]) : ClassFile where
  minorVersion := 0
  majorVersion := 65
  constantPool := pool
  accessFlags := fl
  thisClass := this
  superClass := sup
  interfaces := ifs
  fields := fds
  methods := ms
  attributes := attrs
def plain (name : String) (sup : Option ClassId) : Class where
  name := name
  kind := .ordinary
  loader := none
  accessFlags := 33
  super := sup
  interfaces := #[]
  cf := none
  fields := #[]
  methods := #[]
  instanceTypes := #[]
  staticTypes := #[]
  resolved := #[]
  callSites := []
  init := .initialized
  statics := none
  mirror := none

def pool0 : Array CpInfo := pool [(5, u "<init>"), (0, u "()V"), (1, .class_ 10), (1, u "java/lang/Object")] 113

def k0m0 : Method := { name := "<init>", desc := "()V", sig := { parameters := [], returnType := none }, accessFlags := 1, code := none }
/-- java/lang/Object -/
def k0 : Class := { plain "java/lang/Object" none with
  accessFlags := 33
  interfaces := #[]
  cf := some (fileOf pool0 8 #[] #[{ accessFlags := 1, nameIndex := 5, descriptorIndex := 6, attributes := #[] }] 33 0 #[] #[])
  fields := #[]
  methods := #[k0m0]
  instanceTypes := #[]
  staticTypes := #[]
  resolved := Array.replicate 124 none
  statics := none }

def pool1 : Array CpInfo := pool [(2, .class_ 4), (1, u "java/lang/Object"), (0, u "<init>"), (0, u "()V"), (0, .methodref 8 9), (0, .class_ 10), (0, .nameAndType 11 12), (0, u "com/example/tidemark/tidemark/Varints"), (0, u "unsignedLength"), (0, u "(J)I"), (0, .methodref 14 15), (0, .class_ 16), (0, .nameAndType 17 12), (0, u "com/example/tidemark/tidemark/VarintsUnsignedLengthPinLaw"), (0, u "ref"), (3, u "law"), (0, u "(JI)Z")] 2

def k1m0 : Method := { name := "<init>", desc := "()V", sig := { parameters := [], returnType := none }, accessFlags := 2, code := none }
def k1c1 : Code := { maxStack := 4, maxLocals := 2, code := method_2_code, exceptionTable := #[], attributes := #[] }
def k1m1 : Method := { name := "ref", desc := "(J)I", sig := { parameters := [.long], returnType := some .int }, accessFlags := 10, code := some k1c1 }
def k1c2 : Code := { maxStack := 4, maxLocals := 5, code := code, exceptionTable := #[], attributes := #[] }
def k1m2 : Method := { name := "law", desc := "(JI)Z", sig := { parameters := [.long, .int], returnType := some .boolean }, accessFlags := 9, code := some k1c2 }
/-- com/example/tidemark/tidemark/VarintsUnsignedLengthPinLaw -/
def k1 : Class := { plain "com/example/tidemark/tidemark/VarintsUnsignedLengthPinLaw" (some 0) with
  accessFlags := 49
  interfaces := #[]
  cf := some (fileOf pool1 14 #[] #[{ accessFlags := 2, nameIndex := 5, descriptorIndex := 6, attributes := #[] }, { accessFlags := 10, nameIndex := 17, descriptorIndex := 12, attributes := #[] }, { accessFlags := 9, nameIndex := 21, descriptorIndex := 22, attributes := #[] }] 49 2 #[] #[])
  fields := #[]
  methods := #[k1m0, k1m1, k1m2]
  instanceTypes := #[]
  staticTypes := #[]
  resolved := Array.replicate 25 none
  statics := none }

def pool2 : Array CpInfo := pool [(2, .class_ 4), (1, u "java/lang/Object"), (0, u "<init>"), (0, u "()V"), (13, .class_ 22), (1, u "com/example/tidemark/tidemark/Varints"), (2, .class_ 26), (0, u "java/lang/Long"), (15, .methodref 25 43), (0, .nameAndType 44 45), (0, u "numberOfLeadingZeros"), (0, u "(J)I"), (0, .methodref 47 48), (0, .class_ 49), (0, .nameAndType 50 51), (0, u "java/lang/Math"), (0, u "max"), (0, u "(II)I"), (2, u "unsignedLength"), (0, u "MAX_BYTES"), (0, u "I")] 10

def k2m0 : Method := { name := "<init>", desc := "()V", sig := { parameters := [], returnType := none }, accessFlags := 2, code := none }
def k2c1 : Code := { maxStack := 4, maxLocals := 2, code := prog_41_method_6_code, exceptionTable := #[], attributes := #[] }
def k2m1 : Method := { name := "unsignedLength", desc := "(J)I", sig := { parameters := [.long], returnType := some .int }, accessFlags := 8, code := some k2c1 }
/-- com/example/tidemark/tidemark/Varints -/
def k2 : Class := { plain "com/example/tidemark/tidemark/Varints" (some 0) with
  accessFlags := 48
  interfaces := #[]
  cf := some (fileOf pool2 20 #[] #[{ accessFlags := 2, nameIndex := 5, descriptorIndex := 6, attributes := #[] }, { accessFlags := 8, nameIndex := 54, descriptorIndex := 45, attributes := #[] }] 48 2 #[] #[{ accessFlags := 24, nameIndex := 55, descriptorIndex := 56, attributes := #[] }])
  fields := #[{ name := "MAX_BYTES", type := .int, accessFlags := 24, slot := 0, constantValue := 0 }]
  methods := #[k2m0, k2m1]
  instanceTypes := #[]
  staticTypes := #[.int]
  resolved := Array.replicate 67 none
  statics := none }

def pool3 : Array CpInfo := pool [(1, .class_ 2), (0, u "java/io/Serializable"), (0, .class_ 4), (0, u "java/lang/Object")] 2

/-- java/io/Serializable -/
def k3 : Class := { plain "java/io/Serializable" (some 0) with
  accessFlags := 1537
  interfaces := #[]
  cf := some (fileOf pool3 1 #[] #[] 1537 3 #[] #[])
  fields := #[]
  methods := #[]
  instanceTypes := #[]
  staticTypes := #[]
  resolved := Array.replicate 7 none
  statics := none }

def pool4 : Array CpInfo := pool [(2, .class_ 4), (1, u "java/lang/Object"), (0, u "<init>"), (0, u "()V"), (1, .class_ 10), (1, u "java/lang/Number"), (2, .class_ 14), (0, u "java/io/Serializable"), (0, u "serialVersionUID"), (0, u "J")] 20

def k4m0 : Method := { name := "<init>", desc := "()V", sig := { parameters := [], returnType := none }, accessFlags := 1, code := none }
/-- java/lang/Number -/
def k4 : Class := { plain "java/lang/Number" (some 0) with
  accessFlags := 1057
  interfaces := #[3]
  cf := some (fileOf pool4 8 #[] #[{ accessFlags := 1, nameIndex := 5, descriptorIndex := 6, attributes := #[] }] 1057 2 #[13] #[{ accessFlags := 26, nameIndex := 15, descriptorIndex := 16, attributes := #[] }])
  fields := #[{ name := "serialVersionUID", type := .long, accessFlags := 26, slot := 0, constantValue := 0 }]
  methods := #[k4m0]
  instanceTypes := #[]
  staticTypes := #[.long]
  resolved := Array.replicate 37 none
  statics := none }

def pool5 : Array CpInfo := pool [(1, .class_ 2), (0, u "java/lang/Comparable"), (0, .class_ 4), (0, u "java/lang/Object")] 7

/-- java/lang/Comparable -/
def k5 : Class := { plain "java/lang/Comparable" (some 0) with
  accessFlags := 1537
  interfaces := #[]
  cf := some (fileOf pool5 1 #[] #[] 1537 3 #[] #[])
  fields := #[]
  methods := #[]
  instanceTypes := #[]
  staticTypes := #[]
  resolved := Array.replicate 12 none
  statics := none }

def pool6 : Array CpInfo := pool [(1, .class_ 2), (0, u "java/lang/constant/Constable"), (0, .class_ 4), (0, u "java/lang/Object")] 6

/-- java/lang/constant/Constable -/
def k6 : Class := { plain "java/lang/constant/Constable" (some 0) with
  accessFlags := 1537
  interfaces := #[]
  cf := some (fileOf pool6 1 #[] #[] 1537 3 #[] #[])
  fields := #[]
  methods := #[]
  instanceTypes := #[]
  staticTypes := #[]
  resolved := Array.replicate 11 none
  statics := none }

def pool7 : Array CpInfo := pool [(1, .class_ 2), (0, u "java/lang/constant/ConstantDesc"), (0, .class_ 4), (0, u "java/lang/Object")] 32

/-- java/lang/constant/ConstantDesc -/
def k7 : Class := { plain "java/lang/constant/ConstantDesc" (some 0) with
  accessFlags := 1537
  interfaces := #[]
  cf := some (fileOf pool7 1 #[] #[] 1537 3 #[] #[])
  fields := #[]
  methods := #[]
  instanceTypes := #[]
  staticTypes := #[]
  resolved := Array.replicate 37 none
  statics := none }

def pool8 : Array CpInfo := pool [(1, .class_ 2), (0, u "java/lang/Long"), (15, .class_ 20), (1, u "java/lang/Integer"), (79, u "numberOfLeadingZeros"), (0, u "(J)I"), (133, .class_ 237), (1, u "java/lang/Long$LongCache"), (33, .class_ 272), (0, u "java/lang/Number"), (2, u "value"), (0, u "J"), (31, .methodref 18 309), (0, .nameAndType 100 310), (0, u "(I)I"), (50, u "TYPE"), (0, u "Ljava/lang/Class;"), (0, .class_ 364), (0, u "java/lang/Comparable"), (0, .class_ 366), (0, u "java/lang/constant/Constable"), (0, .class_ 368), (0, u "java/lang/constant/ConstantDesc"), (0, u "MIN_VALUE"), (1, u "MAX_VALUE"), (4, u "SIZE"), (0, u "I"), (1, u "BYTES"), (1, u "serialVersionUID")] 142

def k8c0 : Code := { maxStack := 3, maxLocals := 3, code := jdk_35_method_48_code, exceptionTable := #[], attributes := #[] }
def k8m0 : Method := { name := "numberOfLeadingZeros", desc := "(J)I", sig := { parameters := [.long], returnType := some .int }, accessFlags := 9, code := some k8c0 }
/-- java/lang/Long -/
def k8 : Class := { plain "java/lang/Long" (some 4) with
  accessFlags := 49
  interfaces := #[5, 6, 7]
  cf := some (fileOf pool8 1 #[.nestMembers #[235]] #[{ accessFlags := 9, nameIndex := 100, descriptorIndex := 101, attributes := #[] }] 49 271 #[363, 365, 367] #[{ accessFlags := 25, nameIndex := 369, descriptorIndex := 276, attributes := #[] }, { accessFlags := 25, nameIndex := 371, descriptorIndex := 276, attributes := #[] }, { accessFlags := 25, nameIndex := 361, descriptorIndex := 362, attributes := #[] }, { accessFlags := 18, nameIndex := 275, descriptorIndex := 276, attributes := #[] }, { accessFlags := 25, nameIndex := 376, descriptorIndex := 377, attributes := #[] }, { accessFlags := 25, nameIndex := 379, descriptorIndex := 377, attributes := #[] }, { accessFlags := 26, nameIndex := 381, descriptorIndex := 276, attributes := #[] }])
  fields := #[{ name := "MIN_VALUE", type := .long, accessFlags := 25, slot := 0, constantValue := 0 }, { name := "MAX_VALUE", type := .long, accessFlags := 25, slot := 1, constantValue := 0 }, { name := "TYPE", type := (.object "java/lang/Class"), accessFlags := 25, slot := 2, constantValue := 0 }, { name := "value", type := .long, accessFlags := 18, slot := 0, constantValue := 0 }, { name := "SIZE", type := .int, accessFlags := 25, slot := 3, constantValue := 0 }, { name := "BYTES", type := .int, accessFlags := 25, slot := 4, constantValue := 0 }, { name := "serialVersionUID", type := .long, accessFlags := 26, slot := 5, constantValue := 0 }]
  methods := #[k8m0]
  instanceTypes := #[.long]
  staticTypes := #[.long, .long, (.object "java/lang/Class"), .int, .int, .long]
  resolved := Array.replicate 524 none
  statics := none }

def pool9 : Array CpInfo := pool [(1, .class_ 2), (0, u "java/lang/Integer"), (16, u "digits"), (0, u "[C"), (32, u "numberOfLeadingZeros"), (0, u "(I)I"), (30, u "DigitOnes"), (0, u "[B"), (2, u "DigitTens"), (99, .class_ 190), (0, u "java/lang/Integer$IntegerCache"), (3, u "I"), (8, .class_ 204), (0, u "java/lang/Number"), (2, u "value"), (56, .integer 65536), (37, u "TYPE"), (0, u "Ljava/lang/Class;"), (0, .class_ 305), (0, u "java/lang/Comparable"), (0, .class_ 307), (0, u "java/lang/constant/Constable"), (0, .class_ 309), (0, u "java/lang/constant/ConstantDesc"), (0, u "MIN_VALUE"), (1, u "MAX_VALUE"), (3, u "SIZE"), (1, u "BYTES"), (1, u "serialVersionUID"), (0, u "J")] 131

def k9c0 : Code := { maxStack := 3, maxLocals := 2, code := jdk_33_method_47_code, exceptionTable := #[], attributes := #[] }
def k9m0 : Method := { name := "numberOfLeadingZeros", desc := "(I)I", sig := { parameters := [.int], returnType := some .int }, accessFlags := 9, code := some k9c0 }
/-- java/lang/Integer -/
def k9 : Class := { plain "java/lang/Integer" (some 4) with
  accessFlags := 49
  interfaces := #[5, 6, 7]
  cf := some (fileOf pool9 1 #[.nestMembers #[189]] #[{ accessFlags := 9, nameIndex := 53, descriptorIndex := 54, attributes := #[] }] 49 203 #[304, 306, 308] #[{ accessFlags := 25, nameIndex := 310, descriptorIndex := 194, attributes := #[] }, { accessFlags := 25, nameIndex := 312, descriptorIndex := 194, attributes := #[] }, { accessFlags := 25, nameIndex := 302, descriptorIndex := 303, attributes := #[] }, { accessFlags := 24, nameIndex := 19, descriptorIndex := 20, attributes := #[] }, { accessFlags := 24, nameIndex := 89, descriptorIndex := 86, attributes := #[] }, { accessFlags := 24, nameIndex := 85, descriptorIndex := 86, attributes := #[] }, { accessFlags := 18, nameIndex := 207, descriptorIndex := 194, attributes := #[] }, { accessFlags := 25, nameIndex := 316, descriptorIndex := 194, attributes := #[] }, { accessFlags := 25, nameIndex := 318, descriptorIndex := 194, attributes := #[] }, { accessFlags := 26, nameIndex := 320, descriptorIndex := 321, attributes := #[] }])
  fields := #[{ name := "MIN_VALUE", type := .int, accessFlags := 25, slot := 0, constantValue := 0 }, { name := "MAX_VALUE", type := .int, accessFlags := 25, slot := 1, constantValue := 0 }, { name := "TYPE", type := (.object "java/lang/Class"), accessFlags := 25, slot := 2, constantValue := 0 }, { name := "digits", type := (.array .char), accessFlags := 24, slot := 3, constantValue := 0 }, { name := "DigitTens", type := (.array .byte), accessFlags := 24, slot := 4, constantValue := 0 }, { name := "DigitOnes", type := (.array .byte), accessFlags := 24, slot := 5, constantValue := 0 }, { name := "value", type := .int, accessFlags := 18, slot := 0, constantValue := 0 }, { name := "SIZE", type := .int, accessFlags := 25, slot := 6, constantValue := 0 }, { name := "BYTES", type := .int, accessFlags := 25, slot := 7, constantValue := 0 }, { name := "serialVersionUID", type := .long, accessFlags := 26, slot := 8, constantValue := 0 }]
  methods := #[k9m0]
  instanceTypes := #[.int]
  staticTypes := #[.int, .int, (.object "java/lang/Class"), (.array .char), (.array .byte), (.array .byte), .int, .int, .long]
  resolved := Array.replicate 453 none
  statics := none }

def pool10 : Array CpInfo := pool [(1, .class_ 2), (0, u "java/lang/Math"), (1, .class_ 6), (1, u "java/lang/Object"), (0, u "<init>"), (0, u "()V"), (89, .class_ 100), (1, u "java/lang/Math$RandomNumberGeneratorHolder"), (71, u "negativeZeroFloatBits"), (0, u "J"), (2, u "negativeZeroDoubleBits"), (21, u "max"), (46, u "$assertionsDisabled"), (0, u "Z"), (88, u "(II)I"), (2, u "twoToTheDoubleScaleDown"), (0, u "D"), (4, u "twoToTheDoubleScaleUp"), (9, u "E"), (3, u "PI"), (2, u "TAU"), (2, u "DEGREES_TO_RADIANS"), (0, u "RADIANS_TO_DEGREES")] 94

def k10m0 : Method := { name := "<init>", desc := "()V", sig := { parameters := [], returnType := none }, accessFlags := 2, code := none }
def k10c1 : Code := { maxStack := 2, maxLocals := 2, code := jdk_29_method_65_code, exceptionTable := #[], attributes := #[] }
def k10m1 : Method := { name := "max", desc := "(II)I", sig := { parameters := [.int, .int], returnType := some .int }, accessFlags := 9, code := some k10c1 }
/-- java/lang/Math -/
def k10 : Class := { plain "java/lang/Math" (some 0) with
  accessFlags := 49
  interfaces := #[]
  cf := some (fileOf pool10 1 #[.nestMembers #[98]] #[{ accessFlags := 2, nameIndex := 7, descriptorIndex := 8, attributes := #[] }, { accessFlags := 9, nameIndex := 198, descriptorIndex := 335, attributes := #[] }] 49 4 #[] #[{ accessFlags := 25, nameIndex := 354, descriptorIndex := 339, attributes := #[] }, { accessFlags := 25, nameIndex := 358, descriptorIndex := 339, attributes := #[] }, { accessFlags := 25, nameIndex := 361, descriptorIndex := 339, attributes := #[] }, { accessFlags := 26, nameIndex := 364, descriptorIndex := 339, attributes := #[] }, { accessFlags := 26, nameIndex := 365, descriptorIndex := 339, attributes := #[] }, { accessFlags := 26, nameIndex := 172, descriptorIndex := 173, attributes := #[] }, { accessFlags := 26, nameIndex := 176, descriptorIndex := 173, attributes := #[] }, { accessFlags := 8, nameIndex := 344, descriptorIndex := 339, attributes := #[] }, { accessFlags := 8, nameIndex := 338, descriptorIndex := 339, attributes := #[] }, { accessFlags := 4120, nameIndex := 245, descriptorIndex := 246, attributes := #[] }])
  fields := #[{ name := "E", type := .double, accessFlags := 25, slot := 0, constantValue := 0 }, { name := "PI", type := .double, accessFlags := 25, slot := 1, constantValue := 0 }, { name := "TAU", type := .double, accessFlags := 25, slot := 2, constantValue := 0 }, { name := "DEGREES_TO_RADIANS", type := .double, accessFlags := 26, slot := 3, constantValue := 0 }, { name := "RADIANS_TO_DEGREES", type := .double, accessFlags := 26, slot := 4, constantValue := 0 }, { name := "negativeZeroFloatBits", type := .long, accessFlags := 26, slot := 5, constantValue := 0 }, { name := "negativeZeroDoubleBits", type := .long, accessFlags := 26, slot := 6, constantValue := 0 }, { name := "twoToTheDoubleScaleUp", type := .double, accessFlags := 8, slot := 7, constantValue := 0 }, { name := "twoToTheDoubleScaleDown", type := .double, accessFlags := 8, slot := 8, constantValue := 0 }, { name := "$assertionsDisabled", type := .boolean, accessFlags := 4120, slot := 9, constantValue := 0 }]
  methods := #[k10m0, k10m1]
  instanceTypes := #[]
  staticTypes := #[.double, .double, .double, .double, .double, .long, .long, .double, .double, .boolean]
  resolved := Array.replicate 460 none
  statics := none }

def pool11 : Array CpInfo := pool [(1, u "java/lang/Cloneable"), (0, .class_ 1), (0, u "java/lang/Object"), (0, .class_ 3)] 3

/-- java/lang/Cloneable -/
def k11 : Class := { plain "java/lang/Cloneable" (some 0) with
  accessFlags := 1537
  interfaces := #[]
  cf := some (fileOf pool11 2 #[] #[] 1537 4 #[] #[])
  fields := #[]
  methods := #[]
  instanceTypes := #[]
  staticTypes := #[]
  resolved := Array.replicate 8 none
  statics := none }

/-- the primitive byte -/
def k12 : Class := { plain "byte" none with kind := .primitive 'B', accessFlags := 0x411 }
/-- [B -/
def k13 : Class := { plain "[B" (some 0) with kind := .array 12 .byte, interfaces := #[11, 3], accessFlags := 1041 }

/-- the primitive int -/
def k14 : Class := { plain "int" none with kind := .primitive 'I', accessFlags := 0x411 }
/-- [I -/
def k15 : Class := { plain "[I" (some 0) with kind := .array 14 .int, interfaces := #[11, 3], accessFlags := 1041 }

def heap : Heap := #[]
def classes : Array Class := #[k0, k1, k2, k3, k4, k5, k6, k7, k8, k9, k10, k11, k12, k13, k14, k15]
def interned : List (Array UInt16 × Addr) := []
def slotsUsed : Nat := 0
def theMethod : MethodId := ⟨1, 2⟩
def args0 : Array Value := #[.long 70, .int 5]
def aboutOver (below : List Frame) : State where
  vm := { classes := classes, interned := interned.toArray }
  heap := heap
  slotsUsed := slotsUsed
  threads := #[{ frames := .invoking theMethod args0 :: below }]
def below0 : List Frame := [.native { method := ⟨0, 0⟩, args := #[] }]
def about1 : State := aboutOver below0
def p0 : Program := .bare "" "" ""
def e0 : Env := launch0.env 0 0 0
theorem w_frames : about1.frames = Frame.invoking theMethod args0 :: below0 := rfl
set_option maxRecDepth 65536 in
theorem w_args : argsFit about1.vm theMethod args0 = true := by decide +kernel
set_option maxRecDepth 65536 in
theorem w_heap : heapFits about1 = true := by decide +kernel
set_option maxRecDepth 65536 in
theorem w_runnable : about1.curStatus? = some .runnable := by decide +kernel
set_option maxRecDepth 65536 in
theorem w_alone : about1.alone = true := by decide +kernel
set_option maxRecDepth 65536 in
theorem w_named : about1.methodNamed? x = some theMethod := by decide +kernel
set_option maxRecDepth 65536 in
theorem w_hears : about1.hears theMethod below0 = true := by decide +kernel
set_option maxRecDepth 65536 in
theorem w_ripe : about1.ripe theMethod args0 below0 = true := by decide +kernel
theorem w_running : about1.status = .running := rfl
set_option maxRecDepth 65536 in
theorem w_room : about1.hasRoom e0.platform room_1 = true :=
  launch0.hasRoom_least _ room_1 (by decide +kernel) (by decide +kernel) (by decide +kernel) (by decide +kernel) (by decide +kernel) (by decide +kernel)
theorem allAtoms_all (ts : List Jvm.Cond) (a : Array Jvm.Value) (st : Jvm.State) : (allAtoms ts).before a st = ts.all (fun c => c.before a st) := by
  induction ts with
  | nil => rfl
  | cons c t ih =>
    show (Jvm.Cond.and c (allAtoms t)).before a st = _
    rw [Jvm.Cond.before_and, ih, List.all_cons]
def words1 : List Jvm.Cond := Jvm.Cond.code x code maxLocals ret :: tables_1
/-- a 'code' word, met by the world's own term for the bytes: nothing is compared byte by byte -/
theorem code_word {y : MethodName} {bytes : ByteArray} {mx : Nat} {rt : Option FieldType} {a : Array Value} {s : State} {m : MethodId} {meth : Method} {c : Code} (h1 : s.methodNamed? y = some m) (h2 : s.vm.method? m = some meth) (h3 : meth.code = some c) (h4 : c.code = bytes)
    (h5 : (c.maxLocals == mx && c.exceptionTable.isEmpty && decide (c.maxStack ≤ mostOperands) && decide (meth.sig.returnType = rt) && !meth.locks && decide (parseMethodDescriptor y.desc = some meth.sig)) = true) : (Jvm.Cond.code y bytes mx rt).before a s = true := by
  simp only [Bool.and_eq_true, beq_iff_eq, Bool.not_eq_true', decide_eq_true_eq] at h5
  obtain ⟨⟨⟨⟨⟨g1, g2⟩, g3⟩, g4⟩, g5⟩, g6⟩ := h5
  simp [Cond.before, Cond.holds, Cond.value, h1, h2, h3, h4, g1, g2, g3, g4, g5, g6]
def isCode : Jvm.Cond → Bool
  | .code _ _ _ _ => true
  | _ => false
theorem all_split {L : List Jvm.Cond} {P : Jvm.Cond → Bool} (h1 : L.all (fun c => isCode c || P c) = true) (h2 : ∀ c ∈ L.filter isCode, P c = true) : L.all P = true := by
  refine List.all_eq_true.mpr fun c hc => ?_
  have h := List.all_eq_true.mp h1 c hc
  rcases Bool.eq_false_or_eq_true (isCode c) with hi | hi
  · exact h2 c (List.mem_filter.mpr ⟨hc, hi⟩)
  · simpa [hi] using h
set_option maxRecDepth 65536 in
theorem w_c0 : (Jvm.Cond.code x code maxLocals ret).before args0 about1 = true := code_word (m := ⟨1, 2⟩) (meth := k1m2) (c := k1c2) (by decide +kernel) rfl rfl rfl (by decide +kernel)
set_option maxRecDepth 65536 in
theorem w_c1 : (Jvm.Cond.code ({ cls := "com/example/tidemark/tidemark/Varints", name := "unsignedLength", desc := "(J)I" } : Jvm.MethodName) prog_41_method_6_code (2 : Nat) (Option.some Jvm.ClassFile.FieldType.int)).before args0 about1 = true := code_word (m := ⟨2, 1⟩) (meth := k2m1) (c := k2c1) (by decide +kernel) rfl rfl rfl (by decide +kernel)
set_option maxRecDepth 65536 in
theorem w_c2 : (Jvm.Cond.code ({ cls := "java/lang/Long", name := "numberOfLeadingZeros", desc := "(J)I" } : Jvm.MethodName) jdk_35_method_48_code (3 : Nat) (Option.some Jvm.ClassFile.FieldType.int)).before args0 about1 = true := code_word (m := ⟨8, 0⟩) (meth := k8m0) (c := k8c0) (by decide +kernel) rfl rfl rfl (by decide +kernel)
set_option maxRecDepth 65536 in
theorem w_c3 : (Jvm.Cond.code ({ cls := "java/lang/Integer", name := "numberOfLeadingZeros", desc := "(I)I" } : Jvm.MethodName) jdk_33_method_47_code (2 : Nat) (Option.some Jvm.ClassFile.FieldType.int)).before args0 about1 = true := code_word (m := ⟨9, 0⟩) (meth := k9m0) (c := k9c0) (by decide +kernel) rfl rfl rfl (by decide +kernel)
set_option maxRecDepth 65536 in
theorem w_c4 : (Jvm.Cond.code ({ cls := "java/lang/Math", name := "max", desc := "(II)I" } : Jvm.MethodName) jdk_29_method_65_code (2 : Nat) (Option.some Jvm.ClassFile.FieldType.int)).before args0 about1 = true := code_word (m := ⟨10, 1⟩) (meth := k10m1) (c := k10c1) (by decide +kernel) rfl rfl rfl (by decide +kernel)
set_option maxRecDepth 65536 in
theorem w_c5 : (Jvm.Cond.code ({ cls := "com/example/tidemark/tidemark/VarintsUnsignedLengthPinLaw", name := "ref", desc := "(J)I" } : Jvm.MethodName) method_2_code (2 : Nat) (Option.some Jvm.ClassFile.FieldType.int)).before args0 about1 = true := code_word (m := ⟨1, 1⟩) (meth := k1m1) (c := k1c1) (by decide +kernel) rfl rfl rfl (by decide +kernel)
def codes1 : List Jvm.Cond := [Jvm.Cond.code x code maxLocals ret, Jvm.Cond.code ({ cls := "com/example/tidemark/tidemark/Varints", name := "unsignedLength", desc := "(J)I" } : Jvm.MethodName) prog_41_method_6_code (2 : Nat) (Option.some Jvm.ClassFile.FieldType.int), Jvm.Cond.code ({ cls := "java/lang/Long", name := "numberOfLeadingZeros", desc := "(J)I" } : Jvm.MethodName) jdk_35_method_48_code (3 : Nat) (Option.some Jvm.ClassFile.FieldType.int), Jvm.Cond.code ({ cls := "java/lang/Integer", name := "numberOfLeadingZeros", desc := "(I)I" } : Jvm.MethodName) jdk_33_method_47_code (2 : Nat) (Option.some Jvm.ClassFile.FieldType.int), Jvm.Cond.code ({ cls := "java/lang/Math", name := "max", desc := "(II)I" } : Jvm.MethodName) jdk_29_method_65_code (2 : Nat) (Option.some Jvm.ClassFile.FieldType.int), Jvm.Cond.code ({ cls := "com/example/tidemark/tidemark/VarintsUnsignedLengthPinLaw", name := "ref", desc := "(J)I" } : Jvm.MethodName) method_2_code (2 : Nat) (Option.some Jvm.ClassFile.FieldType.int)]
set_option maxRecDepth 65536 in
theorem codes_eq : words1.filter isCode = codes1 := rfl
theorem w_codes : ∀ c ∈ words1.filter isCode, c.before args0 about1 = true := by
  rw [codes_eq]
  intro c hc
  simp only [codes1, List.mem_cons, List.not_mem_nil, or_false] at hc
  rcases hc with rfl | rfl | rfl | rfl | rfl | rfl
  · exact w_c0
  · exact w_c1
  · exact w_c2
  · exact w_c3
  · exact w_c4
  · exact w_c5
set_option maxRecDepth 65536 in
theorem w_t1 : words1.all (fun c => isCode c || c.before args0 about1) = true := by decide +kernel
theorem w_tables : (allAtoms (Jvm.Cond.code x code maxLocals ret :: tables_1)).before args0 about1 = true := by
  rw [allAtoms_all]
  show words1.all (fun c => c.before args0 about1) = true
  refine all_split ?_ w_codes
  rw [w_t1]
set_option maxRecDepth 65536 in
theorem w_case : (Jvm.Cond.and given_1 narrow_1).before args0 about1 = true := by decide +kernel
theorem w_applies : (headSpec (Jvm.Cond.code x code maxLocals ret :: tables_1) room_1).applies x e0.platform about1 = true :=
  (Spec.applies_iff w_frames).mpr ⟨w_running, w_runnable, w_alone, w_named, w_hears, w_ripe, w_room, w_tables⟩
theorem atStart : AtStart classFile x code maxLocals ret World_1 tables_1 room_1 Calls_1 rest_1 Pre_1 launch0 p0 e0 about1 theMethod args0 below0 :=
  ⟨lists_1, trivial, launch0.admits_env _ _ _, launch0.least_env, fairChoices_fair.cas, fairChoices_fair.clock, w_frames, w_args, w_heap, w_applies, trivial, trivial, w_case⟩
end start1
theorem witness_1 : WitnessClaimed_1 := ⟨start1.p0, start1.e0, start1.about1, start1.theMethod, start1.args0, start1.below0, start1.atStart⟩
end Jvm.Pilot.@@N@@
