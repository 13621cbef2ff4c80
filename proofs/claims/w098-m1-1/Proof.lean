import JvmDerived
import JvmDerived.Pilot.@@N@@Statement
import JvmDerived.Pilot.@@N@@Code
set_option linter.unusedVariables false
set_option linter.unusedSimpArgs false
namespace Jvm.RoadKit
open Sem ClassFile Op Lib Jvm.Stand Jvm.Free Jvm.LawKit
section New
variable {p : Program} {l : Launch} {e : Env} {R : Room} {s : State} {m : MethodId} {args : Array Value} {below : List Frame} {meth : Method} {c : Code} {T : State} {locs : List Loc} {cells slots : Nat}
theorem retI (X : Stand p l e R s m args below meth c T locs cells slots) (hx : p.tables.exec = Jvm.exec) {pc : Nat} {Ls : Array Slot} {z : Int32} {rest : List Value} (hret : meth.sig.returnType = some .int) (hd : decode c.code pc = .ok (.ireturn, 1)) {fs : List Frame}
    (hl : ∀ (f : JFrame) (acts : List Action), f.method = m → f.locked = none → f.entered = [] → (doReturn e (T.setTop f) acts (some (.int z))).1 = T.setFrames fs) : Steps p.tables e below (T.setTop (mkF m pc Ls (.int z :: rest))) (T.setFrames fs) := by
  have hm' : T.vm.method? m = some meth := X.method'
  have hn : narrow .int (.int z) = .int z := rfl
  show Steps p.tables e below (T.setTop { method := m, pc := pc, locals := Ls, stack := _ :: rest, locked := none }) _
  jvm_step X.here [X.here.top, hx, hd, hm', hret, hn]
  first | (intro acts; rw [hl _ acts rfl rfl rfl]) | rw [hl _ _ rfl rfl rfl]
  exact Steps.refl _
end New
end Jvm.RoadKit
namespace Jvm.Pilot.@@N@@
open Jvm Jvm.ClassFile Sem Op Lib Jvm.Free Jvm.Stand Jvm.LawKit Jvm.RoadKit Bundle Jvm.Pilot.@@N@@.Jvm.D
theorem own_nn {x : Int32} (h : 0 ≤ x.toInt) : x.toInt = (x.toBitVec.toNat : Int) := by
  have e : x.toInt = x.toBitVec.toInt := rfl
  rw [BitVec.toInt_eq_toNat_cond] at e
  have := x.toBitVec.isLt
  split at e <;> omega
theorem own_nn' {x : Int32} (h : x.toBitVec.toNat < 2147483648) : x.toInt = (x.toBitVec.toNat : Int) := by
  have e : x.toInt = x.toBitVec.toInt := rfl
  rw [BitVec.toInt_eq_toNat_cond] at e
  split at e <;> omega
theorem own_xn (a k : Nat) (h : a < 2 ^ k) : a ^^^ (2 ^ k - 1) = 2 ^ k - 1 - a := by
  have e : 2 ^ k - 1 - a = 2 ^ k - (a + 1) := by omega
  rw [e]
  apply Nat.eq_of_testBit_eq
  intro i
  rw [Nat.testBit_xor, Nat.testBit_two_pow_sub_one, Nat.testBit_two_pow_sub_succ h]
  by_cases hi : i < k
  · simp [hi]
  · have : a.testBit i = false := Nat.testBit_lt_two_pow (Nat.lt_of_lt_of_le h (Nat.pow_le_pow_right (by decide) (by omega)))
    simp [hi, this]
theorem own_xm (a m : Int32) (k : Nat) (hk : k ≤ 31) (hm : m.toBitVec.toNat = 2 ^ k - 1) (h0 : 0 ≤ a.toInt) (h1 : a.toInt < (2 ^ k : Nat)) : (a ^^^ m).toInt = m.toInt - a.toInt := by
  have e := own_nn h0
  have hp : (2 : Nat) ^ k ≤ 2 ^ 31 := Nat.pow_le_pow_right (by decide) hk
  have hl : a.toBitVec.toNat < 2 ^ k := by omega
  have hb : (a ^^^ m).toBitVec.toNat = 2 ^ k - 1 - a.toBitVec.toNat := by
    rw [Int32.toBitVec_xor, BitVec.toNat_xor, hm, own_xn _ _ hl]
  rw [own_nn' (x := a ^^^ m) (by rw [hb]; omega), own_nn' (x := m) (by rw [hm]; omega), hb, hm, e]
  omega
def F1 (x0 : Int32) (x1 : Int32) : Int32 := (if x1 = (0 : Int32) then x0 else (if x0 < ((1 : Int32) <<< ((x1 - (1 : Int32)) &&& 31)) then ((x0 - ((1 : Int32) <<< (x1 &&& 31))) + (1 : Int32)) else x0))
theorem pn_0 : plainName "com/example/lynceus/lynceus/media/HuffmanTable" = true := by first | (simp [plainName, overriddenIn]; done) | decide +kernel
theorem d1_0 : decode prog_22_method_7_code 0 = .ok (.iload_n 1, 1) := by decide +kernel
theorem d1_1 : decode prog_22_method_7_code 1 = .ok (.ifCond .eq 12, 3) := by decide +kernel
theorem d1_4 : decode prog_22_method_7_code 4 = .ok (.iload_n 0, 1) := by decide +kernel
theorem d1_5 : decode prog_22_method_7_code 5 = .ok (.iconst 1, 1) := by decide +kernel
theorem d1_6 : decode prog_22_method_7_code 6 = .ok (.iload_n 1, 1) := by decide +kernel
theorem d1_7 : decode prog_22_method_7_code 7 = .ok (.iconst 1, 1) := by decide +kernel
theorem d1_8 : decode prog_22_method_7_code 8 = .ok (.isub, 1) := by decide +kernel
theorem d1_9 : decode prog_22_method_7_code 9 = .ok (.ishl, 1) := by decide +kernel
theorem d1_10 : decode prog_22_method_7_code 10 = .ok (.if_icmp .lt 7, 3) := by decide +kernel
theorem d1_13 : decode prog_22_method_7_code 13 = .ok (.iload_n 0, 1) := by decide +kernel
theorem d1_14 : decode prog_22_method_7_code 14 = .ok (.goto 10, 3) := by decide +kernel
theorem d1_17 : decode prog_22_method_7_code 17 = .ok (.iload_n 0, 1) := by decide +kernel
theorem d1_18 : decode prog_22_method_7_code 18 = .ok (.iconst 1, 1) := by decide +kernel
theorem d1_19 : decode prog_22_method_7_code 19 = .ok (.iload_n 1, 1) := by decide +kernel
theorem d1_20 : decode prog_22_method_7_code 20 = .ok (.ishl, 1) := by decide +kernel
theorem d1_21 : decode prog_22_method_7_code 21 = .ok (.isub, 1) := by decide +kernel
theorem d1_22 : decode prog_22_method_7_code 22 = .ok (.iconst 1, 1) := by decide +kernel
theorem d1_23 : decode prog_22_method_7_code 23 = .ok (.iadd, 1) := by decide +kernel
theorem d1_24 : decode prog_22_method_7_code 24 = .ok (.ireturn, 1) := by decide +kernel
theorem ef_1 (m : MethodId) (x0 : Int32) (x1 : Int32) : entryFrame m #[(.int x0), (.int x1)] 2 = mkF m 0 #[.val (.int x0), .val (.int x1)] [] := by first | (simp [entryFrame, mkF, argsToLocals, Value.category]; done) | rfl
def Q1 (Z : State) (x0 : Int32) (x1 : Int32) (h0 : Heap) (n0 : Nat) (v : Option Value) (h : Heap) (L : List Loc) : Prop := ∃ z : Int32, v = some (.int z) ∧ Fr n0 L ∧ h = h0 ∧ z = F1 x0 x1
set_option maxRecDepth 65536 in
set_option maxHeartbeats 40000000 in
theorem rm1 (l : Launch) (Z : State) (a0 : Array Value) (hw : ∀ d ∈ tables_1, d.before a0 Z = true) (ws : List Jvm.Cond) (x0 : Int32) (x1 : Int32) (h0 : Heap) (n0 : Nat) (Z0 : n0 ≤ h0.size) :
    MetFree l (⟨"com/example/lynceus/lynceus/media/HuffmanTable", "extend", "(II)I"⟩ : MethodName) (head1 (Jvm.Cond.code (⟨"com/example/lynceus/lynceus/media/HuffmanTable", "extend", "(II)I"⟩ : MethodName) prog_22_method_7_code 2 (some .int) :: ws) ({ frames := 0, cells := 0, slots := 0, locals := 0 } : Room)) (fun aa U => aa = #[(.int x0), (.int x1)] ∧ Z.Warmed39 U.vm ∧ U.heap = h0) (fun _ _ _ _ _ => True) (fun _ U o U' => ∃ v L, o = .returned v ∧ Q1 Z x0 x1 h0 n0 v U'.heap L ∧ FrameEnd U o U' L ({ frames := 0, cells := 0, slots := 0, locals := 0 } : Room).cells ({ frames := 0, cells := 0, slots := 0, locals := 0 } : Room).slots) := by
  refine MetFree.of_bodySF (plainFor_of_name pn_0) hisR ?_
  intro p e s m args below meth c s₁ Bd hml0 hP hK
  obtain ⟨rfl, hZ, hh⟩ := hP
  have hx := Bd.exec
  have hby := Bd.bytes
  have hml : c.maxLocals = 2 := hml0
  have hown : s.vm.findClass "com/example/lynceus/lynceus/media/HuffmanTable" = some m.cls := findClass_of_methodNamed Bd.named
  have hnm := (name_of_methodNamed Bd.named Bd.method).1
  have X0 : Stand p l e ({ frames := 0, cells := 0, slots := 0, locals := 0 } : Room) s m #[(.int x0), (.int x1)] below meth c s₁ [] 0 0 := Stand.of_body Bd
  have e0 : s₁.heap = h0 := by rw [← hh, Bd.state]; rfl
  have N0 := Fr.nil n0
  have pre0 : ∀ t, Steps p.tables e below (s₁.setTop (mkF m 0 #[.val (.int x0), .val (.int x1)] [])) t → Steps p.tables e below (s₁.setTop (entryFrame m #[(.int x0), (.int x1)] 2)) t := fun t k => castTop (ef_1 m x0 x1) k
  obtain ⟨v3, hv3⟩ : ∃ z : Int32, z = (if x1 = (0 : Int32) then x0 else (if x0 < ((1 : Int32) <<< ((x1 - (1 : Int32)) &&& 31)) then ((x0 - ((1 : Int32) <<< (x1 &&& 31))) + (1 : Int32)) else x0)) := ⟨_, rfl⟩
  have pre4 : ∀ t, Steps p.tables e below (s₁.setTop (mkF m 24 #[.val (.int x0), .val (.int x1)] [(.int v3)])) t → Steps p.tables e below (s₁.setTop (entryFrame m #[(.int x0), (.int x1)] 2)) t := fun t k => pre0 t (by
    show Steps p.tables e below (s₁.setTop (mkF m 0 #[.val (.int x0), .val (.int x1)] [])) _
    refine XS.iloadN X0.here hx rfl (hb hby d1_0) rfl ?_
    show Steps p.tables e below (s₁.setTop (mkF m 1 #[.val (.int x0), .val (.int x1)] [(.int x1)])) _
    by_cases hc1 : x1 = (0 : Int32)
    · skip
      refine XS.ifYes X0.here hx rfl (pc0 := 1) (pc' := 13) rfl (hb hby d1_1) rfl ((if0 _ _).trans (teq hc1).1) (by decide) (by decide) ?_
      show Steps p.tables e below (s₁.setTop (mkF m 13 #[.val (.int x0), .val (.int x1)] [])) _
      refine XS.iloadN X0.here hx rfl (hb hby d1_13) rfl ?_
      show Steps p.tables e below (s₁.setTop (mkF m 14 #[.val (.int x0), .val (.int x1)] [(.int x0)])) _
      refine XS.goto X0.here hx rfl (pc0 := 14) (pc' := 24) rfl (hb hby d1_14) (by decide) (by decide) ?_
      show Steps p.tables e below (s₁.setTop (mkF m 24 #[.val (.int x0), .val (.int x1)] [(.int x0)])) _
      rw [show v3 = x0 from by rw [hv3, if_pos hc1]] at k
      exact k
    · skip
      refine XS.ifNo X0.here hx rfl (hb hby d1_1) rfl ((if0 _ _).trans (feq hc1).1) ?_
      show Steps p.tables e below (s₁.setTop (mkF m 4 #[.val (.int x0), .val (.int x1)] [])) _
      refine XS.iloadN X0.here hx rfl (hb hby d1_4) rfl ?_
      show Steps p.tables e below (s₁.setTop (mkF m 5 #[.val (.int x0), .val (.int x1)] [(.int x0)])) _
      refine XS.iconst X0.here hx rfl (hb hby d1_5) ?_
      show Steps p.tables e below (s₁.setTop (mkF m 6 #[.val (.int x0), .val (.int x1)] [(.int (1 : Int32)), (.int x0)])) _
      refine XS.iloadN X0.here hx rfl (hb hby d1_6) rfl ?_
      show Steps p.tables e below (s₁.setTop (mkF m 7 #[.val (.int x0), .val (.int x1)] [(.int x1), (.int (1 : Int32)), (.int x0)])) _
      refine XS.iconst X0.here hx rfl (hb hby d1_7) ?_
      show Steps p.tables e below (s₁.setTop (mkF m 8 #[.val (.int x0), .val (.int x1)] [(.int (1 : Int32)), (.int x1), (.int (1 : Int32)), (.int x0)])) _
      refine XS.isub X0.here hx rfl (hb hby d1_8) rfl ?_
      show Steps p.tables e below (s₁.setTop (mkF m 9 #[.val (.int x0), .val (.int x1)] [(.int (x1 - (1 : Int32))), (.int (1 : Int32)), (.int x0)])) _
      refine XS.ishl X0.here hx rfl (hb hby d1_9) rfl ?_
      show Steps p.tables e below (s₁.setTop (mkF m 10 #[.val (.int x0), .val (.int x1)] [(.int ((1 : Int32) <<< ((x1 - (1 : Int32)) &&& 31))), (.int x0)])) _
      by_cases hc2 : x0 < ((1 : Int32) <<< ((x1 - (1 : Int32)) &&& 31))
      · skip
        refine XS.icmpYes X0.here hx rfl (pc0 := 10) (pc' := 17) rfl (hb hby d1_10) rfl (tlt hc2).1 (by decide) (by decide) ?_
        show Steps p.tables e below (s₁.setTop (mkF m 17 #[.val (.int x0), .val (.int x1)] [])) _
        refine XS.iloadN X0.here hx rfl (hb hby d1_17) rfl ?_
        show Steps p.tables e below (s₁.setTop (mkF m 18 #[.val (.int x0), .val (.int x1)] [(.int x0)])) _
        refine XS.iconst X0.here hx rfl (hb hby d1_18) ?_
        show Steps p.tables e below (s₁.setTop (mkF m 19 #[.val (.int x0), .val (.int x1)] [(.int (1 : Int32)), (.int x0)])) _
        refine XS.iloadN X0.here hx rfl (hb hby d1_19) rfl ?_
        show Steps p.tables e below (s₁.setTop (mkF m 20 #[.val (.int x0), .val (.int x1)] [(.int x1), (.int (1 : Int32)), (.int x0)])) _
        refine XS.ishl X0.here hx rfl (hb hby d1_20) rfl ?_
        show Steps p.tables e below (s₁.setTop (mkF m 21 #[.val (.int x0), .val (.int x1)] [(.int ((1 : Int32) <<< (x1 &&& 31))), (.int x0)])) _
        refine XS.isub X0.here hx rfl (hb hby d1_21) rfl ?_
        show Steps p.tables e below (s₁.setTop (mkF m 22 #[.val (.int x0), .val (.int x1)] [(.int (x0 - ((1 : Int32) <<< (x1 &&& 31))))])) _
        refine XS.iconst X0.here hx rfl (hb hby d1_22) ?_
        show Steps p.tables e below (s₁.setTop (mkF m 23 #[.val (.int x0), .val (.int x1)] [(.int (1 : Int32)), (.int (x0 - ((1 : Int32) <<< (x1 &&& 31))))])) _
        refine XS.iadd X0.here hx rfl (hb hby d1_23) rfl ?_
        show Steps p.tables e below (s₁.setTop (mkF m 24 #[.val (.int x0), .val (.int x1)] [(.int ((x0 - ((1 : Int32) <<< (x1 &&& 31))) + (1 : Int32)))])) _
        rw [show v3 = ((x0 - ((1 : Int32) <<< (x1 &&& 31))) + (1 : Int32)) from by rw [hv3, if_neg hc1, if_pos hc2]] at k
        exact k
      · skip
        refine XS.icmpNo X0.here hx rfl (hb hby d1_10) rfl (flt hc2).1 ?_
        show Steps p.tables e below (s₁.setTop (mkF m 13 #[.val (.int x0), .val (.int x1)] [])) _
        refine XS.iloadN X0.here hx rfl (hb hby d1_13) rfl ?_
        show Steps p.tables e below (s₁.setTop (mkF m 14 #[.val (.int x0), .val (.int x1)] [(.int x0)])) _
        refine XS.goto X0.here hx rfl (pc0 := 14) (pc' := 24) rfl (hb hby d1_14) (by decide) (by decide) ?_
        show Steps p.tables e below (s₁.setTop (mkF m 24 #[.val (.int x0), .val (.int x1)] [(.int x0)])) _
        rw [show v3 = x0 from by rw [hv3, if_neg hc1, if_neg hc2]] at k
        exact k)
  obtain ⟨fs, hr, hrun, hended, hW, hsame⟩ := X0.leave (v := some (.int v3)) (fun h => by rw [Bd.returns] at h; cases h)
  refine ⟨_, _, pre4 _ ?_, hrun, hended, _, _, rfl, ?_, ⟨_, rfl⟩, hW, hsame.mono (by decide) (by decide)⟩
  · show Steps p.tables e below (s₁.setTop (mkF m 24 #[.val (.int x0), .val (.int x1)] [(.int v3)])) _
    exact retI X0 hx Bd.returns (hb hby d1_24) hr
  · show Q1 Z x0 x1 h0 n0 _ s₁.heap _
    rw [e0]
    exact ⟨_, rfl, N0, rfl, by subst hv3; rw [F1]⟩
def F2 (x0 : Int32) : Int32 := (if x0 < (0 : Int32) then (-x0) else x0)
theorem d2_0 : decode jdk_29_method_59_code 0 = .ok (.iload_n 0, 1) := by decide +kernel
theorem d2_1 : decode jdk_29_method_59_code 1 = .ok (.ifCond .ge 8, 3) := by decide +kernel
theorem d2_4 : decode jdk_29_method_59_code 4 = .ok (.iload_n 0, 1) := by decide +kernel
theorem d2_5 : decode jdk_29_method_59_code 5 = .ok (.ineg, 1) := by decide +kernel
theorem d2_6 : decode jdk_29_method_59_code 6 = .ok (.goto 4, 3) := by decide +kernel
theorem d2_9 : decode jdk_29_method_59_code 9 = .ok (.iload_n 0, 1) := by decide +kernel
theorem d2_10 : decode jdk_29_method_59_code 10 = .ok (.ireturn, 1) := by decide +kernel
theorem ef_2 (m : MethodId) (x0 : Int32) : entryFrame m #[(.int x0)] 1 = mkF m 0 #[.val (.int x0)] [] := by first | (simp [entryFrame, mkF, argsToLocals, Value.category]; done) | rfl
def Q2 (Z : State) (x0 : Int32) (h0 : Heap) (n0 : Nat) (v : Option Value) (h : Heap) (L : List Loc) : Prop := ∃ z : Int32, v = some (.int z) ∧ Fr n0 L ∧ h = h0 ∧ z = F2 x0
set_option maxRecDepth 65536 in
set_option maxHeartbeats 40000000 in
theorem rm2 (l : Launch) (Z : State) (a0 : Array Value) (hw : ∀ d ∈ tables_1, d.before a0 Z = true) (ws : List Jvm.Cond) (x0 : Int32) (h0 : Heap) (n0 : Nat) (Z0 : n0 ≤ h0.size) :
    MetFree l (⟨"java/lang/Math", "abs", "(I)I"⟩ : MethodName) (head1 (Jvm.Cond.code (⟨"java/lang/Math", "abs", "(I)I"⟩ : MethodName) jdk_29_method_59_code 1 (some .int) :: ws) ({ frames := 0, cells := 0, slots := 0, locals := 0 } : Room)) (fun aa U => aa = #[(.int x0)] ∧ Z.Warmed39 U.vm ∧ U.heap = h0) (fun _ _ _ _ _ => True) (fun _ U o U' => ∃ v L, o = .returned v ∧ Q2 Z x0 h0 n0 v U'.heap L ∧ FrameEnd U o U' L ({ frames := 0, cells := 0, slots := 0, locals := 0 } : Room).cells ({ frames := 0, cells := 0, slots := 0, locals := 0 } : Room).slots) := by
  refine MetFree.of_bodySF (Jvm.Free.JP.mathPlain rfl (by decide +kernel)) hisR ?_
  intro p e s m args below meth c s₁ Bd hml0 hP hK
  obtain ⟨rfl, hZ, hh⟩ := hP
  have hx := Bd.exec
  have hby := Bd.bytes
  have hml : c.maxLocals = 1 := hml0
  have hown : s.vm.findClass "java/lang/Math" = some m.cls := findClass_of_methodNamed Bd.named
  have hnm := (name_of_methodNamed Bd.named Bd.method).1
  have X0 : Stand p l e ({ frames := 0, cells := 0, slots := 0, locals := 0 } : Room) s m #[(.int x0)] below meth c s₁ [] 0 0 := Stand.of_body Bd
  have e0 : s₁.heap = h0 := by rw [← hh, Bd.state]; rfl
  have N0 := Fr.nil n0
  have pre0 : ∀ t, Steps p.tables e below (s₁.setTop (mkF m 0 #[.val (.int x0)] [])) t → Steps p.tables e below (s₁.setTop (entryFrame m #[(.int x0)] 1)) t := fun t k => castTop (ef_2 m x0) k
  obtain ⟨v2, hv2⟩ : ∃ z : Int32, z = (if x0 < (0 : Int32) then (-x0) else x0) := ⟨_, rfl⟩
  have pre3 : ∀ t, Steps p.tables e below (s₁.setTop (mkF m 10 #[.val (.int x0)] [(.int v2)])) t → Steps p.tables e below (s₁.setTop (entryFrame m #[(.int x0)] 1)) t := fun t k => pre0 t (by
    show Steps p.tables e below (s₁.setTop (mkF m 0 #[.val (.int x0)] [])) _
    refine XS.iloadN X0.here hx rfl (hb hby d2_0) rfl ?_
    show Steps p.tables e below (s₁.setTop (mkF m 1 #[.val (.int x0)] [(.int x0)])) _
    by_cases hc1 : x0 < (0 : Int32)
    · skip
      refine XS.ifNo X0.here hx rfl (hb hby d2_1) rfl ((if0 _ _).trans (tlt hc1).2.1) ?_
      show Steps p.tables e below (s₁.setTop (mkF m 4 #[.val (.int x0)] [])) _
      refine XS.iloadN X0.here hx rfl (hb hby d2_4) rfl ?_
      show Steps p.tables e below (s₁.setTop (mkF m 5 #[.val (.int x0)] [(.int x0)])) _
      refine XS.ineg X0.here hx rfl (hb hby d2_5) rfl ?_
      show Steps p.tables e below (s₁.setTop (mkF m 6 #[.val (.int x0)] [(.int (-x0))])) _
      refine XS.goto X0.here hx rfl (pc0 := 6) (pc' := 10) rfl (hb hby d2_6) (by decide) (by decide) ?_
      show Steps p.tables e below (s₁.setTop (mkF m 10 #[.val (.int x0)] [(.int (-x0))])) _
      rw [show v2 = (-x0) from by rw [hv2, if_pos hc1]] at k
      exact k
    · skip
      refine XS.ifYes X0.here hx rfl (pc0 := 1) (pc' := 9) rfl (hb hby d2_1) rfl ((if0 _ _).trans (flt hc1).2.1) (by decide) (by decide) ?_
      show Steps p.tables e below (s₁.setTop (mkF m 9 #[.val (.int x0)] [])) _
      refine XS.iloadN X0.here hx rfl (hb hby d2_9) rfl ?_
      show Steps p.tables e below (s₁.setTop (mkF m 10 #[.val (.int x0)] [(.int x0)])) _
      rw [show v2 = x0 from by rw [hv2, if_neg hc1]] at k
      exact k)
  obtain ⟨fs, hr, hrun, hended, hW, hsame⟩ := X0.leave (v := some (.int v2)) (fun h => by rw [Bd.returns] at h; cases h)
  refine ⟨_, _, pre3 _ ?_, hrun, hended, _, _, rfl, ?_, ⟨_, rfl⟩, hW, hsame.mono (by decide) (by decide)⟩
  · show Steps p.tables e below (s₁.setTop (mkF m 10 #[.val (.int x0)] [(.int v2)])) _
    exact retI X0 hx Bd.returns (hb hby d2_10) hr
  · show Q2 Z x0 h0 n0 _ s₁.heap _
    rw [e0]
    exact ⟨_, rfl, N0, rfl, by subst hv2; rw [F2]⟩
theorem own_core (k : Nat) (t u : Int32) (T U : Int) (x0 v1 v10 v11 r13 v16 v19 r22 v26 v31 v36 : Int32)
    (ht : (1 : Int32) <<< (v1 &&& 31) = t) (hu : (1 : Int32) <<< ((v1 - 1) &&& 31) = u) (hT : t.toInt = T) (hU : u.toInt = U) (hTU : T = 2 * U) (hU1 : 1 ≤ U) (hU2 : U ≤ 32768) (hm : (t - 1).toBitVec.toNat = 2 ^ k - 1) (hk : k ≤ 31) (hTk : T = (2 ^ k : Nat))
    (hbit : ∀ v : Int32, 0 ≤ v.toInt → v.toInt < T → (((v.toUInt32 >>> ((v1 - 1) &&& 31).toUInt32).toInt32) &&& 1).toInt = if v.toInt < U then 0 else 1)
    (hc3 : ¬ (v1 = (0 : Int32))) (hv10 : v10 = (((1 : Int32) <<< (v1 &&& 31)) - (1 : Int32))) (hv11 : v11 = (x0 &&& v10)) (P13 : r13 = F1 v11 v1) (hv16 : v16 = (if (((v11.toUInt32 >>> ((v1 - (1 : Int32)) &&& 31).toUInt32).toInt32) &&& (1 : Int32)) = (1 : Int32) then (1 : Int32) else (0 : Int32))) (hv19 : v19 = (if v16 = (0 : Int32) then (-(v11 ^^^ v10)) else v11)) (P22 : r22 = F2 r13) (hv26 : v26 = (if r22 < ((1 : Int32) <<< ((v1 - (1 : Int32)) &&& 31)) then (0 : Int32) else (if v10 < r22 then (0 : Int32) else (1 : Int32)))) (hv31 : v31 = (if v16 = (0 : Int32) then (if r13 < (0 : Int32) then (1 : Int32) else (0 : Int32)) else (if (0 : Int32) < r13 then (1 : Int32) else (0 : Int32)))) (hv36 : v36 = (if r13 = v19 then (if v26 = (0 : Int32) then (0 : Int32) else (if v31 = (0 : Int32) then (0 : Int32) else (1 : Int32))) else (0 : Int32))) : v36 = (1 : Int32) := by
  rw [ht] at hv10
  unfold F1 at P13
  unfold F2 at P22
  rw [if_neg hc3, ht, hu] at P13
  rw [hu] at hv26
  have a1 := c_mask x0 (t - 1) k hk hm
  rw [← hv10, ← hv11, ← hTk] at a1
  have a2 : 0 ≤ v11.toInt := by rw [a1]; exact Int.emod_nonneg _ (by omega)
  have a3 : v11.toInt < T := by rw [a1]; exact Int.emod_lt_of_pos _ (by omega)
  have a4 := own_xm v11 v10 k hk (by rw [hv10]; exact hm) a2 (by rw [← hTk]; exact a3)
  have a5 := hbit v11 a2 a3
  have a6 := c_isub t 1
  rw [← hv10] at a6
  have a7 := rng32 v10
  have e1 : (1 : Int32).toInt = 1 := by decide
  have a8 := c_isub v11 t
  have a9 := rng32 (v11 - t)
  have b1 := c_iadd (v11 - t) 1
  have b2 := rng32 (v11 - t + 1)
  have b3 := c_ineg r13
  have b4 := rng32 (-r13)
  have b5 := c_ineg (v11 ^^^ v10)
  have b6 := rng32 (-(v11 ^^^ v10))
  have z0 : v10.toInt = T - 1 := by omega
  clear hv10 hv11 a1 hbit hm ht hu hTk
  simp only [← Int32.toInt_inj, Int32.lt_iff_toInt_lt, apply_ite Int32.toInt, Int32.reduceToInt] at *
  by_cases h : v11.toInt < U
  · have z1 : r13.toInt = v11.toInt - T + 1 := by rw [if_pos (by omega)] at P13; omega
    have z2 : v16.toInt = 0 := by rw [if_pos h] at a5; rw [if_neg (by omega)] at hv16; exact hv16
    have z3 : v19.toInt = r13.toInt := by rw [if_pos z2] at hv19; omega
    have z4 : r22.toInt = T - 1 - v11.toInt := by rw [if_pos (by omega)] at P22; omega
    have z5 : v26.toInt = 1 := by rw [if_neg (by omega), if_neg (by omega)] at hv26; exact hv26
    have z6 : v31.toInt = 1 := by rw [if_pos z2, if_pos (by omega)] at hv31; exact hv31
    rw [if_pos z3.symm, if_neg (by omega), if_neg (by omega)] at hv36; exact hv36
  · have z1 : r13.toInt = v11.toInt := by rw [if_neg (by omega)] at P13; exact P13
    have z2 : v16.toInt = 1 := by rw [if_neg h] at a5; rw [if_pos a5] at hv16; exact hv16
    have z3 : v19.toInt = r13.toInt := by rw [if_neg (by omega)] at hv19; omega
    have z4 : r22.toInt = v11.toInt := by rw [if_neg (by omega)] at P22; omega
    have z5 : v26.toInt = 1 := by rw [if_neg (by omega), if_neg (by omega)] at hv26; exact hv26
    have z6 : v31.toInt = 1 := by rw [if_neg (by omega), if_pos (by omega)] at hv31; exact hv31
    rw [if_pos z3.symm, if_neg (by omega), if_neg (by omega)] at hv36; exact hv36

theorem pd_0 : parseMethodDescriptor "(II)I" = some ⟨[.int, .int], some .int⟩ := by decide +kernel
set_option maxHeartbeats 8000000 in
theorem own_fin (x0 : Int32) (x1 : Int32) (v1 : Int32) (r5 : Int32) (v8 : Int32) (hv1 : v1 = ((x1 &&& (2147483647 : Int32)) % (17 : Int32))) (hc3 : v1 = (0 : Int32)) (P5 : r5 = F1 (0 : Int32) (0 : Int32)) (hv8 : v8 = (if r5 = (0 : Int32) then (1 : Int32) else (0 : Int32))) : v8 = (1 : Int32) := by
  subst P5
  rw [hv8]; decide
theorem pd_1 : parseMethodDescriptor "(I)I" = some ⟨[.int], some .int⟩ := by decide +kernel
set_option maxHeartbeats 8000000 in
theorem own_fin2 (x0 : Int32) (x1 : Int32) (v1 : Int32) (v10 : Int32) (v11 : Int32) (r13 : Int32) (v16 : Int32) (v19 : Int32) (r22 : Int32) (v26 : Int32) (v31 : Int32) (v36 : Int32) (hv1 : v1 = ((x1 &&& (2147483647 : Int32)) % (17 : Int32))) (hc3 : ¬ (v1 = (0 : Int32))) (hv10 : v10 = (((1 : Int32) <<< (v1 &&& 31)) - (1 : Int32))) (hv11 : v11 = (x0 &&& v10)) (P13 : r13 = F1 v11 v1) (hv16 : v16 = (if (((v11.toUInt32 >>> ((v1 - (1 : Int32)) &&& 31).toUInt32).toInt32) &&& (1 : Int32)) = (1 : Int32) then (1 : Int32) else (0 : Int32))) (hv19 : v19 = (if v16 = (0 : Int32) then (-(v11 ^^^ v10)) else v11)) (P22 : r22 = F2 r13) (hv26 : v26 = (if r22 < ((1 : Int32) <<< ((v1 - (1 : Int32)) &&& 31)) then (0 : Int32) else (if v10 < r22 then (0 : Int32) else (1 : Int32)))) (hv31 : v31 = (if v16 = (0 : Int32) then (if r13 < (0 : Int32) then (1 : Int32) else (0 : Int32)) else (if (0 : Int32) < r13 then (1 : Int32) else (0 : Int32)))) (hv36 : v36 = (if r13 = v19 then (if v26 = (0 : Int32) then (0 : Int32) else (if v31 = (0 : Int32) then (0 : Int32) else (1 : Int32))) else (0 : Int32))) : v36 = (1 : Int32) := by
  have a2 := c_mask x1 2147483647 31 (by decide) (by decide)
  have a3 := c_irem (x1 &&& 2147483647) 17 17 (by decide)
  rw [← hv1] at a3
  have hr : v1.toInt = 1 ∨ v1.toInt = 2 ∨ v1.toInt = 3 ∨ v1.toInt = 4 ∨ v1.toInt = 5 ∨ v1.toInt = 6 ∨ v1.toInt = 7 ∨ v1.toInt = 8 ∨ v1.toInt = 9 ∨ v1.toInt = 10 ∨ v1.toInt = 11 ∨ v1.toInt = 12 ∨ v1.toInt = 13 ∨ v1.toInt = 14 ∨ v1.toInt = 15 ∨ v1.toInt = 16 := by
    have : v1.toInt ≠ 0 := fun q => hc3 (Int32.toInt_inj.mp q)
    omega
  clear a2 a3 hv1
  have bit : ∀ (v q : Int32) (k : Nat) (T U : Int), q.toBitVec.toNat % 32 = k → 0 < k → U = (2 ^ k : Nat) → (∀ w : Int, 0 ≤ w → w < T → (w % 4294967296) / U % 2 = if w < U then 0 else 1) → 0 ≤ v.toInt → v.toInt < T → (((v.toUInt32 >>> (q &&& 31).toUInt32).toInt32) &&& 1).toInt = if v.toInt < U then 0 else 1 := by
    intro v q k T U hq hk hU hw h0 h1
    have := c_mask ((v.toUInt32 >>> (q &&& 31).toUInt32).toInt32) 1 1 (by decide) (by decide)
    rw [this, c_iushr v q k hq hk, ← hU]
    exact hw _ h0 h1
  rcases hr with h | h | h | h | h | h | h | h | h | h | h | h | h | h | h | h
  · obtain rfl : v1 = 1 := Int32.toInt_inj.mp h
    refine own_core 1 2 1 2 1 x0 1 v10 v11 r13 v16 v19 r22 v26 v31 v36 (by decide) (by decide) (by decide) (by decide) (by decide) (by decide) (by decide) (by decide) (by decide) (by decide) ?_ hc3 hv10 hv11 P13 hv16 hv19 P22 hv26 hv31 hv36
    intro v h0 h1
    have e : ((v.toUInt32 >>> (((1 : Int32) - 1) &&& 31).toUInt32).toInt32) = v := by
      rw [show ((((1 : Int32) - 1) &&& 31).toUInt32) = 0 by decide]
      simp
    rw [e, c_mask v 1 1 (by decide) (by decide)]
    omega
  · obtain rfl : v1 = 2 := Int32.toInt_inj.mp h
    exact own_core 2 4 2 4 2 x0 2 v10 v11 r13 v16 v19 r22 v26 v31 v36 (by decide) (by decide) (by decide) (by decide) (by decide) (by decide) (by decide) (by decide) (by decide) (by decide) (fun v => bit v _ 1 4 2 (by decide) (by decide) (by decide) (by intros; omega)) hc3 hv10 hv11 P13 hv16 hv19 P22 hv26 hv31 hv36
  · obtain rfl : v1 = 3 := Int32.toInt_inj.mp h
    exact own_core 3 8 4 8 4 x0 3 v10 v11 r13 v16 v19 r22 v26 v31 v36 (by decide) (by decide) (by decide) (by decide) (by decide) (by decide) (by decide) (by decide) (by decide) (by decide) (fun v => bit v _ 2 8 4 (by decide) (by decide) (by decide) (by intros; omega)) hc3 hv10 hv11 P13 hv16 hv19 P22 hv26 hv31 hv36
  · obtain rfl : v1 = 4 := Int32.toInt_inj.mp h
    exact own_core 4 16 8 16 8 x0 4 v10 v11 r13 v16 v19 r22 v26 v31 v36 (by decide) (by decide) (by decide) (by decide) (by decide) (by decide) (by decide) (by decide) (by decide) (by decide) (fun v => bit v _ 3 16 8 (by decide) (by decide) (by decide) (by intros; omega)) hc3 hv10 hv11 P13 hv16 hv19 P22 hv26 hv31 hv36
  · obtain rfl : v1 = 5 := Int32.toInt_inj.mp h
    exact own_core 5 32 16 32 16 x0 5 v10 v11 r13 v16 v19 r22 v26 v31 v36 (by decide) (by decide) (by decide) (by decide) (by decide) (by decide) (by decide) (by decide) (by decide) (by decide) (fun v => bit v _ 4 32 16 (by decide) (by decide) (by decide) (by intros; omega)) hc3 hv10 hv11 P13 hv16 hv19 P22 hv26 hv31 hv36
  · obtain rfl : v1 = 6 := Int32.toInt_inj.mp h
    exact own_core 6 64 32 64 32 x0 6 v10 v11 r13 v16 v19 r22 v26 v31 v36 (by decide) (by decide) (by decide) (by decide) (by decide) (by decide) (by decide) (by decide) (by decide) (by decide) (fun v => bit v _ 5 64 32 (by decide) (by decide) (by decide) (by intros; omega)) hc3 hv10 hv11 P13 hv16 hv19 P22 hv26 hv31 hv36
  · obtain rfl : v1 = 7 := Int32.toInt_inj.mp h
    exact own_core 7 128 64 128 64 x0 7 v10 v11 r13 v16 v19 r22 v26 v31 v36 (by decide) (by decide) (by decide) (by decide) (by decide) (by decide) (by decide) (by decide) (by decide) (by decide) (fun v => bit v _ 6 128 64 (by decide) (by decide) (by decide) (by intros; omega)) hc3 hv10 hv11 P13 hv16 hv19 P22 hv26 hv31 hv36
  · obtain rfl : v1 = 8 := Int32.toInt_inj.mp h
    exact own_core 8 256 128 256 128 x0 8 v10 v11 r13 v16 v19 r22 v26 v31 v36 (by decide) (by decide) (by decide) (by decide) (by decide) (by decide) (by decide) (by decide) (by decide) (by decide) (fun v => bit v _ 7 256 128 (by decide) (by decide) (by decide) (by intros; omega)) hc3 hv10 hv11 P13 hv16 hv19 P22 hv26 hv31 hv36
  · obtain rfl : v1 = 9 := Int32.toInt_inj.mp h
    exact own_core 9 512 256 512 256 x0 9 v10 v11 r13 v16 v19 r22 v26 v31 v36 (by decide) (by decide) (by decide) (by decide) (by decide) (by decide) (by decide) (by decide) (by decide) (by decide) (fun v => bit v _ 8 512 256 (by decide) (by decide) (by decide) (by intros; omega)) hc3 hv10 hv11 P13 hv16 hv19 P22 hv26 hv31 hv36
  · obtain rfl : v1 = 10 := Int32.toInt_inj.mp h
    exact own_core 10 1024 512 1024 512 x0 10 v10 v11 r13 v16 v19 r22 v26 v31 v36 (by decide) (by decide) (by decide) (by decide) (by decide) (by decide) (by decide) (by decide) (by decide) (by decide) (fun v => bit v _ 9 1024 512 (by decide) (by decide) (by decide) (by intros; omega)) hc3 hv10 hv11 P13 hv16 hv19 P22 hv26 hv31 hv36
  · obtain rfl : v1 = 11 := Int32.toInt_inj.mp h
    exact own_core 11 2048 1024 2048 1024 x0 11 v10 v11 r13 v16 v19 r22 v26 v31 v36 (by decide) (by decide) (by decide) (by decide) (by decide) (by decide) (by decide) (by decide) (by decide) (by decide) (fun v => bit v _ 10 2048 1024 (by decide) (by decide) (by decide) (by intros; omega)) hc3 hv10 hv11 P13 hv16 hv19 P22 hv26 hv31 hv36
  · obtain rfl : v1 = 12 := Int32.toInt_inj.mp h
    exact own_core 12 4096 2048 4096 2048 x0 12 v10 v11 r13 v16 v19 r22 v26 v31 v36 (by decide) (by decide) (by decide) (by decide) (by decide) (by decide) (by decide) (by decide) (by decide) (by decide) (fun v => bit v _ 11 4096 2048 (by decide) (by decide) (by decide) (by intros; omega)) hc3 hv10 hv11 P13 hv16 hv19 P22 hv26 hv31 hv36
  · obtain rfl : v1 = 13 := Int32.toInt_inj.mp h
    exact own_core 13 8192 4096 8192 4096 x0 13 v10 v11 r13 v16 v19 r22 v26 v31 v36 (by decide) (by decide) (by decide) (by decide) (by decide) (by decide) (by decide) (by decide) (by decide) (by decide) (fun v => bit v _ 12 8192 4096 (by decide) (by decide) (by decide) (by intros; omega)) hc3 hv10 hv11 P13 hv16 hv19 P22 hv26 hv31 hv36
  · obtain rfl : v1 = 14 := Int32.toInt_inj.mp h
    exact own_core 14 16384 8192 16384 8192 x0 14 v10 v11 r13 v16 v19 r22 v26 v31 v36 (by decide) (by decide) (by decide) (by decide) (by decide) (by decide) (by decide) (by decide) (by decide) (by decide) (fun v => bit v _ 13 16384 8192 (by decide) (by decide) (by decide) (by intros; omega)) hc3 hv10 hv11 P13 hv16 hv19 P22 hv26 hv31 hv36
  · obtain rfl : v1 = 15 := Int32.toInt_inj.mp h
    exact own_core 15 32768 16384 32768 16384 x0 15 v10 v11 r13 v16 v19 r22 v26 v31 v36 (by decide) (by decide) (by decide) (by decide) (by decide) (by decide) (by decide) (by decide) (by decide) (by decide) (fun v => bit v _ 14 32768 16384 (by decide) (by decide) (by decide) (by intros; omega)) hc3 hv10 hv11 P13 hv16 hv19 P22 hv26 hv31 hv36
  · obtain rfl : v1 = 16 := Int32.toInt_inj.mp h
    exact own_core 16 65536 32768 65536 32768 x0 16 v10 v11 r13 v16 v19 r22 v26 v31 v36 (by decide) (by decide) (by decide) (by decide) (by decide) (by decide) (by decide) (by decide) (by decide) (by decide) (fun v => bit v _ 15 65536 32768 (by decide) (by decide) (by decide) (by intros; omega)) hc3 hv10 hv11 P13 hv16 hv19 P22 hv26 hv31 hv36
theorem pn_1 : plainName "com/example/lynceus/lynceus/media/HuffmanTableExtendPinLaw" = true := by first | (simp [plainName, overriddenIn]; done) | decide +kernel
theorem ef_0 (m : MethodId) (x0 : Int32) (x1 : Int32) : entryFrame m #[(.int x0), (.int x1)] maxLocals = mkF m 0 #[.val (.int x0), .val (.int x1), .unset, .unset, .unset, .unset, .unset, .unset, .unset, .unset, .unset] [] := by first | (simp [entryFrame, mkF, argsToLocals, Value.category, maxLocals]; done) | rfl
def Q0 (Z : State) (x0 : Int32) (x1 : Int32) (h0 : Heap) (n0 : Nat) (v : Option Value) (h : Heap) (L : List Loc) : Prop := v = some (.int 1) ∧ Fr n0 L
set_option maxRecDepth 65536 in
set_option maxHeartbeats 40000000 in
theorem rm0 (l : Launch) (Z : State) (a0 : Array Value) (hw : ∀ d ∈ tables_1, d.before a0 Z = true) (ws : List Jvm.Cond) (x0 : Int32) (x1 : Int32) (h0 : Heap) (n0 : Nat) (Z0 : n0 ≤ h0.size) :
    MetFree l x (head1 (Jvm.Cond.code x code maxLocals ret :: ws) room_1) (fun aa U => aa = #[(.int x0), (.int x1)] ∧ Z.Warmed39 U.vm ∧ U.heap = h0) (fun _ _ _ _ _ => True) (fun _ U o U' => ∃ v L, o = .returned v ∧ Q0 Z x0 x1 h0 n0 v U'.heap L ∧ FrameEnd U o U' L room_1.cells room_1.slots) := by
  refine MetFree.of_bodySF (plainFor_of_name pn_1) hisR ?_
  intro p e s m args below meth c s₁ Bd hml0 hP hK
  obtain ⟨rfl, hZ, hh⟩ := hP
  have hx := Bd.exec
  have hby := Bd.bytes
  have hml : c.maxLocals = 11 := hml0
  have hown : s.vm.findClass "com/example/lynceus/lynceus/media/HuffmanTableExtendPinLaw" = some m.cls := findClass_of_methodNamed Bd.named
  have hnm := (name_of_methodNamed Bd.named Bd.method).1
  have X0 : Stand p l e room_1 s m #[(.int x0), (.int x1)] below meth c s₁ [] 0 0 := Stand.of_body Bd
  have e0 : s₁.heap = h0 := by rw [← hh, Bd.state]; rfl
  have N0 := Fr.nil n0
  have pre0 : ∀ t, Steps p.tables e below (s₁.setTop (mkF m 0 #[.val (.int x0), .val (.int x1), .unset, .unset, .unset, .unset, .unset, .unset, .unset, .unset, .unset] [])) t → Steps p.tables e below (s₁.setTop (entryFrame m #[(.int x0), (.int x1)] maxLocals)) t := fun t k => castTop (ef_0 m x0 x1) k
  obtain ⟨v1, hv1⟩ : ∃ z : Int32, z = ((x1 &&& (2147483647 : Int32)) % (17 : Int32)) := ⟨_, rfl⟩
  have pre2 : ∀ t, Steps p.tables e below (s₁.setTop (mkF m 9 #[.val (.int x0), .val (.int x1), .val (.int v1), .unset, .unset, .unset, .unset, .unset, .unset, .unset, .unset] [(.int v1)])) t → Steps p.tables e below (s₁.setTop (entryFrame m #[(.int x0), (.int x1)] maxLocals)) t := fun t k => pre0 t (by
    subst hv1
    show Steps p.tables e below (s₁.setTop (mkF m 0 #[.val (.int x0), .val (.int x1), .unset, .unset, .unset, .unset, .unset, .unset, .unset, .unset, .unset] [])) _
    refine XS.iloadN X0.here hx rfl (hb hby at_0) rfl ?_
    show Steps p.tables e below (s₁.setTop (mkF m 1 #[.val (.int x0), .val (.int x1), .unset, .unset, .unset, .unset, .unset, .unset, .unset, .unset, .unset] [(.int x1)])) _
    refine X0.ldcInt hx hown (mvT hZ (hw _ (List.mem_of_getElem? (i := 0) rfl))) (g := (mkF m 1 #[.val (.int x0), .val (.int x1), .unset, .unset, .unset, .unset, .unset, .unset, .unset, .unset, .unset] [(.int x1)])) rfl (hb hby at_1) _ ?_
    show Steps p.tables e below (s₁.setTop (mkF m 3 #[.val (.int x0), .val (.int x1), .unset, .unset, .unset, .unset, .unset, .unset, .unset, .unset, .unset] [(.int (2147483647 : Int32)), (.int x1)])) _
    refine XS.iand X0.here hx rfl (hb hby at_3) rfl ?_
    show Steps p.tables e below (s₁.setTop (mkF m 4 #[.val (.int x0), .val (.int x1), .unset, .unset, .unset, .unset, .unset, .unset, .unset, .unset, .unset] [(.int (x1 &&& (2147483647 : Int32)))])) _
    refine XS.bipush X0.here hx rfl (hb hby at_4) ?_
    show Steps p.tables e below (s₁.setTop (mkF m 6 #[.val (.int x0), .val (.int x1), .unset, .unset, .unset, .unset, .unset, .unset, .unset, .unset, .unset] [(.int (17 : Int32)), (.int (x1 &&& (2147483647 : Int32)))])) _
    refine iremM X0 hx rfl (hb hby at_6) rfl (by decide) ?_
    show Steps p.tables e below (s₁.setTop (mkF m 7 #[.val (.int x0), .val (.int x1), .unset, .unset, .unset, .unset, .unset, .unset, .unset, .unset, .unset] [(.int ((x1 &&& (2147483647 : Int32)) % (17 : Int32)))])) _
    refine XS.istoreN X0.here hx rfl (hb hby at_7) rfl (l' := #[.val (.int x0), .val (.int x1), .val (.int ((x1 &&& (2147483647 : Int32)) % (17 : Int32))), .unset, .unset, .unset, .unset, .unset, .unset, .unset, .unset]) rfl ?_
    show Steps p.tables e below (s₁.setTop (mkF m 8 #[.val (.int x0), .val (.int x1), .val (.int ((x1 &&& (2147483647 : Int32)) % (17 : Int32))), .unset, .unset, .unset, .unset, .unset, .unset, .unset, .unset] [])) _
    refine XS.iloadN X0.here hx rfl (hb hby at_8) rfl ?_
    show Steps p.tables e below (s₁.setTop (mkF m 9 #[.val (.int x0), .val (.int x1), .val (.int ((x1 &&& (2147483647 : Int32)) % (17 : Int32))), .unset, .unset, .unset, .unset, .unset, .unset, .unset, .unset] [(.int ((x1 &&& (2147483647 : Int32)) % (17 : Int32)))])) _
    exact k)
  by_cases hc3 : v1 = (0 : Int32)
  · skip
    have pre4 : ∀ t, Steps p.tables e below (s₁.setTop (mkF m 14 #[.val (.int x0), .val (.int x1), .val (.int v1), .unset, .unset, .unset, .unset, .unset, .unset, .unset, .unset] [(.int (0 : Int32)), (.int (0 : Int32))])) t → Steps p.tables e below (s₁.setTop (entryFrame m #[(.int x0), (.int x1)] maxLocals)) t := fun t k => pre2 t (by
      show Steps p.tables e below (s₁.setTop (mkF m 9 #[.val (.int x0), .val (.int x1), .val (.int v1), .unset, .unset, .unset, .unset, .unset, .unset, .unset, .unset] [(.int v1)])) _
      refine XS.ifNo X0.here hx rfl (hb hby at_9) rfl ((if0 _ _).trans (teq hc3).2) ?_
      show Steps p.tables e below (s₁.setTop (mkF m 12 #[.val (.int x0), .val (.int x1), .val (.int v1), .unset, .unset, .unset, .unset, .unset, .unset, .unset, .unset] [])) _
      refine XS.iconst X0.here hx rfl (hb hby at_12) ?_
      show Steps p.tables e below (s₁.setTop (mkF m 13 #[.val (.int x0), .val (.int x1), .val (.int v1), .unset, .unset, .unset, .unset, .unset, .unset, .unset, .unset] [(.int (0 : Int32))])) _
      refine XS.iconst X0.here hx rfl (hb hby at_13) ?_
      show Steps p.tables e below (s₁.setTop (mkF m 14 #[.val (.int x0), .val (.int x1), .val (.int v1), .unset, .unset, .unset, .unset, .unset, .unset, .unset, .unset] [(.int (0 : Int32)), (.int (0 : Int32))])) _
      exact k)
    obtain ⟨_, _, ⟨T5, L5, k5, n5⟩, -, X5, ⟨Lc5, hQ5, l5, y5, z5⟩, st5⟩ := Jvm.LawKit.callS X0 hx (y := (⟨"com/example/lynceus/lynceus/media/HuffmanTable", "extend", "(II)I"⟩ : MethodName)) hown (mvT hZ (hw _ (List.mem_of_getElem? (i := 1) rfl))) (mvT hZ (hw _ (List.mem_of_getElem? (i := 2) rfl))) (mvT hZ (hw _ (List.mem_of_getElem? (i := 3) rfl))) (mvT hZ (hw _ (List.mem_of_getElem? (i := 4) rfl))) (by decide) (backOf (W := 0) (rm1 l Z a0 hw [] (0 : Int32) (0 : Int32)  h0 n0 Z0 ) hZ (hw _ (List.mem_of_getElem? (i := 4) rfl)) (hw _ (List.mem_of_getElem? (i := 3) rfl)) (by decide) (by decide)) (g := (mkF m 14 #[.val (.int x0), .val (.int x1), .val (.int v1), .unset, .unset, .unset, .unset, .unset, .unset, .unset, .unset] [(.int (0 : Int32)), (.int (0 : Int32))])) rfl (by rw [hml]; rfl) (argsL := [(.int (0 : Int32)), (.int (0 : Int32))]) (rest := []) (lenOf pd_0 rfl) rfl (by show 2 * 0 + _ ≤ _; exact Nat.le_of_eq rfl) (hb hby at_14) (fun _ _ => ⟨rfl, e0, (by decide : 0 + 0 ≤ _), (by decide : 0 + 0 ≤ _)⟩)
    dsimp only [Pt.U, Pt.locs, Pt.cells, Pt.slots] at X5 l5 y5 z5 st5 hQ5
    subst l5 y5 z5
    obtain ⟨r5, rfl, N5q, e5, P5⟩ := hQ5
    have N5 := Fr.app N0 N5q
    have pre6 : ∀ t, Steps p.tables e below (T5.setTop (mkF m 17 #[.val (.int x0), .val (.int x1), .val (.int v1), .unset, .unset, .unset, .unset, .unset, .unset, .unset, .unset] [(.int r5)])) t → Steps p.tables e below (s₁.setTop (entryFrame m #[(.int x0), (.int x1)] maxLocals)) t := fun t k => pre4 t (st5 _ k)
    obtain ⟨v8, hv8⟩ : ∃ z : Int32, z = (if r5 = (0 : Int32) then (1 : Int32) else (0 : Int32)) := ⟨_, rfl⟩
    have pre9 : ∀ t, Steps p.tables e below (T5.setTop (mkF m 25 #[.val (.int x0), .val (.int x1), .val (.int v1), .unset, .unset, .unset, .unset, .unset, .unset, .unset, .unset] [(.int v8)])) t → Steps p.tables e below (s₁.setTop (entryFrame m #[(.int x0), (.int x1)] maxLocals)) t := fun t k => pre6 t (by
      show Steps p.tables e below (T5.setTop (mkF m 17 #[.val (.int x0), .val (.int x1), .val (.int v1), .unset, .unset, .unset, .unset, .unset, .unset, .unset, .unset] [(.int r5)])) _
      by_cases hc7 : r5 = (0 : Int32)
      · skip
        refine XS.ifNo X5.here hx rfl (hb hby at_17) rfl ((if0 _ _).trans (teq hc7).2) ?_
        show Steps p.tables e below (T5.setTop (mkF m 20 #[.val (.int x0), .val (.int x1), .val (.int v1), .unset, .unset, .unset, .unset, .unset, .unset, .unset, .unset] [])) _
        refine XS.iconst X5.here hx rfl (hb hby at_20) ?_
        show Steps p.tables e below (T5.setTop (mkF m 21 #[.val (.int x0), .val (.int x1), .val (.int v1), .unset, .unset, .unset, .unset, .unset, .unset, .unset, .unset] [(.int (1 : Int32))])) _
        refine XS.goto X5.here hx rfl (pc0 := 21) (pc' := 25) rfl (hb hby at_21) (by decide) (by decide) ?_
        show Steps p.tables e below (T5.setTop (mkF m 25 #[.val (.int x0), .val (.int x1), .val (.int v1), .unset, .unset, .unset, .unset, .unset, .unset, .unset, .unset] [(.int (1 : Int32))])) _
        rw [show v8 = (1 : Int32) from by rw [hv8, if_pos hc7]] at k
        exact k
      · skip
        refine XS.ifYes X5.here hx rfl (pc0 := 17) (pc' := 24) rfl (hb hby at_17) rfl ((if0 _ _).trans (feq hc7).2) (by decide) (by decide) ?_
        show Steps p.tables e below (T5.setTop (mkF m 24 #[.val (.int x0), .val (.int x1), .val (.int v1), .unset, .unset, .unset, .unset, .unset, .unset, .unset, .unset] [])) _
        refine XS.iconst X5.here hx rfl (hb hby at_24) ?_
        show Steps p.tables e below (T5.setTop (mkF m 25 #[.val (.int x0), .val (.int x1), .val (.int v1), .unset, .unset, .unset, .unset, .unset, .unset, .unset, .unset] [(.int (0 : Int32))])) _
        rw [show v8 = (0 : Int32) from by rw [hv8, if_neg hc7]] at k
        exact k)
    obtain rfl : v8 = (1 : Int32) := by exact own_fin x0 x1 v1 r5 v8 hv1 hc3 P5 hv8
    obtain ⟨fs, hr, hrun, hended, hW, hsame⟩ := X5.leave (v := some (.int (1 : Int32))) (fun h => by rw [Bd.returns] at h; cases h)
    refine ⟨_, _, pre9 _ ?_, hrun, hended, _, _, rfl, ?_, ⟨_, rfl⟩, hW, hsame.mono (by decide) (by decide)⟩
    · show Steps p.tables e below (T5.setTop (mkF m 25 #[.val (.int x0), .val (.int x1), .val (.int v1), .unset, .unset, .unset, .unset, .unset, .unset, .unset, .unset] [(.int (1 : Int32))])) _
      exact retN X5 hx (t := .boolean) Bd.returns (by simp) (hb hby at_25) hr
    · show Q0 Z x0 x1 h0 n0 _ T5.heap _
      rw [e5]
      exact ⟨rfl, N5⟩
  · skip
    obtain ⟨v10, hv10⟩ : ∃ z : Int32, z = (((1 : Int32) <<< (v1 &&& 31)) - (1 : Int32)) := ⟨_, rfl⟩
    obtain ⟨v11, hv11⟩ : ∃ z : Int32, z = (x0 &&& v10) := ⟨_, rfl⟩
    have pre12 : ∀ t, Steps p.tables e below (s₁.setTop (mkF m 40 #[.val (.int x0), .val (.int x1), .val (.int v1), .val (.int v10), .val (.int v11), .unset, .unset, .unset, .unset, .unset, .unset] [(.int v1), (.int v11)])) t → Steps p.tables e below (s₁.setTop (entryFrame m #[(.int x0), (.int x1)] maxLocals)) t := fun t k => pre2 t (by
      subst hv11
      subst hv10
      show Steps p.tables e below (s₁.setTop (mkF m 9 #[.val (.int x0), .val (.int x1), .val (.int v1), .unset, .unset, .unset, .unset, .unset, .unset, .unset, .unset] [(.int v1)])) _
      refine XS.ifYes X0.here hx rfl (pc0 := 9) (pc' := 26) rfl (hb hby at_9) rfl ((if0 _ _).trans (feq hc3).2) (by decide) (by decide) ?_
      show Steps p.tables e below (s₁.setTop (mkF m 26 #[.val (.int x0), .val (.int x1), .val (.int v1), .unset, .unset, .unset, .unset, .unset, .unset, .unset, .unset] [])) _
      refine XS.iconst X0.here hx rfl (hb hby at_26) ?_
      show Steps p.tables e below (s₁.setTop (mkF m 27 #[.val (.int x0), .val (.int x1), .val (.int v1), .unset, .unset, .unset, .unset, .unset, .unset, .unset, .unset] [(.int (1 : Int32))])) _
      refine XS.iloadN X0.here hx rfl (hb hby at_27) rfl ?_
      show Steps p.tables e below (s₁.setTop (mkF m 28 #[.val (.int x0), .val (.int x1), .val (.int v1), .unset, .unset, .unset, .unset, .unset, .unset, .unset, .unset] [(.int v1), (.int (1 : Int32))])) _
      refine XS.ishl X0.here hx rfl (hb hby at_28) rfl ?_
      show Steps p.tables e below (s₁.setTop (mkF m 29 #[.val (.int x0), .val (.int x1), .val (.int v1), .unset, .unset, .unset, .unset, .unset, .unset, .unset, .unset] [(.int ((1 : Int32) <<< (v1 &&& 31)))])) _
      refine XS.iconst X0.here hx rfl (hb hby at_29) ?_
      show Steps p.tables e below (s₁.setTop (mkF m 30 #[.val (.int x0), .val (.int x1), .val (.int v1), .unset, .unset, .unset, .unset, .unset, .unset, .unset, .unset] [(.int (1 : Int32)), (.int ((1 : Int32) <<< (v1 &&& 31)))])) _
      refine XS.isub X0.here hx rfl (hb hby at_30) rfl ?_
      show Steps p.tables e below (s₁.setTop (mkF m 31 #[.val (.int x0), .val (.int x1), .val (.int v1), .unset, .unset, .unset, .unset, .unset, .unset, .unset, .unset] [(.int (((1 : Int32) <<< (v1 &&& 31)) - (1 : Int32)))])) _
      refine XS.istoreN X0.here hx rfl (hb hby at_31) rfl (l' := #[.val (.int x0), .val (.int x1), .val (.int v1), .val (.int (((1 : Int32) <<< (v1 &&& 31)) - (1 : Int32))), .unset, .unset, .unset, .unset, .unset, .unset, .unset]) rfl ?_
      show Steps p.tables e below (s₁.setTop (mkF m 32 #[.val (.int x0), .val (.int x1), .val (.int v1), .val (.int (((1 : Int32) <<< (v1 &&& 31)) - (1 : Int32))), .unset, .unset, .unset, .unset, .unset, .unset, .unset] [])) _
      refine XS.iloadN X0.here hx rfl (hb hby at_32) rfl ?_
      show Steps p.tables e below (s₁.setTop (mkF m 33 #[.val (.int x0), .val (.int x1), .val (.int v1), .val (.int (((1 : Int32) <<< (v1 &&& 31)) - (1 : Int32))), .unset, .unset, .unset, .unset, .unset, .unset, .unset] [(.int x0)])) _
      refine XS.iloadN X0.here hx rfl (hb hby at_33) rfl ?_
      show Steps p.tables e below (s₁.setTop (mkF m 34 #[.val (.int x0), .val (.int x1), .val (.int v1), .val (.int (((1 : Int32) <<< (v1 &&& 31)) - (1 : Int32))), .unset, .unset, .unset, .unset, .unset, .unset, .unset] [(.int (((1 : Int32) <<< (v1 &&& 31)) - (1 : Int32))), (.int x0)])) _
      refine XS.iand X0.here hx rfl (hb hby at_34) rfl ?_
      show Steps p.tables e below (s₁.setTop (mkF m 35 #[.val (.int x0), .val (.int x1), .val (.int v1), .val (.int (((1 : Int32) <<< (v1 &&& 31)) - (1 : Int32))), .unset, .unset, .unset, .unset, .unset, .unset, .unset] [(.int (x0 &&& (((1 : Int32) <<< (v1 &&& 31)) - (1 : Int32))))])) _
      refine XS.istore X0.here hx rfl (hb hby at_35) rfl (l' := #[.val (.int x0), .val (.int x1), .val (.int v1), .val (.int (((1 : Int32) <<< (v1 &&& 31)) - (1 : Int32))), .val (.int (x0 &&& (((1 : Int32) <<< (v1 &&& 31)) - (1 : Int32)))), .unset, .unset, .unset, .unset, .unset, .unset]) rfl ?_
      show Steps p.tables e below (s₁.setTop (mkF m 37 #[.val (.int x0), .val (.int x1), .val (.int v1), .val (.int (((1 : Int32) <<< (v1 &&& 31)) - (1 : Int32))), .val (.int (x0 &&& (((1 : Int32) <<< (v1 &&& 31)) - (1 : Int32)))), .unset, .unset, .unset, .unset, .unset, .unset] [])) _
      refine XS.iload X0.here hx rfl (hb hby at_37) rfl ?_
      show Steps p.tables e below (s₁.setTop (mkF m 39 #[.val (.int x0), .val (.int x1), .val (.int v1), .val (.int (((1 : Int32) <<< (v1 &&& 31)) - (1 : Int32))), .val (.int (x0 &&& (((1 : Int32) <<< (v1 &&& 31)) - (1 : Int32)))), .unset, .unset, .unset, .unset, .unset, .unset] [(.int (x0 &&& (((1 : Int32) <<< (v1 &&& 31)) - (1 : Int32))))])) _
      refine XS.iloadN X0.here hx rfl (hb hby at_39) rfl ?_
      show Steps p.tables e below (s₁.setTop (mkF m 40 #[.val (.int x0), .val (.int x1), .val (.int v1), .val (.int (((1 : Int32) <<< (v1 &&& 31)) - (1 : Int32))), .val (.int (x0 &&& (((1 : Int32) <<< (v1 &&& 31)) - (1 : Int32)))), .unset, .unset, .unset, .unset, .unset, .unset] [(.int v1), (.int (x0 &&& (((1 : Int32) <<< (v1 &&& 31)) - (1 : Int32))))])) _
      exact k)
    obtain ⟨_, _, ⟨T13, L13, k13, n13⟩, -, X13, ⟨Lc13, hQ13, l13, y13, z13⟩, st13⟩ := Jvm.LawKit.callS X0 hx (y := (⟨"com/example/lynceus/lynceus/media/HuffmanTable", "extend", "(II)I"⟩ : MethodName)) hown (mvT hZ (hw _ (List.mem_of_getElem? (i := 1) rfl))) (mvT hZ (hw _ (List.mem_of_getElem? (i := 2) rfl))) (mvT hZ (hw _ (List.mem_of_getElem? (i := 3) rfl))) (mvT hZ (hw _ (List.mem_of_getElem? (i := 4) rfl))) (by decide) (backOf (W := 0) (rm1 l Z a0 hw [] v11 v1  h0 n0 Z0 ) hZ (hw _ (List.mem_of_getElem? (i := 4) rfl)) (hw _ (List.mem_of_getElem? (i := 3) rfl)) (by decide) (by decide)) (g := (mkF m 40 #[.val (.int x0), .val (.int x1), .val (.int v1), .val (.int v10), .val (.int v11), .unset, .unset, .unset, .unset, .unset, .unset] [(.int v1), (.int v11)])) rfl (by rw [hml]; rfl) (argsL := [(.int v11), (.int v1)]) (rest := []) (lenOf pd_0 rfl) rfl (by show 2 * 0 + _ ≤ _; exact Nat.le_of_eq rfl) (hb hby at_40) (fun _ _ => ⟨rfl, e0, (by decide : 0 + 0 ≤ _), (by decide : 0 + 0 ≤ _)⟩)
    dsimp only [Pt.U, Pt.locs, Pt.cells, Pt.slots] at X13 l13 y13 z13 st13 hQ13
    subst l13 y13 z13
    obtain ⟨r13, rfl, N13q, e13, P13⟩ := hQ13
    have N13 := Fr.app N0 N13q
    have pre14 : ∀ t, Steps p.tables e below (T13.setTop (mkF m 43 #[.val (.int x0), .val (.int x1), .val (.int v1), .val (.int v10), .val (.int v11), .unset, .unset, .unset, .unset, .unset, .unset] [(.int r13)])) t → Steps p.tables e below (s₁.setTop (entryFrame m #[(.int x0), (.int x1)] maxLocals)) t := fun t k => pre12 t (st13 _ k)
    obtain ⟨v16, hv16⟩ : ∃ z : Int32, z = (if (((v11.toUInt32 >>> ((v1 - (1 : Int32)) &&& 31).toUInt32).toInt32) &&& (1 : Int32)) = (1 : Int32) then (1 : Int32) else (0 : Int32)) := ⟨_, rfl⟩
    have pre17 : ∀ t, Steps p.tables e below (T13.setTop (mkF m 62 #[.val (.int x0), .val (.int x1), .val (.int v1), .val (.int v10), .val (.int v11), .val (.int r13), .unset, .unset, .unset, .unset, .unset] [(.int v16)])) t → Steps p.tables e below (s₁.setTop (entryFrame m #[(.int x0), (.int x1)] maxLocals)) t := fun t k => pre14 t (by
      show Steps p.tables e below (T13.setTop (mkF m 43 #[.val (.int x0), .val (.int x1), .val (.int v1), .val (.int v10), .val (.int v11), .unset, .unset, .unset, .unset, .unset, .unset] [(.int r13)])) _
      refine XS.istore X13.here hx rfl (hb hby at_43) rfl (l' := #[.val (.int x0), .val (.int x1), .val (.int v1), .val (.int v10), .val (.int v11), .val (.int r13), .unset, .unset, .unset, .unset, .unset]) rfl ?_
      show Steps p.tables e below (T13.setTop (mkF m 45 #[.val (.int x0), .val (.int x1), .val (.int v1), .val (.int v10), .val (.int v11), .val (.int r13), .unset, .unset, .unset, .unset, .unset] [])) _
      refine XS.iload X13.here hx rfl (hb hby at_45) rfl ?_
      show Steps p.tables e below (T13.setTop (mkF m 47 #[.val (.int x0), .val (.int x1), .val (.int v1), .val (.int v10), .val (.int v11), .val (.int r13), .unset, .unset, .unset, .unset, .unset] [(.int v11)])) _
      refine XS.iloadN X13.here hx rfl (hb hby at_47) rfl ?_
      show Steps p.tables e below (T13.setTop (mkF m 48 #[.val (.int x0), .val (.int x1), .val (.int v1), .val (.int v10), .val (.int v11), .val (.int r13), .unset, .unset, .unset, .unset, .unset] [(.int v1), (.int v11)])) _
      refine XS.iconst X13.here hx rfl (hb hby at_48) ?_
      show Steps p.tables e below (T13.setTop (mkF m 49 #[.val (.int x0), .val (.int x1), .val (.int v1), .val (.int v10), .val (.int v11), .val (.int r13), .unset, .unset, .unset, .unset, .unset] [(.int (1 : Int32)), (.int v1), (.int v11)])) _
      refine XS.isub X13.here hx rfl (hb hby at_49) rfl ?_
      show Steps p.tables e below (T13.setTop (mkF m 50 #[.val (.int x0), .val (.int x1), .val (.int v1), .val (.int v10), .val (.int v11), .val (.int r13), .unset, .unset, .unset, .unset, .unset] [(.int (v1 - (1 : Int32))), (.int v11)])) _
      refine XS.iushr X13.here hx rfl (hb hby at_50) rfl ?_
      show Steps p.tables e below (T13.setTop (mkF m 51 #[.val (.int x0), .val (.int x1), .val (.int v1), .val (.int v10), .val (.int v11), .val (.int r13), .unset, .unset, .unset, .unset, .unset] [(.int ((v11.toUInt32 >>> ((v1 - (1 : Int32)) &&& 31).toUInt32).toInt32))])) _
      refine XS.iconst X13.here hx rfl (hb hby at_51) ?_
      show Steps p.tables e below (T13.setTop (mkF m 52 #[.val (.int x0), .val (.int x1), .val (.int v1), .val (.int v10), .val (.int v11), .val (.int r13), .unset, .unset, .unset, .unset, .unset] [(.int (1 : Int32)), (.int ((v11.toUInt32 >>> ((v1 - (1 : Int32)) &&& 31).toUInt32).toInt32))])) _
      refine XS.iand X13.here hx rfl (hb hby at_52) rfl ?_
      show Steps p.tables e below (T13.setTop (mkF m 53 #[.val (.int x0), .val (.int x1), .val (.int v1), .val (.int v10), .val (.int v11), .val (.int r13), .unset, .unset, .unset, .unset, .unset] [(.int (((v11.toUInt32 >>> ((v1 - (1 : Int32)) &&& 31).toUInt32).toInt32) &&& (1 : Int32)))])) _
      refine XS.iconst X13.here hx rfl (hb hby at_53) ?_
      show Steps p.tables e below (T13.setTop (mkF m 54 #[.val (.int x0), .val (.int x1), .val (.int v1), .val (.int v10), .val (.int v11), .val (.int r13), .unset, .unset, .unset, .unset, .unset] [(.int (1 : Int32)), (.int (((v11.toUInt32 >>> ((v1 - (1 : Int32)) &&& 31).toUInt32).toInt32) &&& (1 : Int32)))])) _
      by_cases hc15 : (((v11.toUInt32 >>> ((v1 - (1 : Int32)) &&& 31).toUInt32).toInt32) &&& (1 : Int32)) = (1 : Int32)
      · skip
        refine XS.icmpNo X13.here hx rfl (hb hby at_54) rfl (teq hc15).2 ?_
        show Steps p.tables e below (T13.setTop (mkF m 57 #[.val (.int x0), .val (.int x1), .val (.int v1), .val (.int v10), .val (.int v11), .val (.int r13), .unset, .unset, .unset, .unset, .unset] [])) _
        refine XS.iconst X13.here hx rfl (hb hby at_57) ?_
        show Steps p.tables e below (T13.setTop (mkF m 58 #[.val (.int x0), .val (.int x1), .val (.int v1), .val (.int v10), .val (.int v11), .val (.int r13), .unset, .unset, .unset, .unset, .unset] [(.int (1 : Int32))])) _
        refine XS.goto X13.here hx rfl (pc0 := 58) (pc' := 62) rfl (hb hby at_58) (by decide) (by decide) ?_
        show Steps p.tables e below (T13.setTop (mkF m 62 #[.val (.int x0), .val (.int x1), .val (.int v1), .val (.int v10), .val (.int v11), .val (.int r13), .unset, .unset, .unset, .unset, .unset] [(.int (1 : Int32))])) _
        rw [show v16 = (1 : Int32) from by rw [hv16, if_pos hc15]] at k
        exact k
      · skip
        refine XS.icmpYes X13.here hx rfl (pc0 := 54) (pc' := 61) rfl (hb hby at_54) rfl (feq hc15).2 (by decide) (by decide) ?_
        show Steps p.tables e below (T13.setTop (mkF m 61 #[.val (.int x0), .val (.int x1), .val (.int v1), .val (.int v10), .val (.int v11), .val (.int r13), .unset, .unset, .unset, .unset, .unset] [])) _
        refine XS.iconst X13.here hx rfl (hb hby at_61) ?_
        show Steps p.tables e below (T13.setTop (mkF m 62 #[.val (.int x0), .val (.int x1), .val (.int v1), .val (.int v10), .val (.int v11), .val (.int r13), .unset, .unset, .unset, .unset, .unset] [(.int (0 : Int32))])) _
        rw [show v16 = (0 : Int32) from by rw [hv16, if_neg hc15]] at k
        exact k)
    obtain ⟨v19, hv19⟩ : ∃ z : Int32, z = (if v16 = (0 : Int32) then (-(v11 ^^^ v10)) else v11) := ⟨_, rfl⟩
    have pre20 : ∀ t, Steps p.tables e below (T13.setTop (mkF m 79 #[.val (.int x0), .val (.int x1), .val (.int v1), .val (.int v10), .val (.int v11), .val (.int r13), .val (.int v16), .unset, .unset, .unset, .unset] [(.int v19)])) t → Steps p.tables e below (s₁.setTop (entryFrame m #[(.int x0), (.int x1)] maxLocals)) t := fun t k => pre17 t (by
      show Steps p.tables e below (T13.setTop (mkF m 62 #[.val (.int x0), .val (.int x1), .val (.int v1), .val (.int v10), .val (.int v11), .val (.int r13), .unset, .unset, .unset, .unset, .unset] [(.int v16)])) _
      refine XS.istore X13.here hx rfl (hb hby at_62) rfl (l' := #[.val (.int x0), .val (.int x1), .val (.int v1), .val (.int v10), .val (.int v11), .val (.int r13), .val (.int v16), .unset, .unset, .unset, .unset]) rfl ?_
      show Steps p.tables e below (T13.setTop (mkF m 64 #[.val (.int x0), .val (.int x1), .val (.int v1), .val (.int v10), .val (.int v11), .val (.int r13), .val (.int v16), .unset, .unset, .unset, .unset] [])) _
      refine XS.iload X13.here hx rfl (hb hby at_64) rfl ?_
      show Steps p.tables e below (T13.setTop (mkF m 66 #[.val (.int x0), .val (.int x1), .val (.int v1), .val (.int v10), .val (.int v11), .val (.int r13), .val (.int v16), .unset, .unset, .unset, .unset] [(.int v16)])) _
      by_cases hc18 : v16 = (0 : Int32)
      · skip
        refine XS.ifYes X13.here hx rfl (pc0 := 66) (pc' := 74) rfl (hb hby at_66) rfl ((if0 _ _).trans (teq hc18).1) (by decide) (by decide) ?_
        show Steps p.tables e below (T13.setTop (mkF m 74 #[.val (.int x0), .val (.int x1), .val (.int v1), .val (.int v10), .val (.int v11), .val (.int r13), .val (.int v16), .unset, .unset, .unset, .unset] [])) _
        refine XS.iload X13.here hx rfl (hb hby at_74) rfl ?_
        show Steps p.tables e below (T13.setTop (mkF m 76 #[.val (.int x0), .val (.int x1), .val (.int v1), .val (.int v10), .val (.int v11), .val (.int r13), .val (.int v16), .unset, .unset, .unset, .unset] [(.int v11)])) _
        refine XS.iloadN X13.here hx rfl (hb hby at_76) rfl ?_
        show Steps p.tables e below (T13.setTop (mkF m 77 #[.val (.int x0), .val (.int x1), .val (.int v1), .val (.int v10), .val (.int v11), .val (.int r13), .val (.int v16), .unset, .unset, .unset, .unset] [(.int v10), (.int v11)])) _
        refine XS.ixor X13.here hx rfl (hb hby at_77) rfl ?_
        show Steps p.tables e below (T13.setTop (mkF m 78 #[.val (.int x0), .val (.int x1), .val (.int v1), .val (.int v10), .val (.int v11), .val (.int r13), .val (.int v16), .unset, .unset, .unset, .unset] [(.int (v11 ^^^ v10))])) _
        refine XS.ineg X13.here hx rfl (hb hby at_78) rfl ?_
        show Steps p.tables e below (T13.setTop (mkF m 79 #[.val (.int x0), .val (.int x1), .val (.int v1), .val (.int v10), .val (.int v11), .val (.int r13), .val (.int v16), .unset, .unset, .unset, .unset] [(.int (-(v11 ^^^ v10)))])) _
        rw [show v19 = (-(v11 ^^^ v10)) from by rw [hv19, if_pos hc18]] at k
        exact k
      · skip
        refine XS.ifNo X13.here hx rfl (hb hby at_66) rfl ((if0 _ _).trans (feq hc18).1) ?_
        show Steps p.tables e below (T13.setTop (mkF m 69 #[.val (.int x0), .val (.int x1), .val (.int v1), .val (.int v10), .val (.int v11), .val (.int r13), .val (.int v16), .unset, .unset, .unset, .unset] [])) _
        refine XS.iload X13.here hx rfl (hb hby at_69) rfl ?_
        show Steps p.tables e below (T13.setTop (mkF m 71 #[.val (.int x0), .val (.int x1), .val (.int v1), .val (.int v10), .val (.int v11), .val (.int r13), .val (.int v16), .unset, .unset, .unset, .unset] [(.int v11)])) _
        refine XS.goto X13.here hx rfl (pc0 := 71) (pc' := 79) rfl (hb hby at_71) (by decide) (by decide) ?_
        show Steps p.tables e below (T13.setTop (mkF m 79 #[.val (.int x0), .val (.int x1), .val (.int v1), .val (.int v10), .val (.int v11), .val (.int r13), .val (.int v16), .unset, .unset, .unset, .unset] [(.int v11)])) _
        rw [show v19 = v11 from by rw [hv19, if_neg hc18]] at k
        exact k)
    have pre21 : ∀ t, Steps p.tables e below (T13.setTop (mkF m 83 #[.val (.int x0), .val (.int x1), .val (.int v1), .val (.int v10), .val (.int v11), .val (.int r13), .val (.int v16), .val (.int v19), .unset, .unset, .unset] [(.int r13)])) t → Steps p.tables e below (s₁.setTop (entryFrame m #[(.int x0), (.int x1)] maxLocals)) t := fun t k => pre20 t (by
      show Steps p.tables e below (T13.setTop (mkF m 79 #[.val (.int x0), .val (.int x1), .val (.int v1), .val (.int v10), .val (.int v11), .val (.int r13), .val (.int v16), .unset, .unset, .unset, .unset] [(.int v19)])) _
      refine XS.istore X13.here hx rfl (hb hby at_79) rfl (l' := #[.val (.int x0), .val (.int x1), .val (.int v1), .val (.int v10), .val (.int v11), .val (.int r13), .val (.int v16), .val (.int v19), .unset, .unset, .unset]) rfl ?_
      show Steps p.tables e below (T13.setTop (mkF m 81 #[.val (.int x0), .val (.int x1), .val (.int v1), .val (.int v10), .val (.int v11), .val (.int r13), .val (.int v16), .val (.int v19), .unset, .unset, .unset] [])) _
      refine XS.iload X13.here hx rfl (hb hby at_81) rfl ?_
      show Steps p.tables e below (T13.setTop (mkF m 83 #[.val (.int x0), .val (.int x1), .val (.int v1), .val (.int v10), .val (.int v11), .val (.int r13), .val (.int v16), .val (.int v19), .unset, .unset, .unset] [(.int r13)])) _
      exact k)
    obtain ⟨_, _, ⟨T22, L22, k22, n22⟩, -, X22, ⟨Lc22, hQ22, l22, y22, z22⟩, st22⟩ := Jvm.LawKit.callS X13 hx (y := (⟨"java/lang/Math", "abs", "(I)I"⟩ : MethodName)) hown (mvT hZ (hw _ (List.mem_of_getElem? (i := 5) rfl))) (mvT hZ (hw _ (List.mem_of_getElem? (i := 6) rfl))) (mvT hZ (hw _ (List.mem_of_getElem? (i := 7) rfl))) (mvT hZ (hw _ (List.mem_of_getElem? (i := 8) rfl))) (by decide) (backOf (W := 0) (rm2 l Z a0 hw [] r13  h0 n0 Z0 ) hZ (hw _ (List.mem_of_getElem? (i := 8) rfl)) (hw _ (List.mem_of_getElem? (i := 7) rfl)) (by decide) (by decide)) (g := (mkF m 83 #[.val (.int x0), .val (.int x1), .val (.int v1), .val (.int v10), .val (.int v11), .val (.int r13), .val (.int v16), .val (.int v19), .unset, .unset, .unset] [(.int r13)])) rfl (by rw [hml]; rfl) (argsL := [(.int r13)]) (rest := []) (lenOf pd_1 rfl) rfl (by show 2 * 0 + _ ≤ _; exact Nat.le_of_eq rfl) (hb hby at_83) (fun _ _ => ⟨rfl, e13, (by decide : 0 + 0 ≤ _), (by decide : 0 + 0 ≤ _)⟩)
    dsimp only [Pt.U, Pt.locs, Pt.cells, Pt.slots] at X22 l22 y22 z22 st22 hQ22
    subst l22 y22 z22
    obtain ⟨r22, rfl, N22q, e22, P22⟩ := hQ22
    have N22 := Fr.app N13 N22q
    have pre23 : ∀ t, Steps p.tables e below (T22.setTop (mkF m 86 #[.val (.int x0), .val (.int x1), .val (.int v1), .val (.int v10), .val (.int v11), .val (.int r13), .val (.int v16), .val (.int v19), .unset, .unset, .unset] [(.int r22)])) t → Steps p.tables e below (s₁.setTop (entryFrame m #[(.int x0), (.int x1)] maxLocals)) t := fun t k => pre21 t (st22 _ k)
    obtain ⟨v26, hv26⟩ : ∃ z : Int32, z = (if r22 < ((1 : Int32) <<< ((v1 - (1 : Int32)) &&& 31)) then (0 : Int32) else (if v10 < r22 then (0 : Int32) else (1 : Int32))) := ⟨_, rfl⟩
    have pre27 : ∀ t, Steps p.tables e below (T22.setTop (mkF m 109 #[.val (.int x0), .val (.int x1), .val (.int v1), .val (.int v10), .val (.int v11), .val (.int r13), .val (.int v16), .val (.int v19), .val (.int r22), .unset, .unset] [(.int v26)])) t → Steps p.tables e below (s₁.setTop (entryFrame m #[(.int x0), (.int x1)] maxLocals)) t := fun t k => pre23 t (by
      show Steps p.tables e below (T22.setTop (mkF m 86 #[.val (.int x0), .val (.int x1), .val (.int v1), .val (.int v10), .val (.int v11), .val (.int r13), .val (.int v16), .val (.int v19), .unset, .unset, .unset] [(.int r22)])) _
      refine XS.istore X22.here hx rfl (hb hby at_86) rfl (l' := #[.val (.int x0), .val (.int x1), .val (.int v1), .val (.int v10), .val (.int v11), .val (.int r13), .val (.int v16), .val (.int v19), .val (.int r22), .unset, .unset]) rfl ?_
      show Steps p.tables e below (T22.setTop (mkF m 88 #[.val (.int x0), .val (.int x1), .val (.int v1), .val (.int v10), .val (.int v11), .val (.int r13), .val (.int v16), .val (.int v19), .val (.int r22), .unset, .unset] [])) _
      refine XS.iload X22.here hx rfl (hb hby at_88) rfl ?_
      show Steps p.tables e below (T22.setTop (mkF m 90 #[.val (.int x0), .val (.int x1), .val (.int v1), .val (.int v10), .val (.int v11), .val (.int r13), .val (.int v16), .val (.int v19), .val (.int r22), .unset, .unset] [(.int r22)])) _
      refine XS.iconst X22.here hx rfl (hb hby at_90) ?_
      show Steps p.tables e below (T22.setTop (mkF m 91 #[.val (.int x0), .val (.int x1), .val (.int v1), .val (.int v10), .val (.int v11), .val (.int r13), .val (.int v16), .val (.int v19), .val (.int r22), .unset, .unset] [(.int (1 : Int32)), (.int r22)])) _
      refine XS.iloadN X22.here hx rfl (hb hby at_91) rfl ?_
      show Steps p.tables e below (T22.setTop (mkF m 92 #[.val (.int x0), .val (.int x1), .val (.int v1), .val (.int v10), .val (.int v11), .val (.int r13), .val (.int v16), .val (.int v19), .val (.int r22), .unset, .unset] [(.int v1), (.int (1 : Int32)), (.int r22)])) _
      refine XS.iconst X22.here hx rfl (hb hby at_92) ?_
      show Steps p.tables e below (T22.setTop (mkF m 93 #[.val (.int x0), .val (.int x1), .val (.int v1), .val (.int v10), .val (.int v11), .val (.int r13), .val (.int v16), .val (.int v19), .val (.int r22), .unset, .unset] [(.int (1 : Int32)), (.int v1), (.int (1 : Int32)), (.int r22)])) _
      refine XS.isub X22.here hx rfl (hb hby at_93) rfl ?_
      show Steps p.tables e below (T22.setTop (mkF m 94 #[.val (.int x0), .val (.int x1), .val (.int v1), .val (.int v10), .val (.int v11), .val (.int r13), .val (.int v16), .val (.int v19), .val (.int r22), .unset, .unset] [(.int (v1 - (1 : Int32))), (.int (1 : Int32)), (.int r22)])) _
      refine XS.ishl X22.here hx rfl (hb hby at_94) rfl ?_
      show Steps p.tables e below (T22.setTop (mkF m 95 #[.val (.int x0), .val (.int x1), .val (.int v1), .val (.int v10), .val (.int v11), .val (.int r13), .val (.int v16), .val (.int v19), .val (.int r22), .unset, .unset] [(.int ((1 : Int32) <<< ((v1 - (1 : Int32)) &&& 31))), (.int r22)])) _
      by_cases hc24 : r22 < ((1 : Int32) <<< ((v1 - (1 : Int32)) &&& 31))
      · skip
        refine XS.icmpYes X22.here hx rfl (pc0 := 95) (pc' := 108) rfl (hb hby at_95) rfl (tlt hc24).1 (by decide) (by decide) ?_
        show Steps p.tables e below (T22.setTop (mkF m 108 #[.val (.int x0), .val (.int x1), .val (.int v1), .val (.int v10), .val (.int v11), .val (.int r13), .val (.int v16), .val (.int v19), .val (.int r22), .unset, .unset] [])) _
        refine XS.iconst X22.here hx rfl (hb hby at_108) ?_
        show Steps p.tables e below (T22.setTop (mkF m 109 #[.val (.int x0), .val (.int x1), .val (.int v1), .val (.int v10), .val (.int v11), .val (.int r13), .val (.int v16), .val (.int v19), .val (.int r22), .unset, .unset] [(.int (0 : Int32))])) _
        rw [show v26 = (0 : Int32) from by rw [hv26, if_pos hc24]] at k
        exact k
      · skip
        refine XS.icmpNo X22.here hx rfl (hb hby at_95) rfl (flt hc24).1 ?_
        show Steps p.tables e below (T22.setTop (mkF m 98 #[.val (.int x0), .val (.int x1), .val (.int v1), .val (.int v10), .val (.int v11), .val (.int r13), .val (.int v16), .val (.int v19), .val (.int r22), .unset, .unset] [])) _
        refine XS.iload X22.here hx rfl (hb hby at_98) rfl ?_
        show Steps p.tables e below (T22.setTop (mkF m 100 #[.val (.int x0), .val (.int x1), .val (.int v1), .val (.int v10), .val (.int v11), .val (.int r13), .val (.int v16), .val (.int v19), .val (.int r22), .unset, .unset] [(.int r22)])) _
        refine XS.iloadN X22.here hx rfl (hb hby at_100) rfl ?_
        show Steps p.tables e below (T22.setTop (mkF m 101 #[.val (.int x0), .val (.int x1), .val (.int v1), .val (.int v10), .val (.int v11), .val (.int r13), .val (.int v16), .val (.int v19), .val (.int r22), .unset, .unset] [(.int v10), (.int r22)])) _
        by_cases hc25 : v10 < r22
        · skip
          refine XS.icmpYes X22.here hx rfl (pc0 := 101) (pc' := 108) rfl (hb hby at_101) rfl (tlt hc25).2.2.1 (by decide) (by decide) ?_
          show Steps p.tables e below (T22.setTop (mkF m 108 #[.val (.int x0), .val (.int x1), .val (.int v1), .val (.int v10), .val (.int v11), .val (.int r13), .val (.int v16), .val (.int v19), .val (.int r22), .unset, .unset] [])) _
          refine XS.iconst X22.here hx rfl (hb hby at_108) ?_
          show Steps p.tables e below (T22.setTop (mkF m 109 #[.val (.int x0), .val (.int x1), .val (.int v1), .val (.int v10), .val (.int v11), .val (.int r13), .val (.int v16), .val (.int v19), .val (.int r22), .unset, .unset] [(.int (0 : Int32))])) _
          rw [show v26 = (0 : Int32) from by rw [hv26, if_neg hc24, if_pos hc25]] at k
          exact k
        · skip
          refine XS.icmpNo X22.here hx rfl (hb hby at_101) rfl (flt hc25).2.2.1 ?_
          show Steps p.tables e below (T22.setTop (mkF m 104 #[.val (.int x0), .val (.int x1), .val (.int v1), .val (.int v10), .val (.int v11), .val (.int r13), .val (.int v16), .val (.int v19), .val (.int r22), .unset, .unset] [])) _
          refine XS.iconst X22.here hx rfl (hb hby at_104) ?_
          show Steps p.tables e below (T22.setTop (mkF m 105 #[.val (.int x0), .val (.int x1), .val (.int v1), .val (.int v10), .val (.int v11), .val (.int r13), .val (.int v16), .val (.int v19), .val (.int r22), .unset, .unset] [(.int (1 : Int32))])) _
          refine XS.goto X22.here hx rfl (pc0 := 105) (pc' := 109) rfl (hb hby at_105) (by decide) (by decide) ?_
          show Steps p.tables e below (T22.setTop (mkF m 109 #[.val (.int x0), .val (.int x1), .val (.int v1), .val (.int v10), .val (.int v11), .val (.int r13), .val (.int v16), .val (.int v19), .val (.int r22), .unset, .unset] [(.int (1 : Int32))])) _
          rw [show v26 = (1 : Int32) from by rw [hv26, if_neg hc24, if_neg hc25]] at k
          exact k)
    obtain ⟨v31, hv31⟩ : ∃ z : Int32, z = (if v16 = (0 : Int32) then (if r13 < (0 : Int32) then (1 : Int32) else (0 : Int32)) else (if (0 : Int32) < r13 then (1 : Int32) else (0 : Int32))) := ⟨_, rfl⟩
    have pre32 : ∀ t, Steps p.tables e below (T22.setTop (mkF m 139 #[.val (.int x0), .val (.int x1), .val (.int v1), .val (.int v10), .val (.int v11), .val (.int r13), .val (.int v16), .val (.int v19), .val (.int r22), .val (.int v26), .unset] [(.int v31)])) t → Steps p.tables e below (s₁.setTop (entryFrame m #[(.int x0), (.int x1)] maxLocals)) t := fun t k => pre27 t (by
      show Steps p.tables e below (T22.setTop (mkF m 109 #[.val (.int x0), .val (.int x1), .val (.int v1), .val (.int v10), .val (.int v11), .val (.int r13), .val (.int v16), .val (.int v19), .val (.int r22), .unset, .unset] [(.int v26)])) _
      refine XS.istore X22.here hx rfl (hb hby at_109) rfl (l' := #[.val (.int x0), .val (.int x1), .val (.int v1), .val (.int v10), .val (.int v11), .val (.int r13), .val (.int v16), .val (.int v19), .val (.int r22), .val (.int v26), .unset]) rfl ?_
      show Steps p.tables e below (T22.setTop (mkF m 111 #[.val (.int x0), .val (.int x1), .val (.int v1), .val (.int v10), .val (.int v11), .val (.int r13), .val (.int v16), .val (.int v19), .val (.int r22), .val (.int v26), .unset] [])) _
      refine XS.iload X22.here hx rfl (hb hby at_111) rfl ?_
      show Steps p.tables e below (T22.setTop (mkF m 113 #[.val (.int x0), .val (.int x1), .val (.int v1), .val (.int v10), .val (.int v11), .val (.int r13), .val (.int v16), .val (.int v19), .val (.int r22), .val (.int v26), .unset] [(.int v16)])) _
      by_cases hc28 : v16 = (0 : Int32)
      · skip
        refine XS.ifYes X22.here hx rfl (pc0 := 113) (pc' := 129) rfl (hb hby at_113) rfl ((if0 _ _).trans (teq hc28).1) (by decide) (by decide) ?_
        show Steps p.tables e below (T22.setTop (mkF m 129 #[.val (.int x0), .val (.int x1), .val (.int v1), .val (.int v10), .val (.int v11), .val (.int r13), .val (.int v16), .val (.int v19), .val (.int r22), .val (.int v26), .unset] [])) _
        refine XS.iload X22.here hx rfl (hb hby at_129) rfl ?_
        show Steps p.tables e below (T22.setTop (mkF m 131 #[.val (.int x0), .val (.int x1), .val (.int v1), .val (.int v10), .val (.int v11), .val (.int r13), .val (.int v16), .val (.int v19), .val (.int r22), .val (.int v26), .unset] [(.int r13)])) _
        by_cases hc29 : r13 < (0 : Int32)
        · skip
          refine XS.ifNo X22.here hx rfl (hb hby at_131) rfl ((if0 _ _).trans (tlt hc29).2.1) ?_
          show Steps p.tables e below (T22.setTop (mkF m 134 #[.val (.int x0), .val (.int x1), .val (.int v1), .val (.int v10), .val (.int v11), .val (.int r13), .val (.int v16), .val (.int v19), .val (.int r22), .val (.int v26), .unset] [])) _
          refine XS.iconst X22.here hx rfl (hb hby at_134) ?_
          show Steps p.tables e below (T22.setTop (mkF m 135 #[.val (.int x0), .val (.int x1), .val (.int v1), .val (.int v10), .val (.int v11), .val (.int r13), .val (.int v16), .val (.int v19), .val (.int r22), .val (.int v26), .unset] [(.int (1 : Int32))])) _
          refine XS.goto X22.here hx rfl (pc0 := 135) (pc' := 139) rfl (hb hby at_135) (by decide) (by decide) ?_
          show Steps p.tables e below (T22.setTop (mkF m 139 #[.val (.int x0), .val (.int x1), .val (.int v1), .val (.int v10), .val (.int v11), .val (.int r13), .val (.int v16), .val (.int v19), .val (.int r22), .val (.int v26), .unset] [(.int (1 : Int32))])) _
          rw [show v31 = (1 : Int32) from by rw [hv31, if_pos hc28, if_pos hc29]] at k
          exact k
        · skip
          refine XS.ifYes X22.here hx rfl (pc0 := 131) (pc' := 138) rfl (hb hby at_131) rfl ((if0 _ _).trans (flt hc29).2.1) (by decide) (by decide) ?_
          show Steps p.tables e below (T22.setTop (mkF m 138 #[.val (.int x0), .val (.int x1), .val (.int v1), .val (.int v10), .val (.int v11), .val (.int r13), .val (.int v16), .val (.int v19), .val (.int r22), .val (.int v26), .unset] [])) _
          refine XS.iconst X22.here hx rfl (hb hby at_138) ?_
          show Steps p.tables e below (T22.setTop (mkF m 139 #[.val (.int x0), .val (.int x1), .val (.int v1), .val (.int v10), .val (.int v11), .val (.int r13), .val (.int v16), .val (.int v19), .val (.int r22), .val (.int v26), .unset] [(.int (0 : Int32))])) _
          rw [show v31 = (0 : Int32) from by rw [hv31, if_pos hc28, if_neg hc29]] at k
          exact k
      · skip
        refine XS.ifNo X22.here hx rfl (hb hby at_113) rfl ((if0 _ _).trans (feq hc28).1) ?_
        show Steps p.tables e below (T22.setTop (mkF m 116 #[.val (.int x0), .val (.int x1), .val (.int v1), .val (.int v10), .val (.int v11), .val (.int r13), .val (.int v16), .val (.int v19), .val (.int r22), .val (.int v26), .unset] [])) _
        refine XS.iload X22.here hx rfl (hb hby at_116) rfl ?_
        show Steps p.tables e below (T22.setTop (mkF m 118 #[.val (.int x0), .val (.int x1), .val (.int v1), .val (.int v10), .val (.int v11), .val (.int r13), .val (.int v16), .val (.int v19), .val (.int r22), .val (.int v26), .unset] [(.int r13)])) _
        by_cases hc30 : (0 : Int32) < r13
        · skip
          refine XS.ifNo X22.here hx rfl (hb hby at_118) rfl ((if0 _ _).trans (tlt hc30).2.2.2) ?_
          show Steps p.tables e below (T22.setTop (mkF m 121 #[.val (.int x0), .val (.int x1), .val (.int v1), .val (.int v10), .val (.int v11), .val (.int r13), .val (.int v16), .val (.int v19), .val (.int r22), .val (.int v26), .unset] [])) _
          refine XS.iconst X22.here hx rfl (hb hby at_121) ?_
          show Steps p.tables e below (T22.setTop (mkF m 122 #[.val (.int x0), .val (.int x1), .val (.int v1), .val (.int v10), .val (.int v11), .val (.int r13), .val (.int v16), .val (.int v19), .val (.int r22), .val (.int v26), .unset] [(.int (1 : Int32))])) _
          refine XS.goto X22.here hx rfl (pc0 := 122) (pc' := 139) rfl (hb hby at_122) (by decide) (by decide) ?_
          show Steps p.tables e below (T22.setTop (mkF m 139 #[.val (.int x0), .val (.int x1), .val (.int v1), .val (.int v10), .val (.int v11), .val (.int r13), .val (.int v16), .val (.int v19), .val (.int r22), .val (.int v26), .unset] [(.int (1 : Int32))])) _
          rw [show v31 = (1 : Int32) from by rw [hv31, if_neg hc28, if_pos hc30]] at k
          exact k
        · skip
          refine XS.ifYes X22.here hx rfl (pc0 := 118) (pc' := 125) rfl (hb hby at_118) rfl ((if0 _ _).trans (flt hc30).2.2.2) (by decide) (by decide) ?_
          show Steps p.tables e below (T22.setTop (mkF m 125 #[.val (.int x0), .val (.int x1), .val (.int v1), .val (.int v10), .val (.int v11), .val (.int r13), .val (.int v16), .val (.int v19), .val (.int r22), .val (.int v26), .unset] [])) _
          refine XS.iconst X22.here hx rfl (hb hby at_125) ?_
          show Steps p.tables e below (T22.setTop (mkF m 126 #[.val (.int x0), .val (.int x1), .val (.int v1), .val (.int v10), .val (.int v11), .val (.int r13), .val (.int v16), .val (.int v19), .val (.int r22), .val (.int v26), .unset] [(.int (0 : Int32))])) _
          refine XS.goto X22.here hx rfl (pc0 := 126) (pc' := 139) rfl (hb hby at_126) (by decide) (by decide) ?_
          show Steps p.tables e below (T22.setTop (mkF m 139 #[.val (.int x0), .val (.int x1), .val (.int v1), .val (.int v10), .val (.int v11), .val (.int r13), .val (.int v16), .val (.int v19), .val (.int r22), .val (.int v26), .unset] [(.int (0 : Int32))])) _
          rw [show v31 = (0 : Int32) from by rw [hv31, if_neg hc28, if_neg hc30]] at k
          exact k)
    obtain ⟨v36, hv36⟩ : ∃ z : Int32, z = (if r13 = v19 then (if v26 = (0 : Int32) then (0 : Int32) else (if v31 = (0 : Int32) then (0 : Int32) else (1 : Int32))) else (0 : Int32)) := ⟨_, rfl⟩
    have pre37 : ∀ t, Steps p.tables e below (T22.setTop (mkF m 163 #[.val (.int x0), .val (.int x1), .val (.int v1), .val (.int v10), .val (.int v11), .val (.int r13), .val (.int v16), .val (.int v19), .val (.int r22), .val (.int v26), .val (.int v31)] [(.int v36)])) t → Steps p.tables e below (s₁.setTop (entryFrame m #[(.int x0), (.int x1)] maxLocals)) t := fun t k => pre32 t (by
      show Steps p.tables e below (T22.setTop (mkF m 139 #[.val (.int x0), .val (.int x1), .val (.int v1), .val (.int v10), .val (.int v11), .val (.int r13), .val (.int v16), .val (.int v19), .val (.int r22), .val (.int v26), .unset] [(.int v31)])) _
      refine XS.istore X22.here hx rfl (hb hby at_139) rfl (l' := #[.val (.int x0), .val (.int x1), .val (.int v1), .val (.int v10), .val (.int v11), .val (.int r13), .val (.int v16), .val (.int v19), .val (.int r22), .val (.int v26), .val (.int v31)]) rfl ?_
      show Steps p.tables e below (T22.setTop (mkF m 141 #[.val (.int x0), .val (.int x1), .val (.int v1), .val (.int v10), .val (.int v11), .val (.int r13), .val (.int v16), .val (.int v19), .val (.int r22), .val (.int v26), .val (.int v31)] [])) _
      refine XS.iload X22.here hx rfl (hb hby at_141) rfl ?_
      show Steps p.tables e below (T22.setTop (mkF m 143 #[.val (.int x0), .val (.int x1), .val (.int v1), .val (.int v10), .val (.int v11), .val (.int r13), .val (.int v16), .val (.int v19), .val (.int r22), .val (.int v26), .val (.int v31)] [(.int r13)])) _
      refine XS.iload X22.here hx rfl (hb hby at_143) rfl ?_
      show Steps p.tables e below (T22.setTop (mkF m 145 #[.val (.int x0), .val (.int x1), .val (.int v1), .val (.int v10), .val (.int v11), .val (.int r13), .val (.int v16), .val (.int v19), .val (.int r22), .val (.int v26), .val (.int v31)] [(.int v19), (.int r13)])) _
      by_cases hc33 : r13 = v19
      · skip
        refine XS.icmpNo X22.here hx rfl (hb hby at_145) rfl (teq hc33).2 ?_
        show Steps p.tables e below (T22.setTop (mkF m 148 #[.val (.int x0), .val (.int x1), .val (.int v1), .val (.int v10), .val (.int v11), .val (.int r13), .val (.int v16), .val (.int v19), .val (.int r22), .val (.int v26), .val (.int v31)] [])) _
        refine XS.iload X22.here hx rfl (hb hby at_148) rfl ?_
        show Steps p.tables e below (T22.setTop (mkF m 150 #[.val (.int x0), .val (.int x1), .val (.int v1), .val (.int v10), .val (.int v11), .val (.int r13), .val (.int v16), .val (.int v19), .val (.int r22), .val (.int v26), .val (.int v31)] [(.int v26)])) _
        by_cases hc34 : v26 = (0 : Int32)
        · skip
          refine XS.ifYes X22.here hx rfl (pc0 := 150) (pc' := 162) rfl (hb hby at_150) rfl ((if0 _ _).trans (teq hc34).1) (by decide) (by decide) ?_
          show Steps p.tables e below (T22.setTop (mkF m 162 #[.val (.int x0), .val (.int x1), .val (.int v1), .val (.int v10), .val (.int v11), .val (.int r13), .val (.int v16), .val (.int v19), .val (.int r22), .val (.int v26), .val (.int v31)] [])) _
          refine XS.iconst X22.here hx rfl (hb hby at_162) ?_
          show Steps p.tables e below (T22.setTop (mkF m 163 #[.val (.int x0), .val (.int x1), .val (.int v1), .val (.int v10), .val (.int v11), .val (.int r13), .val (.int v16), .val (.int v19), .val (.int r22), .val (.int v26), .val (.int v31)] [(.int (0 : Int32))])) _
          rw [show v36 = (0 : Int32) from by rw [hv36, if_pos hc33, if_pos hc34]] at k
          exact k
        · skip
          refine XS.ifNo X22.here hx rfl (hb hby at_150) rfl ((if0 _ _).trans (feq hc34).1) ?_
          show Steps p.tables e below (T22.setTop (mkF m 153 #[.val (.int x0), .val (.int x1), .val (.int v1), .val (.int v10), .val (.int v11), .val (.int r13), .val (.int v16), .val (.int v19), .val (.int r22), .val (.int v26), .val (.int v31)] [])) _
          refine XS.iload X22.here hx rfl (hb hby at_153) rfl ?_
          show Steps p.tables e below (T22.setTop (mkF m 155 #[.val (.int x0), .val (.int x1), .val (.int v1), .val (.int v10), .val (.int v11), .val (.int r13), .val (.int v16), .val (.int v19), .val (.int r22), .val (.int v26), .val (.int v31)] [(.int v31)])) _
          by_cases hc35 : v31 = (0 : Int32)
          · skip
            refine XS.ifYes X22.here hx rfl (pc0 := 155) (pc' := 162) rfl (hb hby at_155) rfl ((if0 _ _).trans (teq hc35).1) (by decide) (by decide) ?_
            show Steps p.tables e below (T22.setTop (mkF m 162 #[.val (.int x0), .val (.int x1), .val (.int v1), .val (.int v10), .val (.int v11), .val (.int r13), .val (.int v16), .val (.int v19), .val (.int r22), .val (.int v26), .val (.int v31)] [])) _
            refine XS.iconst X22.here hx rfl (hb hby at_162) ?_
            show Steps p.tables e below (T22.setTop (mkF m 163 #[.val (.int x0), .val (.int x1), .val (.int v1), .val (.int v10), .val (.int v11), .val (.int r13), .val (.int v16), .val (.int v19), .val (.int r22), .val (.int v26), .val (.int v31)] [(.int (0 : Int32))])) _
            rw [show v36 = (0 : Int32) from by rw [hv36, if_pos hc33, if_neg hc34, if_pos hc35]] at k
            exact k
          · skip
            refine XS.ifNo X22.here hx rfl (hb hby at_155) rfl ((if0 _ _).trans (feq hc35).1) ?_
            show Steps p.tables e below (T22.setTop (mkF m 158 #[.val (.int x0), .val (.int x1), .val (.int v1), .val (.int v10), .val (.int v11), .val (.int r13), .val (.int v16), .val (.int v19), .val (.int r22), .val (.int v26), .val (.int v31)] [])) _
            refine XS.iconst X22.here hx rfl (hb hby at_158) ?_
            show Steps p.tables e below (T22.setTop (mkF m 159 #[.val (.int x0), .val (.int x1), .val (.int v1), .val (.int v10), .val (.int v11), .val (.int r13), .val (.int v16), .val (.int v19), .val (.int r22), .val (.int v26), .val (.int v31)] [(.int (1 : Int32))])) _
            refine XS.goto X22.here hx rfl (pc0 := 159) (pc' := 163) rfl (hb hby at_159) (by decide) (by decide) ?_
            show Steps p.tables e below (T22.setTop (mkF m 163 #[.val (.int x0), .val (.int x1), .val (.int v1), .val (.int v10), .val (.int v11), .val (.int r13), .val (.int v16), .val (.int v19), .val (.int r22), .val (.int v26), .val (.int v31)] [(.int (1 : Int32))])) _
            rw [show v36 = (1 : Int32) from by rw [hv36, if_pos hc33, if_neg hc34, if_neg hc35]] at k
            exact k
      · skip
        refine XS.icmpYes X22.here hx rfl (pc0 := 145) (pc' := 162) rfl (hb hby at_145) rfl (feq hc33).2 (by decide) (by decide) ?_
        show Steps p.tables e below (T22.setTop (mkF m 162 #[.val (.int x0), .val (.int x1), .val (.int v1), .val (.int v10), .val (.int v11), .val (.int r13), .val (.int v16), .val (.int v19), .val (.int r22), .val (.int v26), .val (.int v31)] [])) _
        refine XS.iconst X22.here hx rfl (hb hby at_162) ?_
        show Steps p.tables e below (T22.setTop (mkF m 163 #[.val (.int x0), .val (.int x1), .val (.int v1), .val (.int v10), .val (.int v11), .val (.int r13), .val (.int v16), .val (.int v19), .val (.int r22), .val (.int v26), .val (.int v31)] [(.int (0 : Int32))])) _
        rw [show v36 = (0 : Int32) from by rw [hv36, if_neg hc33]] at k
        exact k)
    obtain rfl : v36 = (1 : Int32) := by exact own_fin2 x0 x1 v1 v10 v11 r13 v16 v19 r22 v26 v31 v36 hv1 hc3 hv10 hv11 P13 hv16 hv19 P22 hv26 hv31 hv36
    obtain ⟨fs, hr, hrun, hended, hW, hsame⟩ := X22.leave (v := some (.int (1 : Int32))) (fun h => by rw [Bd.returns] at h; cases h)
    refine ⟨_, _, pre37 _ ?_, hrun, hended, _, _, rfl, ?_, ⟨_, rfl⟩, hW, hsame.mono (by decide) (by decide)⟩
    · show Steps p.tables e below (T22.setTop (mkF m 163 #[.val (.int x0), .val (.int x1), .val (.int v1), .val (.int v10), .val (.int v11), .val (.int r13), .val (.int v16), .val (.int v19), .val (.int r22), .val (.int v26), .val (.int v31)] [(.int (1 : Int32))])) _
      exact retN X22 hx (t := .boolean) Bd.returns (by simp) (hb hby at_163) hr
    · show Q0 Z x0 x1 h0 n0 _ T22.heap _
      rw [e22]
      exact ⟨rfl, N22⟩
set_option maxRecDepth 65536 in
set_option maxHeartbeats 40000000 in
theorem comes_1 {Post : Tables → Env → Array Value → State → Outcome → State → Prop} (hpost : ∀ tb e args s v u, (limb_1_1.after args s (.returned v) u = true ∧ limb_1_2.after args s (.returned v) u = true ∧ True) → FrameEnd s (.returned v) u (Jvm.fieldLocs frame_1_writes args s ++ Jvm.arrayLocs frame_1_arrays args s ++ Jvm.staticLocs frame_1_statics s) 0 0 → Post tb e args s (.returned v) u) :
    ArmFor flags0 classFile x code maxLocals ret World_1 tables_1 room_1 Calls_1 rest_1 Pre_1 Post := by
  intro l hfl _ _ p e ha hc hk s m args below hf hA hF happ hP
  obtain ⟨hcalls, hrest, hpre⟩ := hP
  obtain ⟨-, -, -, hnamed, -, -, -, hat⟩ := (Spec.applies_iff hf).mp happ
  obtain ⟨hg, hn⟩ := and_e (Cond.before_iff.mp (show (Jvm.Cond.and given_1 narrow_1).before args s = true from hpre))
  obtain ⟨hcount, hg0⟩ := and_e hg
  obtain ⟨ha0, hg1⟩ := and_e hg0
  have ha1 := hg1
  obtain ⟨w0, w1, rfl⟩ : ∃ w0 w1 : Value, args = #[w0, w1] := by
    have hs : args.size = 2 := by simpa [Cond.value, given_1] using hcount
    obtain ⟨L⟩ := args
    match L, hs with
    | [w0, w1], _ => exact ⟨w0, w1, rfl⟩
  have hw := fun d (hd : d ∈ tables_1) => atoms_spec (ws := Jvm.Cond.code x code maxLocals ret :: tables_1) hat d (List.mem_cons_of_mem _ hd)
  obtain ⟨i0, ei0⟩ := is_v ha0
  obtain rfl : w0 = (.int i0) := Option.some.inj ei0
  obtain ⟨i1, ei1⟩ := is_v ha1
  obtain rfl : w1 = (.int i1) := Option.some.inj ei1
  obtain ⟨n, o, h1, h2, h3, _, L, rfl, ⟨rfl, N⟩, hq⟩ := rm0 l s _ hw tables_1 i0 i1  s.heap s.heap.size (Nat.le_refl _) p e ha hc hk s m _ below hf ((Spec.applies_iff_loose hf).mp happ).1 ⟨rfl, State.Warmed39.refl s, rfl⟩ trivial
  refine ⟨n, _, h1, h2, h3, hpost _ _ _ _ _ _ ⟨Cond.after_iff.mpr rfl, Cond.after_iff.mpr (eq_i res_at (Term.int_eval (1)) rfl), trivial⟩ ⟨hq.1, hq.2.1, (hq.2.2.sift fun y hy => Or.inr (N y hy)).mono (by decide) (by decide)⟩⟩
theorem main_1_1 : Claimed_1_1 := comes_1 fun _ _ _ _ _ _ h hF => ⟨h.1, hF⟩
theorem main_1_2 : Claimed_1_2 := comes_1 fun _ _ _ _ _ _ h hF => ⟨h.2.1, hF⟩
end Jvm.Pilot.@@N@@
namespace Jvm.Pilot.@@N@@
open Jvm Jvm.ClassFile Sem Op Lib Jvm.Free Jvm.Stand Jvm.Pilot.@@N@@.Jvm.D
/-! MADE BY PROGRAM (witnessworld.py) out of the Statement's table words and the real class files: 10 classes; the members and pool entries that the words name. The judged class is class 1, her method 1. -/
namespace start1
open Jvm.ClassFile
def u (s : String) : CpInfo := .utf8 (stringToUtf16 s)
/-- a pool by its gaps: so many unusable entries, then the entry; so many at the end -/
def gap : Nat → List CpInfo → List CpInfo
  | 0, r => r
  | n + 1, r => .unusable :: gap n r
def poolList (es : List (Nat × CpInfo)) (last : Nat) : List CpInfo := es.foldr (fun e r => gap e.1 (e.2 :: r)) (gap last [])
def pool (es : List (Nat × CpInfo)) (last : Nat) : Array CpInfo := ⟨poolList es last⟩
def fileOf (pool : Array CpInfo) (this : Nat) (attrs : Array Attribute := #[]) (ms : Array MethodInfo := #[]) (fl : Nat := 33) (sup : Nat := 0) (ifs : Array Nat := #[]) (fds : Array FieldInfo := #[]) : ClassFile where
  minorVersion := 0
  majorVersion := 65
  constantPool := pool
  accessFlags := fl
  thisClass := this
  superClass := sup
  interfaces := ifs
  fields := fds
  methods := ms
  attributes := attrs
def plain (name : String) (sup : Option ClassId) : Class where
  name := name
  kind := .ordinary
  loader := none
  accessFlags := 33
  super := sup
  interfaces := #[]
  cf := none
  fields := #[]
  methods := #[]
  instanceTypes := #[]
  staticTypes := #[]
  resolved := #[]
  callSites := []
  init := .initialized
  statics := none
  mirror := none

def pool0 : Array CpInfo := pool [(5, u "<init>"), (0, u "()V"), (1, .class_ 10), (1, u "java/lang/Object")] 113

def k0m0 : Method := { name := "<init>", desc := "()V", sig := { parameters := [], returnType := none }, accessFlags := 1, code := none }
/-- java/lang/Object -/
def k0 : Class := { plain "java/lang/Object" none with
  accessFlags := 33
  interfaces := #[]
  cf := some (fileOf pool0 8 #[] #[{ accessFlags := 1, nameIndex := 5, descriptorIndex := 6, attributes := #[] }] 33 0 #[] #[])
  fields := #[]
  methods := #[k0m0]
  instanceTypes := #[]
  staticTypes := #[]
  resolved := Array.replicate 124 none
  statics := none }

def pool1 : Array CpInfo := pool [(2, .class_ 4), (1, u "java/lang/Object"), (0, u "<init>"), (0, u "()V"), (0, .integer 2147483647), (0, .methodref 9 10), (0, .class_ 11), (0, .nameAndType 12 13), (0, u "com/example/lynceus/lynceus/media/HuffmanTable"), (0, u "extend"), (0, u "(II)I"), (0, .methodref 15 16), (0, .class_ 17), (0, .nameAndType 18 19), (0, u "java/lang/Math"), (0, u "abs"), (0, u "(I)I"), (0, .class_ 21), (0, u "com/example/lynceus/lynceus/media/HuffmanTableExtendPinLaw"), (2, u "law"), (0, u "(II)Z")] 3

def k1m0 : Method := { name := "<init>", desc := "()V", sig := { parameters := [], returnType := none }, accessFlags := 1, code := none }
def k1c1 : Code := { maxStack := 4, maxLocals := 11, code := code, exceptionTable := #[], attributes := #[] }
def k1m1 : Method := { name := "law", desc := "(II)Z", sig := { parameters := [.int, .int], returnType := some .boolean }, accessFlags := 9, code := some k1c1 }
/-- com/example/lynceus/lynceus/media/HuffmanTableExtendPinLaw -/
def k1 : Class := { plain "com/example/lynceus/lynceus/media/HuffmanTableExtendPinLaw" (some 0) with
  accessFlags := 49
  interfaces := #[]
  cf := some (fileOf pool1 20 #[] #[{ accessFlags := 1, nameIndex := 5, descriptorIndex := 6, attributes := #[] }, { accessFlags := 9, nameIndex := 24, descriptorIndex := 25, attributes := #[] }] 49 2 #[] #[])
  fields := #[]
  methods := #[k1m0, k1m1]
  instanceTypes := #[]
  staticTypes := #[]
  resolved := Array.replicate 29 none
  statics := none }

def pool2 : Array CpInfo := pool [(2, .class_ 4), (1, u "java/lang/Object"), (2, .class_ 8), (0, u "com/example/lynceus/lynceus/media/HuffmanTable"), (2, u "fast"), (0, u "[S"), (2, u "fastCoefficients"), (0, u "[I"), (2, u "lastCode"), (2, u "firstIndex"), (2, u "values"), (0, u "[B"), (27, u "extend"), (0, u "(II)I"), (0, u "FAST_BITS"), (0, u "I"), (2, u "MAX_LENGTH"), (1, u "LENGTH"), (1, u "FOUND"), (1, u "RUN_SHIFT"), (1, u "COEFFICIENT_SHIFT")] 30

def k2c0 : Code := { maxStack := 4, maxLocals := 2, code := prog_22_method_7_code, exceptionTable := #[], attributes := #[] }
def k2m0 : Method := { name := "extend", desc := "(II)I", sig := { parameters := [.int, .int], returnType := some .int }, accessFlags := 8, code := some k2c0 }
/-- com/example/lynceus/lynceus/media/HuffmanTable -/
def k2 : Class := { plain "com/example/lynceus/lynceus/media/HuffmanTable" (some 0) with
  accessFlags := 32
  interfaces := #[]
  cf := some (fileOf pool2 7 #[] #[{ accessFlags := 8, nameIndex := 54, descriptorIndex := 55, attributes := #[] }] 32 2 #[] #[{ accessFlags := 26, nameIndex := 56, descriptorIndex := 57, attributes := #[] }, { accessFlags := 26, nameIndex := 60, descriptorIndex := 57, attributes := #[] }, { accessFlags := 26, nameIndex := 62, descriptorIndex := 57, attributes := #[] }, { accessFlags := 26, nameIndex := 64, descriptorIndex := 57, attributes := #[] }, { accessFlags := 26, nameIndex := 66, descriptorIndex := 57, attributes := #[] }, { accessFlags := 26, nameIndex := 68, descriptorIndex := 57, attributes := #[] }, { accessFlags := 18, nameIndex := 25, descriptorIndex := 26, attributes := #[] }, { accessFlags := 18, nameIndex := 11, descriptorIndex := 12, attributes := #[] }, { accessFlags := 18, nameIndex := 15, descriptorIndex := 16, attributes := #[] }, { accessFlags := 18, nameIndex := 19, descriptorIndex := 16, attributes := #[] }, { accessFlags := 18, nameIndex := 22, descriptorIndex := 16, attributes := #[] }])
  fields := #[{ name := "FAST_BITS", type := .int, accessFlags := 26, slot := 0, constantValue := 0 }, { name := "MAX_LENGTH", type := .int, accessFlags := 26, slot := 1, constantValue := 0 }, { name := "LENGTH", type := .int, accessFlags := 26, slot := 2, constantValue := 0 }, { name := "FOUND", type := .int, accessFlags := 26, slot := 3, constantValue := 0 }, { name := "RUN_SHIFT", type := .int, accessFlags := 26, slot := 4, constantValue := 0 }, { name := "COEFFICIENT_SHIFT", type := .int, accessFlags := 26, slot := 5, constantValue := 0 }, { name := "values", type := (.array .byte), accessFlags := 18, slot := 0, constantValue := 0 }, { name := "fast", type := (.array .short), accessFlags := 18, slot := 1, constantValue := 0 }, { name := "fastCoefficients", type := (.array .int), accessFlags := 18, slot := 2, constantValue := 0 }, { name := "lastCode", type := (.array .int), accessFlags := 18, slot := 3, constantValue := 0 }, { name := "firstIndex", type := (.array .int), accessFlags := 18, slot := 4, constantValue := 0 }]
  methods := #[k2m0]
  instanceTypes := #[(.array .byte), (.array .short), (.array .int), (.array .int), (.array .int)]
  staticTypes := #[.int, .int, .int, .int, .int, .int]
  resolved := Array.replicate 99 none
  statics := none }

def pool3 : Array CpInfo := pool [(1, .class_ 2), (0, u "java/lang/Math"), (1, .class_ 6), (1, u "java/lang/Object"), (0, u "<init>"), (0, u "()V"), (89, .class_ 100), (1, u "java/lang/Math$RandomNumberGeneratorHolder"), (23, u "abs"), (34, u "(I)I"), (12, u "negativeZeroFloatBits"), (0, u "J"), (2, u "negativeZeroDoubleBits"), (68, u "$assertionsDisabled"), (0, u "Z"), (91, u "twoToTheDoubleScaleDown"), (0, u "D"), (4, u "twoToTheDoubleScaleUp"), (9, u "E"), (3, u "PI"), (2, u "TAU"), (2, u "DEGREES_TO_RADIANS"), (0, u "RADIANS_TO_DEGREES")] 94

def k3m0 : Method := { name := "<init>", desc := "()V", sig := { parameters := [], returnType := none }, accessFlags := 2, code := none }
def k3c1 : Code := { maxStack := 1, maxLocals := 1, code := jdk_29_method_59_code, exceptionTable := #[], attributes := #[] }
def k3m1 : Method := { name := "abs", desc := "(I)I", sig := { parameters := [.int], returnType := some .int }, accessFlags := 9, code := some k3c1 }
/-- java/lang/Math -/
def k3 : Class := { plain "java/lang/Math" (some 0) with
  accessFlags := 49
  interfaces := #[]
  cf := some (fileOf pool3 1 #[.nestMembers #[98]] #[{ accessFlags := 2, nameIndex := 7, descriptorIndex := 8, attributes := #[] }, { accessFlags := 9, nameIndex := 124, descriptorIndex := 159, attributes := #[] }] 49 4 #[] #[{ accessFlags := 25, nameIndex := 354, descriptorIndex := 339, attributes := #[] }, { accessFlags := 25, nameIndex := 358, descriptorIndex := 339, attributes := #[] }, { accessFlags := 25, nameIndex := 361, descriptorIndex := 339, attributes := #[] }, { accessFlags := 26, nameIndex := 364, descriptorIndex := 339, attributes := #[] }, { accessFlags := 26, nameIndex := 365, descriptorIndex := 339, attributes := #[] }, { accessFlags := 26, nameIndex := 172, descriptorIndex := 173, attributes := #[] }, { accessFlags := 26, nameIndex := 176, descriptorIndex := 173, attributes := #[] }, { accessFlags := 8, nameIndex := 344, descriptorIndex := 339, attributes := #[] }, { accessFlags := 8, nameIndex := 338, descriptorIndex := 339, attributes := #[] }, { accessFlags := 4120, nameIndex := 245, descriptorIndex := 246, attributes := #[] }])
  fields := #[{ name := "E", type := .double, accessFlags := 25, slot := 0, constantValue := 0 }, { name := "PI", type := .double, accessFlags := 25, slot := 1, constantValue := 0 }, { name := "TAU", type := .double, accessFlags := 25, slot := 2, constantValue := 0 }, { name := "DEGREES_TO_RADIANS", type := .double, accessFlags := 26, slot := 3, constantValue := 0 }, { name := "RADIANS_TO_DEGREES", type := .double, accessFlags := 26, slot := 4, constantValue := 0 }, { name := "negativeZeroFloatBits", type := .long, accessFlags := 26, slot := 5, constantValue := 0 }, { name := "negativeZeroDoubleBits", type := .long, accessFlags := 26, slot := 6, constantValue := 0 }, { name := "twoToTheDoubleScaleUp", type := .double, accessFlags := 8, slot := 7, constantValue := 0 }, { name := "twoToTheDoubleScaleDown", type := .double, accessFlags := 8, slot := 8, constantValue := 0 }, { name := "$assertionsDisabled", type := .boolean, accessFlags := 4120, slot := 9, constantValue := 0 }]
  methods := #[k3m0, k3m1]
  instanceTypes := #[]
  staticTypes := #[.double, .double, .double, .double, .double, .long, .long, .double, .double, .boolean]
  resolved := Array.replicate 460 none
  statics := none }

def pool4 : Array CpInfo := pool [(1, u "java/lang/Cloneable"), (0, .class_ 1), (0, u "java/lang/Object"), (0, .class_ 3)] 3

/-- java/lang/Cloneable -/
def k4 : Class := { plain "java/lang/Cloneable" (some 0) with
  accessFlags := 1537
  interfaces := #[]
  cf := some (fileOf pool4 2 #[] #[] 1537 4 #[] #[])
  fields := #[]
  methods := #[]
  instanceTypes := #[]
  staticTypes := #[]
  resolved := Array.replicate 8 none
  statics := none }

def pool5 : Array CpInfo := pool [(1, u "java/io/Serializable"), (0, .class_ 1), (0, u "java/lang/Object"), (0, .class_ 3)] 3

/-- java/io/Serializable -/
def k5 : Class := { plain "java/io/Serializable" (some 0) with
  accessFlags := 1537
  interfaces := #[]
  cf := some (fileOf pool5 2 #[] #[] 1537 4 #[] #[])
  fields := #[]
  methods := #[]
  instanceTypes := #[]
  staticTypes := #[]
  resolved := Array.replicate 8 none
  statics := none }

/-- the primitive byte -/
def k6 : Class := { plain "byte" none with kind := .primitive 'B', accessFlags := 0x411 }
/-- [B -/
def k7 : Class := { plain "[B" (some 0) with kind := .array 6 .byte, interfaces := #[4, 5], accessFlags := 1041 }

/-- the primitive int -/
def k8 : Class := { plain "int" none with kind := .primitive 'I', accessFlags := 0x411 }
/-- [I -/
def k9 : Class := { plain "[I" (some 0) with kind := .array 8 .int, interfaces := #[4, 5], accessFlags := 1041 }

def heap : Heap := #[]
def classes : Array Class := #[k0, k1, k2, k3, k4, k5, k6, k7, k8, k9]
def interned : List (Array UInt16 × Addr) := []
def slotsUsed : Nat := 0
def theMethod : MethodId := ⟨1, 1⟩
def args0 : Array Value := #[.int 70, .int 5]
def aboutOver (below : List Frame) : State where
  vm := { classes := classes, interned := interned.toArray }
  heap := heap
  slotsUsed := slotsUsed
  threads := #[{ frames := .invoking theMethod args0 :: below }]
def below0 : List Frame := [.native { method := ⟨0, 0⟩, args := #[] }]
def about1 : State := aboutOver below0
def p0 : Program := .bare "" "" ""
def e0 : Env := launch0.env 0 0 0
theorem w_frames : about1.frames = Frame.invoking theMethod args0 :: below0 := rfl
set_option maxRecDepth 65536 in
theorem w_args : argsFit about1.vm theMethod args0 = true := by decide +kernel
set_option maxRecDepth 65536 in
theorem w_heap : heapFits about1 = true := by decide +kernel
set_option maxRecDepth 65536 in
theorem w_runnable : about1.curStatus? = some .runnable := by decide +kernel
set_option maxRecDepth 65536 in
theorem w_alone : about1.alone = true := by decide +kernel
set_option maxRecDepth 65536 in
theorem w_named : about1.methodNamed? x = some theMethod := by decide +kernel
set_option maxRecDepth 65536 in
theorem w_hears : about1.hears theMethod below0 = true := by decide +kernel
set_option maxRecDepth 65536 in
theorem w_ripe : about1.ripe theMethod args0 below0 = true := by decide +kernel
theorem w_running : about1.status = .running := rfl
set_option maxRecDepth 65536 in
theorem w_room : about1.hasRoom e0.platform room_1 = true :=
  launch0.hasRoom_least _ room_1 (by decide +kernel) (by decide +kernel) (by decide +kernel) (by decide +kernel) (by decide +kernel) (by decide +kernel)
theorem allAtoms_all (ts : List Jvm.Cond) (a : Array Jvm.Value) (st : Jvm.State) : (allAtoms ts).before a st = ts.all (fun c => c.before a st) := by
  induction ts with
  | nil => rfl
  | cons c t ih =>
    show (Jvm.Cond.and c (allAtoms t)).before a st = _
    rw [Jvm.Cond.before_and, ih, List.all_cons]
def words1 : List Jvm.Cond := Jvm.Cond.code x code maxLocals ret :: tables_1
/-- a 'code' word, met by the world's own term for the bytes: nothing is compared byte by byte -/
theorem code_word {y : MethodName} {bytes : ByteArray} {mx : Nat} {rt : Option FieldType} {a : Array Value} {s : State} {m : MethodId} {meth : Method} {c : Code} (h1 : s.methodNamed? y = some m) (h2 : s.vm.method? m = some meth) (h3 : meth.code = some c) (h4 : c.code = bytes)
    (h5 : (c.maxLocals == mx && c.exceptionTable.isEmpty && decide (c.maxStack ≤ mostOperands) && decide (meth.sig.returnType = rt) && !meth.locks && decide (parseMethodDescriptor y.desc = some meth.sig)) = true) : (Jvm.Cond.code y bytes mx rt).before a s = true := by
  simp only [Bool.and_eq_true, beq_iff_eq, Bool.not_eq_true', decide_eq_true_eq] at h5
  obtain ⟨⟨⟨⟨⟨g1, g2⟩, g3⟩, g4⟩, g5⟩, g6⟩ := h5
  simp [Cond.before, Cond.holds, Cond.value, h1, h2, h3, h4, g1, g2, g3, g4, g5, g6]
def isCode : Jvm.Cond → Bool
  | .code _ _ _ _ => true
  | _ => false
theorem all_split {L : List Jvm.Cond} {P : Jvm.Cond → Bool} (h1 : L.all (fun c => isCode c || P c) = true) (h2 : ∀ c ∈ L.filter isCode, P c = true) : L.all P = true := by
  refine List.all_eq_true.mpr fun c hc => ?_
  have h := List.all_eq_true.mp h1 c hc
  rcases Bool.eq_false_or_eq_true (isCode c) with hi | hi
  · exact h2 c (List.mem_filter.mpr ⟨hc, hi⟩)
  · simpa [hi] using h
set_option maxRecDepth 65536 in
theorem w_c0 : (Jvm.Cond.code x code maxLocals ret).before args0 about1 = true := code_word (m := ⟨1, 1⟩) (meth := k1m1) (c := k1c1) (by decide +kernel) rfl rfl rfl (by decide +kernel)
set_option maxRecDepth 65536 in
theorem w_c1 : (Jvm.Cond.code ({ cls := "com/example/lynceus/lynceus/media/HuffmanTable", name := "extend", desc := "(II)I" } : Jvm.MethodName) prog_22_method_7_code (2 : Nat) (Option.some Jvm.ClassFile.FieldType.int)).before args0 about1 = true := code_word (m := ⟨2, 0⟩) (meth := k2m0) (c := k2c0) (by decide +kernel) rfl rfl rfl (by decide +kernel)
set_option maxRecDepth 65536 in
theorem w_c2 : (Jvm.Cond.code ({ cls := "java/lang/Math", name := "abs", desc := "(I)I" } : Jvm.MethodName) jdk_29_method_59_code (1 : Nat) (Option.some Jvm.ClassFile.FieldType.int)).before args0 about1 = true := code_word (m := ⟨3, 1⟩) (meth := k3m1) (c := k3c1) (by decide +kernel) rfl rfl rfl (by decide +kernel)
def codes1 : List Jvm.Cond := [Jvm.Cond.code x code maxLocals ret, Jvm.Cond.code ({ cls := "com/example/lynceus/lynceus/media/HuffmanTable", name := "extend", desc := "(II)I" } : Jvm.MethodName) prog_22_method_7_code (2 : Nat) (Option.some Jvm.ClassFile.FieldType.int), Jvm.Cond.code ({ cls := "java/lang/Math", name := "abs", desc := "(I)I" } : Jvm.MethodName) jdk_29_method_59_code (1 : Nat) (Option.some Jvm.ClassFile.FieldType.int)]
set_option maxRecDepth 65536 in
theorem codes_eq : words1.filter isCode = codes1 := rfl
theorem w_codes : ∀ c ∈ words1.filter isCode, c.before args0 about1 = true := by
  rw [codes_eq]
  intro c hc
  simp only [codes1, List.mem_cons, List.not_mem_nil, or_false] at hc
  rcases hc with rfl | rfl | rfl
  · exact w_c0
  · exact w_c1
  · exact w_c2
set_option maxRecDepth 65536 in
theorem w_t1 : words1.all (fun c => isCode c || c.before args0 about1) = true := by decide +kernel
theorem w_tables : (allAtoms (Jvm.Cond.code x code maxLocals ret :: tables_1)).before args0 about1 = true := by
  rw [allAtoms_all]
  show words1.all (fun c => c.before args0 about1) = true
  refine all_split ?_ w_codes
  rw [w_t1]
set_option maxRecDepth 65536 in
theorem w_case : (Jvm.Cond.and given_1 narrow_1).before args0 about1 = true := by decide +kernel
theorem w_applies : (headSpec (Jvm.Cond.code x code maxLocals ret :: tables_1) room_1).applies x e0.platform about1 = true :=
  (Spec.applies_iff w_frames).mpr ⟨w_running, w_runnable, w_alone, w_named, w_hears, w_ripe, w_room, w_tables⟩
theorem atStart : AtStart classFile x code maxLocals ret World_1 tables_1 room_1 Calls_1 rest_1 Pre_1 launch0 p0 e0 about1 theMethod args0 below0 :=
  ⟨lists_1, trivial, launch0.admits_env _ _ _, launch0.least_env, fairChoices_fair.cas, fairChoices_fair.clock, w_frames, w_args, w_heap, w_applies, trivial, trivial, w_case⟩
end start1
theorem witness_1 : WitnessClaimed_1 := ⟨start1.p0, start1.e0, start1.about1, start1.theMethod, start1.args0, start1.below0, start1.atStart⟩
end Jvm.Pilot.@@N@@
