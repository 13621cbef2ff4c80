import JvmDerived
import JvmDerived.Pilot.@@N@@Statement
import JvmDerived.Pilot.@@N@@Code
set_option linter.unusedVariables false
set_option linter.unusedSimpArgs false
namespace Jvm.RoadKit
open Sem ClassFile Op Lib Jvm.Stand Jvm.Free Jvm.LawKit
section New
variable {p : Program} {l : Launch} {e : Env} {R : Room} {s : State} {m : MethodId} {args : Array Value} {below : List Frame} {meth : Method} {c : Code} {T : State} {locs : List Loc} {cells slots : Nat}
theorem retI (X : Stand p l e R s m args below meth c T locs cells slots) (hx : p.tables.exec = Jvm.exec) {pc : Nat} {Ls : Array Slot} {z : Int32} {rest : List Value} (hret : meth.sig.returnType = some .int) (hd : decode c.code pc = .ok (.ireturn, 1)) {fs : List Frame}
    (hl : ∀ (f : JFrame) (acts : List Action), f.method = m → f.locked = none → f.entered = [] → (doReturn e (T.setTop f) acts (some (.int z))).1 = T.setFrames fs) : Steps p.tables e below (T.setTop (mkF m pc Ls (.int z :: rest))) (T.setFrames fs) := by
  have hm' : T.vm.method? m = some meth := X.method'
  have hn : narrow .int (.int z) = .int z := rfl
  show Steps p.tables e below (T.setTop { method := m, pc := pc, locals := Ls, stack := _ :: rest, locked := none }) _
  jvm_step X.here [X.here.top, hx, hd, hm', hret, hn]
  first | (intro acts; rw [hl _ acts rfl rfl rfl]) | rw [hl _ _ rfl rfl rfl]
  exact Steps.refl _
end New
end Jvm.RoadKit
namespace Jvm.Pilot.@@N@@
open Jvm Jvm.ClassFile Sem Op Lib Jvm.Free Jvm.Stand Jvm.LawKit Jvm.RoadKit Bundle Jvm.Pilot.@@N@@.Jvm.D
theorem own_nn {x : Int32} (h : 0 ≤ x.toInt) : x.toInt = (x.toBitVec.toNat : Int) := by
  have e : x.toInt = x.toBitVec.toInt := rfl
  rw [BitVec.toInt_eq_toNat_cond] at e
  have := x.toBitVec.isLt
  split at e <;> omega
theorem own_nn' {x : Int32} (h : x.toBitVec.toNat < 2147483648) : x.toInt = (x.toBitVec.toNat : Int) := by
  have e : x.toInt = x.toBitVec.toInt := rfl
  rw [BitVec.toInt_eq_toNat_cond] at e
  split at e <;> omega
theorem own_or32n (n : Nat) : n ||| 32 = n + 32 * (1 - (n / 32) % 2) := by
  have hq : n = 2 ^ 6 * (n / 64) + n % 64 := by omega
  have h1 : n % 64 < 2 ^ 6 := Nat.mod_lt _ (by decide)
  have key : ∀ r : Fin 64, r.1 ||| 32 = r.1 + 32 * (1 - (r.1 / 32) % 2) := by decide
  have k := key ⟨n % 64, h1⟩
  dsimp only at k
  have h2 : n % 64 ||| 32 < 2 ^ 6 := Nat.or_lt_two_pow h1 (by decide)
  have h3 : n ||| 32 = 2 ^ 6 * (n / 64) + (n % 64 ||| 32) := by
    rw [Nat.two_pow_add_eq_or_of_lt h2, ← Nat.or_assoc, ← Nat.two_pow_add_eq_or_of_lt h1, ← hq]
  rw [h3, k]; omega
theorem own_or32 (x : Int32) (h : 0 ≤ x.toInt) : (x ||| 32).toInt = x.toInt + 32 * (1 - (x.toInt / 32) % 2) := by
  have e := own_nn h
  have hl := (rng32 x).2
  have hb : (x ||| 32).toBitVec.toNat = x.toBitVec.toNat ||| 32 := by
    rw [Int32.toBitVec_or, BitVec.toNat_or]; rfl
  have h1 : x.toBitVec.toNat < 2 ^ 31 := by omega
  have h2 : (x.toBitVec.toNat ||| 32) < 2 ^ 31 := Nat.or_lt_two_pow h1 (by decide)
  rw [own_nn' (by rw [hb]; exact h2), hb, own_or32n, e]; omega
theorem own_and1 (x : Int32) : (x &&& 1).toInt = x.toInt % 2 := c_mask x 1 1 (by decide) (by decide)
theorem own_narb (x : Int32) : nar .boolean x = x &&& 1 := rfl
def F1 (x0 : Int32) : Int32 := (nar .boolean (if x0 < (97 : Int32) then (if x0 < (65 : Int32) then (if x0 < (48 : Int32) then (0 : Int32) else (if (57 : Int32) < x0 then (0 : Int32) else (1 : Int32))) else (if (90 : Int32) < x0 then (if x0 < (48 : Int32) then (0 : Int32) else (if (57 : Int32) < x0 then (0 : Int32) else (1 : Int32))) else (1 : Int32))) else (if (122 : Int32) < x0 then (if x0 < (65 : Int32) then (if x0 < (48 : Int32) then (0 : Int32) else (if (57 : Int32) < x0 then (0 : Int32) else (1 : Int32))) else (if (90 : Int32) < x0 then (if x0 < (48 : Int32) then (0 : Int32) else (if (57 : Int32) < x0 then (0 : Int32) else (1 : Int32))) else (1 : Int32))) else (1 : Int32))))
theorem pn_0 : plainName "com/example/circlet/circlet/HttpReader" = true := by first | (simp [plainName, overriddenIn]; done) | decide +kernel
theorem d1_0 : decode prog_38_method_30_code 0 = .ok (.iload_n 0, 1) := by decide +kernel
theorem d1_1 : decode prog_38_method_30_code 1 = .ok (.bipush 97, 2) := by decide +kernel
theorem d1_3 : decode prog_38_method_30_code 3 = .ok (.if_icmp .lt 9, 3) := by decide +kernel
theorem d1_6 : decode prog_38_method_30_code 6 = .ok (.iload_n 0, 1) := by decide +kernel
theorem d1_7 : decode prog_38_method_30_code 7 = .ok (.bipush 122, 2) := by decide +kernel
theorem d1_9 : decode prog_38_method_30_code 9 = .ok (.if_icmp .le 27, 3) := by decide +kernel
theorem d1_12 : decode prog_38_method_30_code 12 = .ok (.iload_n 0, 1) := by decide +kernel
theorem d1_13 : decode prog_38_method_30_code 13 = .ok (.bipush 65, 2) := by decide +kernel
theorem d1_15 : decode prog_38_method_30_code 15 = .ok (.if_icmp .lt 9, 3) := by decide +kernel
theorem d1_18 : decode prog_38_method_30_code 18 = .ok (.iload_n 0, 1) := by decide +kernel
theorem d1_19 : decode prog_38_method_30_code 19 = .ok (.bipush 90, 2) := by decide +kernel
theorem d1_21 : decode prog_38_method_30_code 21 = .ok (.if_icmp .le 15, 3) := by decide +kernel
theorem d1_24 : decode prog_38_method_30_code 24 = .ok (.iload_n 0, 1) := by decide +kernel
theorem d1_25 : decode prog_38_method_30_code 25 = .ok (.bipush 48, 2) := by decide +kernel
theorem d1_27 : decode prog_38_method_30_code 27 = .ok (.if_icmp .lt 13, 3) := by decide +kernel
theorem d1_30 : decode prog_38_method_30_code 30 = .ok (.iload_n 0, 1) := by decide +kernel
theorem d1_31 : decode prog_38_method_30_code 31 = .ok (.bipush 57, 2) := by decide +kernel
theorem d1_33 : decode prog_38_method_30_code 33 = .ok (.if_icmp .gt 7, 3) := by decide +kernel
theorem d1_36 : decode prog_38_method_30_code 36 = .ok (.iconst 1, 1) := by decide +kernel
theorem d1_37 : decode prog_38_method_30_code 37 = .ok (.goto 4, 3) := by decide +kernel
theorem d1_40 : decode prog_38_method_30_code 40 = .ok (.iconst 0, 1) := by decide +kernel
theorem d1_41 : decode prog_38_method_30_code 41 = .ok (.ireturn, 1) := by decide +kernel
theorem ef_1 (m : MethodId) (x0 : Int32) : entryFrame m #[(.int x0)] 1 = mkF m 0 #[.val (.int x0)] [] := by first | (simp [entryFrame, mkF, argsToLocals, Value.category]; done) | rfl
def Q1 (Z : State) (x0 : Int32) (h0 : Heap) (n0 : Nat) (v : Option Value) (h : Heap) (L : List Loc) : Prop := ∃ z : Int32, v = some (.int z) ∧ Fr n0 L ∧ h = h0 ∧ z = F1 x0
set_option maxRecDepth 65536 in
set_option maxHeartbeats 40000000 in
theorem rm1 (l : Launch) (Z : State) (a0 : Array Value) (hw : ∀ d ∈ tables_1, d.before a0 Z = true) (ws : List Jvm.Cond) (x0 : Int32) (h0 : Heap) (n0 : Nat) (Z0 : n0 ≤ h0.size) :
    MetFree l (⟨"com/example/circlet/circlet/HttpReader", "isAsciiLetterOrDigit", "(C)Z"⟩ : MethodName) (head1 (Jvm.Cond.code (⟨"com/example/circlet/circlet/HttpReader", "isAsciiLetterOrDigit", "(C)Z"⟩ : MethodName) prog_38_method_30_code 1 (some .boolean) :: ws) ({ frames := 0, cells := 0, slots := 0, locals := 0 } : Room)) (fun aa U => aa = #[(.int x0)] ∧ Z.Warmed39 U.vm ∧ U.heap = h0) (fun _ _ _ _ _ => True) (fun _ U o U' => ∃ v L, o = .returned v ∧ Q1 Z x0 h0 n0 v U'.heap L ∧ FrameEnd U o U' L ({ frames := 0, cells := 0, slots := 0, locals := 0 } : Room).cells ({ frames := 0, cells := 0, slots := 0, locals := 0 } : Room).slots) := by
  refine MetFree.of_bodySF (plainFor_of_name pn_0) hisR ?_
  intro p e s m args below meth c s₁ Bd hml0 hP hK
  obtain ⟨rfl, hZ, hh⟩ := hP
  have hx := Bd.exec
  have hby := Bd.bytes
  have hml : c.maxLocals = 1 := hml0
  have hown : s.vm.findClass "com/example/circlet/circlet/HttpReader" = some m.cls := findClass_of_methodNamed Bd.named
  have hnm := (name_of_methodNamed Bd.named Bd.method).1
  have X0 : Stand p l e ({ frames := 0, cells := 0, slots := 0, locals := 0 } : Room) s m #[(.int x0)] below meth c s₁ [] 0 0 := Stand.of_body Bd
  have e0 : s₁.heap = h0 := by rw [← hh, Bd.state]; rfl
  have N0 := Fr.nil n0
  have pre0 : ∀ t, Steps p.tables e below (s₁.setTop (mkF m 0 #[.val (.int x0)] [])) t → Steps p.tables e below (s₁.setTop (entryFrame m #[(.int x0)] 1)) t := fun t k => castTop (ef_1 m x0) k
  obtain ⟨v15, hv15⟩ : ∃ z : Int32, z = (if x0 < (97 : Int32) then (if x0 < (65 : Int32) then (if x0 < (48 : Int32) then (0 : Int32) else (if (57 : Int32) < x0 then (0 : Int32) else (1 : Int32))) else (if (90 : Int32) < x0 then (if x0 < (48 : Int32) then (0 : Int32) else (if (57 : Int32) < x0 then (0 : Int32) else (1 : Int32))) else (1 : Int32))) else (if (122 : Int32) < x0 then (if x0 < (65 : Int32) then (if x0 < (48 : Int32) then (0 : Int32) else (if (57 : Int32) < x0 then (0 : Int32) else (1 : Int32))) else (if (90 : Int32) < x0 then (if x0 < (48 : Int32) then (0 : Int32) else (if (57 : Int32) < x0 then (0 : Int32) else (1 : Int32))) else (1 : Int32))) else (1 : Int32))) := ⟨_, rfl⟩
  have pre16 : ∀ t, Steps p.tables e below (s₁.setTop (mkF m 41 #[.val (.int x0)] [(.int v15)])) t → Steps p.tables e below (s₁.setTop (entryFrame m #[(.int x0)] 1)) t := fun t k => pre0 t (by
    show Steps p.tables e below (s₁.setTop (mkF m 0 #[.val (.int x0)] [])) _
    refine XS.iloadN X0.here hx rfl (hb hby d1_0) rfl ?_
    show Steps p.tables e below (s₁.setTop (mkF m 1 #[.val (.int x0)] [(.int x0)])) _
    refine XS.bipush X0.here hx rfl (hb hby d1_1) ?_
    show Steps p.tables e below (s₁.setTop (mkF m 3 #[.val (.int x0)] [(.int (97 : Int32)), (.int x0)])) _
    by_cases hc1 : x0 < (97 : Int32)
    · skip
      refine XS.icmpYes X0.here hx rfl (pc0 := 3) (pc' := 12) rfl (hb hby d1_3) rfl (tlt hc1).1 (by decide) (by decide) ?_
      show Steps p.tables e below (s₁.setTop (mkF m 12 #[.val (.int x0)] [])) _
      refine XS.iloadN X0.here hx rfl (hb hby d1_12) rfl ?_
      show Steps p.tables e below (s₁.setTop (mkF m 13 #[.val (.int x0)] [(.int x0)])) _
      refine XS.bipush X0.here hx rfl (hb hby d1_13) ?_
      show Steps p.tables e below (s₁.setTop (mkF m 15 #[.val (.int x0)] [(.int (65 : Int32)), (.int x0)])) _
      by_cases hc2 : x0 < (65 : Int32)
      · skip
        refine XS.icmpYes X0.here hx rfl (pc0 := 15) (pc' := 24) rfl (hb hby d1_15) rfl (tlt hc2).1 (by decide) (by decide) ?_
        show Steps p.tables e below (s₁.setTop (mkF m 24 #[.val (.int x0)] [])) _
        refine XS.iloadN X0.here hx rfl (hb hby d1_24) rfl ?_
        show Steps p.tables e below (s₁.setTop (mkF m 25 #[.val (.int x0)] [(.int x0)])) _
        refine XS.bipush X0.here hx rfl (hb hby d1_25) ?_
        show Steps p.tables e below (s₁.setTop (mkF m 27 #[.val (.int x0)] [(.int (48 : Int32)), (.int x0)])) _
        by_cases hc3 : x0 < (48 : Int32)
        · skip
          refine XS.icmpYes X0.here hx rfl (pc0 := 27) (pc' := 40) rfl (hb hby d1_27) rfl (tlt hc3).1 (by decide) (by decide) ?_
          show Steps p.tables e below (s₁.setTop (mkF m 40 #[.val (.int x0)] [])) _
          refine XS.iconst X0.here hx rfl (hb hby d1_40) ?_
          show Steps p.tables e below (s₁.setTop (mkF m 41 #[.val (.int x0)] [(.int (0 : Int32))])) _
          rw [show v15 = (0 : Int32) from by rw [hv15, if_pos hc1, if_pos hc2, if_pos hc3]] at k
          exact k
        · skip
          refine XS.icmpNo X0.here hx rfl (hb hby d1_27) rfl (flt hc3).1 ?_
          show Steps p.tables e below (s₁.setTop (mkF m 30 #[.val (.int x0)] [])) _
          refine XS.iloadN X0.here hx rfl (hb hby d1_30) rfl ?_
          show Steps p.tables e below (s₁.setTop (mkF m 31 #[.val (.int x0)] [(.int x0)])) _
          refine XS.bipush X0.here hx rfl (hb hby d1_31) ?_
          show Steps p.tables e below (s₁.setTop (mkF m 33 #[.val (.int x0)] [(.int (57 : Int32)), (.int x0)])) _
          by_cases hc4 : (57 : Int32) < x0
          · skip
            refine XS.icmpYes X0.here hx rfl (pc0 := 33) (pc' := 40) rfl (hb hby d1_33) rfl (tlt hc4).2.2.1 (by decide) (by decide) ?_
            show Steps p.tables e below (s₁.setTop (mkF m 40 #[.val (.int x0)] [])) _
            refine XS.iconst X0.here hx rfl (hb hby d1_40) ?_
            show Steps p.tables e below (s₁.setTop (mkF m 41 #[.val (.int x0)] [(.int (0 : Int32))])) _
            rw [show v15 = (0 : Int32) from by rw [hv15, if_pos hc1, if_pos hc2, if_neg hc3, if_pos hc4]] at k
            exact k
          · skip
            refine XS.icmpNo X0.here hx rfl (hb hby d1_33) rfl (flt hc4).2.2.1 ?_
            show Steps p.tables e below (s₁.setTop (mkF m 36 #[.val (.int x0)] [])) _
            refine XS.iconst X0.here hx rfl (hb hby d1_36) ?_
            show Steps p.tables e below (s₁.setTop (mkF m 37 #[.val (.int x0)] [(.int (1 : Int32))])) _
            refine XS.goto X0.here hx rfl (pc0 := 37) (pc' := 41) rfl (hb hby d1_37) (by decide) (by decide) ?_
            show Steps p.tables e below (s₁.setTop (mkF m 41 #[.val (.int x0)] [(.int (1 : Int32))])) _
            rw [show v15 = (1 : Int32) from by rw [hv15, if_pos hc1, if_pos hc2, if_neg hc3, if_neg hc4]] at k
            exact k
      · skip
        refine XS.icmpNo X0.here hx rfl (hb hby d1_15) rfl (flt hc2).1 ?_
        show Steps p.tables e below (s₁.setTop (mkF m 18 #[.val (.int x0)] [])) _
        refine XS.iloadN X0.here hx rfl (hb hby d1_18) rfl ?_
        show Steps p.tables e below (s₁.setTop (mkF m 19 #[.val (.int x0)] [(.int x0)])) _
        refine XS.bipush X0.here hx rfl (hb hby d1_19) ?_
        show Steps p.tables e below (s₁.setTop (mkF m 21 #[.val (.int x0)] [(.int (90 : Int32)), (.int x0)])) _
        by_cases hc5 : (90 : Int32) < x0
        · skip
          refine XS.icmpNo X0.here hx rfl (hb hby d1_21) rfl (tlt hc5).2.2.2 ?_
          show Steps p.tables e below (s₁.setTop (mkF m 24 #[.val (.int x0)] [])) _
          refine XS.iloadN X0.here hx rfl (hb hby d1_24) rfl ?_
          show Steps p.tables e below (s₁.setTop (mkF m 25 #[.val (.int x0)] [(.int x0)])) _
          refine XS.bipush X0.here hx rfl (hb hby d1_25) ?_
          show Steps p.tables e below (s₁.setTop (mkF m 27 #[.val (.int x0)] [(.int (48 : Int32)), (.int x0)])) _
          by_cases hc6 : x0 < (48 : Int32)
          · skip
            refine XS.icmpYes X0.here hx rfl (pc0 := 27) (pc' := 40) rfl (hb hby d1_27) rfl (tlt hc6).1 (by decide) (by decide) ?_
            show Steps p.tables e below (s₁.setTop (mkF m 40 #[.val (.int x0)] [])) _
            refine XS.iconst X0.here hx rfl (hb hby d1_40) ?_
            show Steps p.tables e below (s₁.setTop (mkF m 41 #[.val (.int x0)] [(.int (0 : Int32))])) _
            rw [show v15 = (0 : Int32) from by rw [hv15, if_pos hc1, if_neg hc2, if_pos hc5, if_pos hc6]] at k
            exact k
          · skip
            refine XS.icmpNo X0.here hx rfl (hb hby d1_27) rfl (flt hc6).1 ?_
            show Steps p.tables e below (s₁.setTop (mkF m 30 #[.val (.int x0)] [])) _
            refine XS.iloadN X0.here hx rfl (hb hby d1_30) rfl ?_
            show Steps p.tables e below (s₁.setTop (mkF m 31 #[.val (.int x0)] [(.int x0)])) _
            refine XS.bipush X0.here hx rfl (hb hby d1_31) ?_
            show Steps p.tables e below (s₁.setTop (mkF m 33 #[.val (.int x0)] [(.int (57 : Int32)), (.int x0)])) _
            by_cases hc7 : (57 : Int32) < x0
            · skip
              refine XS.icmpYes X0.here hx rfl (pc0 := 33) (pc' := 40) rfl (hb hby d1_33) rfl (tlt hc7).2.2.1 (by decide) (by decide) ?_
              show Steps p.tables e below (s₁.setTop (mkF m 40 #[.val (.int x0)] [])) _
              refine XS.iconst X0.here hx rfl (hb hby d1_40) ?_
              show Steps p.tables e below (s₁.setTop (mkF m 41 #[.val (.int x0)] [(.int (0 : Int32))])) _
              rw [show v15 = (0 : Int32) from by rw [hv15, if_pos hc1, if_neg hc2, if_pos hc5, if_neg hc6, if_pos hc7]] at k
              exact k
            · skip
              refine XS.icmpNo X0.here hx rfl (hb hby d1_33) rfl (flt hc7).2.2.1 ?_
              show Steps p.tables e below (s₁.setTop (mkF m 36 #[.val (.int x0)] [])) _
              refine XS.iconst X0.here hx rfl (hb hby d1_36) ?_
              show Steps p.tables e below (s₁.setTop (mkF m 37 #[.val (.int x0)] [(.int (1 : Int32))])) _
              refine XS.goto X0.here hx rfl (pc0 := 37) (pc' := 41) rfl (hb hby d1_37) (by decide) (by decide) ?_
              show Steps p.tables e below (s₁.setTop (mkF m 41 #[.val (.int x0)] [(.int (1 : Int32))])) _
              rw [show v15 = (1 : Int32) from by rw [hv15, if_pos hc1, if_neg hc2, if_pos hc5, if_neg hc6, if_neg hc7]] at k
              exact k
        · skip
          refine XS.icmpYes X0.here hx rfl (pc0 := 21) (pc' := 36) rfl (hb hby d1_21) rfl (flt hc5).2.2.2 (by decide) (by decide) ?_
          show Steps p.tables e below (s₁.setTop (mkF m 36 #[.val (.int x0)] [])) _
          refine XS.iconst X0.here hx rfl (hb hby d1_36) ?_
          show Steps p.tables e below (s₁.setTop (mkF m 37 #[.val (.int x0)] [(.int (1 : Int32))])) _
          refine XS.goto X0.here hx rfl (pc0 := 37) (pc' := 41) rfl (hb hby d1_37) (by decide) (by decide) ?_
          show Steps p.tables e below (s₁.setTop (mkF m 41 #[.val (.int x0)] [(.int (1 : Int32))])) _
          rw [show v15 = (1 : Int32) from by rw [hv15, if_pos hc1, if_neg hc2, if_neg hc5]] at k
          exact k
    · skip
      refine XS.icmpNo X0.here hx rfl (hb hby d1_3) rfl (flt hc1).1 ?_
      show Steps p.tables e below (s₁.setTop (mkF m 6 #[.val (.int x0)] [])) _
      refine XS.iloadN X0.here hx rfl (hb hby d1_6) rfl ?_
      show Steps p.tables e below (s₁.setTop (mkF m 7 #[.val (.int x0)] [(.int x0)])) _
      refine XS.bipush X0.here hx rfl (hb hby d1_7) ?_
      show Steps p.tables e below (s₁.setTop (mkF m 9 #[.val (.int x0)] [(.int (122 : Int32)), (.int x0)])) _
      by_cases hc8 : (122 : Int32) < x0
      · skip
        refine XS.icmpNo X0.here hx rfl (hb hby d1_9) rfl (tlt hc8).2.2.2 ?_
        show Steps p.tables e below (s₁.setTop (mkF m 12 #[.val (.int x0)] [])) _
        refine XS.iloadN X0.here hx rfl (hb hby d1_12) rfl ?_
        show Steps p.tables e below (s₁.setTop (mkF m 13 #[.val (.int x0)] [(.int x0)])) _
        refine XS.bipush X0.here hx rfl (hb hby d1_13) ?_
        show Steps p.tables e below (s₁.setTop (mkF m 15 #[.val (.int x0)] [(.int (65 : Int32)), (.int x0)])) _
        by_cases hc9 : x0 < (65 : Int32)
        · skip
          refine XS.icmpYes X0.here hx rfl (pc0 := 15) (pc' := 24) rfl (hb hby d1_15) rfl (tlt hc9).1 (by decide) (by decide) ?_
          show Steps p.tables e below (s₁.setTop (mkF m 24 #[.val (.int x0)] [])) _
          refine XS.iloadN X0.here hx rfl (hb hby d1_24) rfl ?_
          show Steps p.tables e below (s₁.setTop (mkF m 25 #[.val (.int x0)] [(.int x0)])) _
          refine XS.bipush X0.here hx rfl (hb hby d1_25) ?_
          show Steps p.tables e below (s₁.setTop (mkF m 27 #[.val (.int x0)] [(.int (48 : Int32)), (.int x0)])) _
          by_cases hc10 : x0 < (48 : Int32)
          · skip
            refine XS.icmpYes X0.here hx rfl (pc0 := 27) (pc' := 40) rfl (hb hby d1_27) rfl (tlt hc10).1 (by decide) (by decide) ?_
            show Steps p.tables e below (s₁.setTop (mkF m 40 #[.val (.int x0)] [])) _
            refine XS.iconst X0.here hx rfl (hb hby d1_40) ?_
            show Steps p.tables e below (s₁.setTop (mkF m 41 #[.val (.int x0)] [(.int (0 : Int32))])) _
            rw [show v15 = (0 : Int32) from by rw [hv15, if_neg hc1, if_pos hc8, if_pos hc9, if_pos hc10]] at k
            exact k
          · skip
            refine XS.icmpNo X0.here hx rfl (hb hby d1_27) rfl (flt hc10).1 ?_
            show Steps p.tables e below (s₁.setTop (mkF m 30 #[.val (.int x0)] [])) _
            refine XS.iloadN X0.here hx rfl (hb hby d1_30) rfl ?_
            show Steps p.tables e below (s₁.setTop (mkF m 31 #[.val (.int x0)] [(.int x0)])) _
            refine XS.bipush X0.here hx rfl (hb hby d1_31) ?_
            show Steps p.tables e below (s₁.setTop (mkF m 33 #[.val (.int x0)] [(.int (57 : Int32)), (.int x0)])) _
            by_cases hc11 : (57 : Int32) < x0
            · skip
              refine XS.icmpYes X0.here hx rfl (pc0 := 33) (pc' := 40) rfl (hb hby d1_33) rfl (tlt hc11).2.2.1 (by decide) (by decide) ?_
              show Steps p.tables e below (s₁.setTop (mkF m 40 #[.val (.int x0)] [])) _
              refine XS.iconst X0.here hx rfl (hb hby d1_40) ?_
              show Steps p.tables e below (s₁.setTop (mkF m 41 #[.val (.int x0)] [(.int (0 : Int32))])) _
              rw [show v15 = (0 : Int32) from by rw [hv15, if_neg hc1, if_pos hc8, if_pos hc9, if_neg hc10, if_pos hc11]] at k
              exact k
            · skip
              refine XS.icmpNo X0.here hx rfl (hb hby d1_33) rfl (flt hc11).2.2.1 ?_
              show Steps p.tables e below (s₁.setTop (mkF m 36 #[.val (.int x0)] [])) _
              refine XS.iconst X0.here hx rfl (hb hby d1_36) ?_
              show Steps p.tables e below (s₁.setTop (mkF m 37 #[.val (.int x0)] [(.int (1 : Int32))])) _
              refine XS.goto X0.here hx rfl (pc0 := 37) (pc' := 41) rfl (hb hby d1_37) (by decide) (by decide) ?_
              show Steps p.tables e below (s₁.setTop (mkF m 41 #[.val (.int x0)] [(.int (1 : Int32))])) _
              rw [show v15 = (1 : Int32) from by rw [hv15, if_neg hc1, if_pos hc8, if_pos hc9, if_neg hc10, if_neg hc11]] at k
              exact k
        · skip
          refine XS.icmpNo X0.here hx rfl (hb hby d1_15) rfl (flt hc9).1 ?_
          show Steps p.tables e below (s₁.setTop (mkF m 18 #[.val (.int x0)] [])) _
          refine XS.iloadN X0.here hx rfl (hb hby d1_18) rfl ?_
          show Steps p.tables e below (s₁.setTop (mkF m 19 #[.val (.int x0)] [(.int x0)])) _
          refine XS.bipush X0.here hx rfl (hb hby d1_19) ?_
          show Steps p.tables e below (s₁.setTop (mkF m 21 #[.val (.int x0)] [(.int (90 : Int32)), (.int x0)])) _
          by_cases hc12 : (90 : Int32) < x0
          · skip
            refine XS.icmpNo X0.here hx rfl (hb hby d1_21) rfl (tlt hc12).2.2.2 ?_
            show Steps p.tables e below (s₁.setTop (mkF m 24 #[.val (.int x0)] [])) _
            refine XS.iloadN X0.here hx rfl (hb hby d1_24) rfl ?_
            show Steps p.tables e below (s₁.setTop (mkF m 25 #[.val (.int x0)] [(.int x0)])) _
            refine XS.bipush X0.here hx rfl (hb hby d1_25) ?_
            show Steps p.tables e below (s₁.setTop (mkF m 27 #[.val (.int x0)] [(.int (48 : Int32)), (.int x0)])) _
            by_cases hc13 : x0 < (48 : Int32)
            · skip
              refine XS.icmpYes X0.here hx rfl (pc0 := 27) (pc' := 40) rfl (hb hby d1_27) rfl (tlt hc13).1 (by decide) (by decide) ?_
              show Steps p.tables e below (s₁.setTop (mkF m 40 #[.val (.int x0)] [])) _
              refine XS.iconst X0.here hx rfl (hb hby d1_40) ?_
              show Steps p.tables e below (s₁.setTop (mkF m 41 #[.val (.int x0)] [(.int (0 : Int32))])) _
              rw [show v15 = (0 : Int32) from by rw [hv15, if_neg hc1, if_pos hc8, if_neg hc9, if_pos hc12, if_pos hc13]] at k
              exact k
            · skip
              refine XS.icmpNo X0.here hx rfl (hb hby d1_27) rfl (flt hc13).1 ?_
              show Steps p.tables e below (s₁.setTop (mkF m 30 #[.val (.int x0)] [])) _
              refine XS.iloadN X0.here hx rfl (hb hby d1_30) rfl ?_
              show Steps p.tables e below (s₁.setTop (mkF m 31 #[.val (.int x0)] [(.int x0)])) _
              refine XS.bipush X0.here hx rfl (hb hby d1_31) ?_
              show Steps p.tables e below (s₁.setTop (mkF m 33 #[.val (.int x0)] [(.int (57 : Int32)), (.int x0)])) _
              by_cases hc14 : (57 : Int32) < x0
              · skip
                refine XS.icmpYes X0.here hx rfl (pc0 := 33) (pc' := 40) rfl (hb hby d1_33) rfl (tlt hc14).2.2.1 (by decide) (by decide) ?_
                show Steps p.tables e below (s₁.setTop (mkF m 40 #[.val (.int x0)] [])) _
                refine XS.iconst X0.here hx rfl (hb hby d1_40) ?_
                show Steps p.tables e below (s₁.setTop (mkF m 41 #[.val (.int x0)] [(.int (0 : Int32))])) _
                rw [show v15 = (0 : Int32) from by rw [hv15, if_neg hc1, if_pos hc8, if_neg hc9, if_pos hc12, if_neg hc13, if_pos hc14]] at k
                exact k
              · skip
                refine XS.icmpNo X0.here hx rfl (hb hby d1_33) rfl (flt hc14).2.2.1 ?_
                show Steps p.tables e below (s₁.setTop (mkF m 36 #[.val (.int x0)] [])) _
                refine XS.iconst X0.here hx rfl (hb hby d1_36) ?_
                show Steps p.tables e below (s₁.setTop (mkF m 37 #[.val (.int x0)] [(.int (1 : Int32))])) _
                refine XS.goto X0.here hx rfl (pc0 := 37) (pc' := 41) rfl (hb hby d1_37) (by decide) (by decide) ?_
                show Steps p.tables e below (s₁.setTop (mkF m 41 #[.val (.int x0)] [(.int (1 : Int32))])) _
                rw [show v15 = (1 : Int32) from by rw [hv15, if_neg hc1, if_pos hc8, if_neg hc9, if_pos hc12, if_neg hc13, if_neg hc14]] at k
                exact k
          · skip
            refine XS.icmpYes X0.here hx rfl (pc0 := 21) (pc' := 36) rfl (hb hby d1_21) rfl (flt hc12).2.2.2 (by decide) (by decide) ?_
            show Steps p.tables e below (s₁.setTop (mkF m 36 #[.val (.int x0)] [])) _
            refine XS.iconst X0.here hx rfl (hb hby d1_36) ?_
            show Steps p.tables e below (s₁.setTop (mkF m 37 #[.val (.int x0)] [(.int (1 : Int32))])) _
            refine XS.goto X0.here hx rfl (pc0 := 37) (pc' := 41) rfl (hb hby d1_37) (by decide) (by decide) ?_
            show Steps p.tables e below (s₁.setTop (mkF m 41 #[.val (.int x0)] [(.int (1 : Int32))])) _
            rw [show v15 = (1 : Int32) from by rw [hv15, if_neg hc1, if_pos hc8, if_neg hc9, if_neg hc12]] at k
            exact k
      · skip
        refine XS.icmpYes X0.here hx rfl (pc0 := 9) (pc' := 36) rfl (hb hby d1_9) rfl (flt hc8).2.2.2 (by decide) (by decide) ?_
        show Steps p.tables e below (s₁.setTop (mkF m 36 #[.val (.int x0)] [])) _
        refine XS.iconst X0.here hx rfl (hb hby d1_36) ?_
        show Steps p.tables e below (s₁.setTop (mkF m 37 #[.val (.int x0)] [(.int (1 : Int32))])) _
        refine XS.goto X0.here hx rfl (pc0 := 37) (pc' := 41) rfl (hb hby d1_37) (by decide) (by decide) ?_
        show Steps p.tables e below (s₁.setTop (mkF m 41 #[.val (.int x0)] [(.int (1 : Int32))])) _
        rw [show v15 = (1 : Int32) from by rw [hv15, if_neg hc1, if_neg hc8]] at k
        exact k)
  obtain ⟨fs, hr, hrun, hended, hW, hsame⟩ := X0.leave (v := some (.int (nar .boolean v15))) (fun h => by rw [Bd.returns] at h; cases h)
  refine ⟨_, _, pre16 _ ?_, hrun, hended, _, _, rfl, ?_, ⟨_, rfl⟩, hW, hsame.mono (by decide) (by decide)⟩
  · show Steps p.tables e below (s₁.setTop (mkF m 41 #[.val (.int x0)] [(.int v15)])) _
    exact retN X0 hx (t := .boolean) Bd.returns (by simp) (hb hby d1_41) hr
  · show Q1 Z x0 h0 n0 _ s₁.heap _
    rw [e0]
    exact ⟨_, rfl, N0, rfl, by subst hv15; rw [F1]⟩
theorem pd_0 : parseMethodDescriptor "(C)Z" = some ⟨[.char], some .boolean⟩ := by decide +kernel
set_option maxHeartbeats 8000000 in
theorem own_fin (x0 : Int32) (v1 : Int32) (v2 : Int32) (v5 : Int32) (v7 : Int32) (v10 : Int32) (r13 : Int32) (v17 : Int32) (v20 : Int32) (hv1 : v1 = ((x0 &&& (65535 : Int32)).toUInt32.toUInt16.toUInt32.toInt32)) (hv2 : v2 = ((v1 ||| (32 : Int32)) - (97 : Int32))) (hv5 : v5 = (if v2 < (0 : Int32) then (0 : Int32) else (if v2 < (26 : Int32) then (1 : Int32) else (0 : Int32)))) (hv7 : v7 = (v1 - (48 : Int32))) (hv10 : v10 = (if v7 < (0 : Int32) then (0 : Int32) else (if v7 < (10 : Int32) then (1 : Int32) else (0 : Int32)))) (P13 : r13 = F1 v1) (hv17 : v17 = (if v5 = (0 : Int32) then (if v10 = (0 : Int32) then (0 : Int32) else (1 : Int32)) else (1 : Int32))) (hv20 : v20 = (if r13 = v17 then (1 : Int32) else (0 : Int32))) : v20 = (1 : Int32) := by
  have h1 := c_i2c (x0 &&& 65535)
  rw [← hv1] at h1
  have h2 := own_or32 v1 h1.2.1
  have h3 := c_isub (v1 ||| 32) 97
  rw [← hv2] at h3
  have h4 := c_isub v1 48
  rw [← hv7] at h4
  have q1 := rng32 v2
  have q2 := rng32 v7
  unfold F1 at P13
  rw [own_narb] at P13
  have hr := congrArg Int32.toInt P13
  rw [own_and1] at hr
  clear P13 hv1 hv2 hv7
  simp only [← Int32.toInt_inj, Int32.lt_iff_toInt_lt, apply_ite Int32.toInt, Int32.reduceToInt] at *
  omega
theorem pn_1 : plainName "com/example/circlet/circlet/HttpReaderIsAsciiLetterOrDigitPinLaw" = true := by first | (simp [plainName, overriddenIn]; done) | decide +kernel
theorem ef_0 (m : MethodId) (x0 : Int32) : entryFrame m #[(.int x0)] maxLocals = mkF m 0 #[.val (.int x0), .unset, .unset, .unset, .unset, .unset] [] := by first | (simp [entryFrame, mkF, argsToLocals, Value.category, maxLocals]; done) | rfl
def Q0 (Z : State) (x0 : Int32) (h0 : Heap) (n0 : Nat) (v : Option Value) (h : Heap) (L : List Loc) : Prop := v = some (.int 1) ∧ Fr n0 L
set_option maxRecDepth 65536 in
set_option maxHeartbeats 40000000 in
theorem rm0 (l : Launch) (Z : State) (a0 : Array Value) (hw : ∀ d ∈ tables_1, d.before a0 Z = true) (ws : List Jvm.Cond) (x0 : Int32) (h0 : Heap) (n0 : Nat) (Z0 : n0 ≤ h0.size) :
    MetFree l x (head1 (Jvm.Cond.code x code maxLocals ret :: ws) room_1) (fun aa U => aa = #[(.int x0)] ∧ Z.Warmed39 U.vm ∧ U.heap = h0) (fun _ _ _ _ _ => True) (fun _ U o U' => ∃ v L, o = .returned v ∧ Q0 Z x0 h0 n0 v U'.heap L ∧ FrameEnd U o U' L room_1.cells room_1.slots) := by
  refine MetFree.of_bodySF (plainFor_of_name pn_1) hisR ?_
  intro p e s m args below meth c s₁ Bd hml0 hP hK
  obtain ⟨rfl, hZ, hh⟩ := hP
  have hx := Bd.exec
  have hby := Bd.bytes
  have hml : c.maxLocals = 6 := hml0
  have hown : s.vm.findClass "com/example/circlet/circlet/HttpReaderIsAsciiLetterOrDigitPinLaw" = some m.cls := findClass_of_methodNamed Bd.named
  have hnm := (name_of_methodNamed Bd.named Bd.method).1
  have X0 : Stand p l e room_1 s m #[(.int x0)] below meth c s₁ [] 0 0 := Stand.of_body Bd
  have e0 : s₁.heap = h0 := by rw [← hh, Bd.state]; rfl
  have N0 := Fr.nil n0
  have pre0 : ∀ t, Steps p.tables e below (s₁.setTop (mkF m 0 #[.val (.int x0), .unset, .unset, .unset, .unset, .unset] [])) t → Steps p.tables e below (s₁.setTop (entryFrame m #[(.int x0)] maxLocals)) t := fun t k => castTop (ef_0 m x0) k
  obtain ⟨v1, hv1⟩ : ∃ z : Int32, z = ((x0 &&& (65535 : Int32)).toUInt32.toUInt16.toUInt32.toInt32) := ⟨_, rfl⟩
  obtain ⟨v2, hv2⟩ : ∃ z : Int32, z = ((v1 ||| (32 : Int32)) - (97 : Int32)) := ⟨_, rfl⟩
  obtain ⟨v5, hv5⟩ : ∃ z : Int32, z = (if v2 < (0 : Int32) then (0 : Int32) else (if v2 < (26 : Int32) then (1 : Int32) else (0 : Int32))) := ⟨_, rfl⟩
  have pre6 : ∀ t, Steps p.tables e below (s₁.setTop (mkF m 29 #[.val (.int x0), .val (.int v1), .val (.int v2), .unset, .unset, .unset] [(.int v5)])) t → Steps p.tables e below (s₁.setTop (entryFrame m #[(.int x0)] maxLocals)) t := fun t k => pre0 t (by
    subst hv2
    subst hv1
    show Steps p.tables e below (s₁.setTop (mkF m 0 #[.val (.int x0), .unset, .unset, .unset, .unset, .unset] [])) _
    refine XS.iloadN X0.here hx rfl (hb hby at_0) rfl ?_
    show Steps p.tables e below (s₁.setTop (mkF m 1 #[.val (.int x0), .unset, .unset, .unset, .unset, .unset] [(.int x0)])) _
    refine X0.ldcInt hx hown (mvT hZ (hw _ (List.mem_of_getElem? (i := 0) rfl))) (g := (mkF m 1 #[.val (.int x0), .unset, .unset, .unset, .unset, .unset] [(.int x0)])) rfl (hb hby at_1) _ ?_
    show Steps p.tables e below (s₁.setTop (mkF m 3 #[.val (.int x0), .unset, .unset, .unset, .unset, .unset] [(.int (65535 : Int32)), (.int x0)])) _
    refine XS.iand X0.here hx rfl (hb hby at_3) rfl ?_
    show Steps p.tables e below (s₁.setTop (mkF m 4 #[.val (.int x0), .unset, .unset, .unset, .unset, .unset] [(.int (x0 &&& (65535 : Int32)))])) _
    refine XS.i2c X0.here hx rfl (hb hby at_4) rfl ?_
    show Steps p.tables e below (s₁.setTop (mkF m 5 #[.val (.int x0), .unset, .unset, .unset, .unset, .unset] [(.int ((x0 &&& (65535 : Int32)).toUInt32.toUInt16.toUInt32.toInt32))])) _
    refine XS.istoreN X0.here hx rfl (hb hby at_5) rfl (l' := #[.val (.int x0), .val (.int ((x0 &&& (65535 : Int32)).toUInt32.toUInt16.toUInt32.toInt32)), .unset, .unset, .unset, .unset]) rfl ?_
    show Steps p.tables e below (s₁.setTop (mkF m 6 #[.val (.int x0), .val (.int ((x0 &&& (65535 : Int32)).toUInt32.toUInt16.toUInt32.toInt32)), .unset, .unset, .unset, .unset] [])) _
    refine XS.iloadN X0.here hx rfl (hb hby at_6) rfl ?_
    show Steps p.tables e below (s₁.setTop (mkF m 7 #[.val (.int x0), .val (.int ((x0 &&& (65535 : Int32)).toUInt32.toUInt16.toUInt32.toInt32)), .unset, .unset, .unset, .unset] [(.int ((x0 &&& (65535 : Int32)).toUInt32.toUInt16.toUInt32.toInt32))])) _
    refine XS.bipush X0.here hx rfl (hb hby at_7) ?_
    show Steps p.tables e below (s₁.setTop (mkF m 9 #[.val (.int x0), .val (.int ((x0 &&& (65535 : Int32)).toUInt32.toUInt16.toUInt32.toInt32)), .unset, .unset, .unset, .unset] [(.int (32 : Int32)), (.int ((x0 &&& (65535 : Int32)).toUInt32.toUInt16.toUInt32.toInt32))])) _
    refine XS.ior X0.here hx rfl (hb hby at_9) rfl ?_
    show Steps p.tables e below (s₁.setTop (mkF m 10 #[.val (.int x0), .val (.int ((x0 &&& (65535 : Int32)).toUInt32.toUInt16.toUInt32.toInt32)), .unset, .unset, .unset, .unset] [(.int (((x0 &&& (65535 : Int32)).toUInt32.toUInt16.toUInt32.toInt32) ||| (32 : Int32)))])) _
    refine XS.bipush X0.here hx rfl (hb hby at_10) ?_
    show Steps p.tables e below (s₁.setTop (mkF m 12 #[.val (.int x0), .val (.int ((x0 &&& (65535 : Int32)).toUInt32.toUInt16.toUInt32.toInt32)), .unset, .unset, .unset, .unset] [(.int (97 : Int32)), (.int (((x0 &&& (65535 : Int32)).toUInt32.toUInt16.toUInt32.toInt32) ||| (32 : Int32)))])) _
    refine XS.isub X0.here hx rfl (hb hby at_12) rfl ?_
    show Steps p.tables e below (s₁.setTop (mkF m 13 #[.val (.int x0), .val (.int ((x0 &&& (65535 : Int32)).toUInt32.toUInt16.toUInt32.toInt32)), .unset, .unset, .unset, .unset] [(.int ((((x0 &&& (65535 : Int32)).toUInt32.toUInt16.toUInt32.toInt32) ||| (32 : Int32)) - (97 : Int32)))])) _
    refine XS.istoreN X0.here hx rfl (hb hby at_13) rfl (l' := #[.val (.int x0), .val (.int ((x0 &&& (65535 : Int32)).toUInt32.toUInt16.toUInt32.toInt32)), .val (.int ((((x0 &&& (65535 : Int32)).toUInt32.toUInt16.toUInt32.toInt32) ||| (32 : Int32)) - (97 : Int32))), .unset, .unset, .unset]) rfl ?_
    show Steps p.tables e below (s₁.setTop (mkF m 14 #[.val (.int x0), .val (.int ((x0 &&& (65535 : Int32)).toUInt32.toUInt16.toUInt32.toInt32)), .val (.int ((((x0 &&& (65535 : Int32)).toUInt32.toUInt16.toUInt32.toInt32) ||| (32 : Int32)) - (97 : Int32))), .unset, .unset, .unset] [])) _
    refine XS.iloadN X0.here hx rfl (hb hby at_14) rfl ?_
    show Steps p.tables e below (s₁.setTop (mkF m 15 #[.val (.int x0), .val (.int ((x0 &&& (65535 : Int32)).toUInt32.toUInt16.toUInt32.toInt32)), .val (.int ((((x0 &&& (65535 : Int32)).toUInt32.toUInt16.toUInt32.toInt32) ||| (32 : Int32)) - (97 : Int32))), .unset, .unset, .unset] [(.int ((((x0 &&& (65535 : Int32)).toUInt32.toUInt16.toUInt32.toInt32) ||| (32 : Int32)) - (97 : Int32)))])) _
    by_cases hc3 : ((((x0 &&& (65535 : Int32)).toUInt32.toUInt16.toUInt32.toInt32) ||| (32 : Int32)) - (97 : Int32)) < (0 : Int32)
    · skip
      refine XS.ifYes X0.here hx rfl (pc0 := 15) (pc' := 28) rfl (hb hby at_15) rfl ((if0 _ _).trans (tlt hc3).1) (by decide) (by decide) ?_
      show Steps p.tables e below (s₁.setTop (mkF m 28 #[.val (.int x0), .val (.int ((x0 &&& (65535 : Int32)).toUInt32.toUInt16.toUInt32.toInt32)), .val (.int ((((x0 &&& (65535 : Int32)).toUInt32.toUInt16.toUInt32.toInt32) ||| (32 : Int32)) - (97 : Int32))), .unset, .unset, .unset] [])) _
      refine XS.iconst X0.here hx rfl (hb hby at_28) ?_
      show Steps p.tables e below (s₁.setTop (mkF m 29 #[.val (.int x0), .val (.int ((x0 &&& (65535 : Int32)).toUInt32.toUInt16.toUInt32.toInt32)), .val (.int ((((x0 &&& (65535 : Int32)).toUInt32.toUInt16.toUInt32.toInt32) ||| (32 : Int32)) - (97 : Int32))), .unset, .unset, .unset] [(.int (0 : Int32))])) _
      rw [show v5 = (0 : Int32) from by rw [hv5, if_pos hc3]] at k
      exact k
    · skip
      refine XS.ifNo X0.here hx rfl (hb hby at_15) rfl ((if0 _ _).trans (flt hc3).1) ?_
      show Steps p.tables e below (s₁.setTop (mkF m 18 #[.val (.int x0), .val (.int ((x0 &&& (65535 : Int32)).toUInt32.toUInt16.toUInt32.toInt32)), .val (.int ((((x0 &&& (65535 : Int32)).toUInt32.toUInt16.toUInt32.toInt32) ||| (32 : Int32)) - (97 : Int32))), .unset, .unset, .unset] [])) _
      refine XS.iloadN X0.here hx rfl (hb hby at_18) rfl ?_
      show Steps p.tables e below (s₁.setTop (mkF m 19 #[.val (.int x0), .val (.int ((x0 &&& (65535 : Int32)).toUInt32.toUInt16.toUInt32.toInt32)), .val (.int ((((x0 &&& (65535 : Int32)).toUInt32.toUInt16.toUInt32.toInt32) ||| (32 : Int32)) - (97 : Int32))), .unset, .unset, .unset] [(.int ((((x0 &&& (65535 : Int32)).toUInt32.toUInt16.toUInt32.toInt32) ||| (32 : Int32)) - (97 : Int32)))])) _
      refine XS.bipush X0.here hx rfl (hb hby at_19) ?_
      show Steps p.tables e below (s₁.setTop (mkF m 21 #[.val (.int x0), .val (.int ((x0 &&& (65535 : Int32)).toUInt32.toUInt16.toUInt32.toInt32)), .val (.int ((((x0 &&& (65535 : Int32)).toUInt32.toUInt16.toUInt32.toInt32) ||| (32 : Int32)) - (97 : Int32))), .unset, .unset, .unset] [(.int (26 : Int32)), (.int ((((x0 &&& (65535 : Int32)).toUInt32.toUInt16.toUInt32.toInt32) ||| (32 : Int32)) - (97 : Int32)))])) _
      by_cases hc4 : ((((x0 &&& (65535 : Int32)).toUInt32.toUInt16.toUInt32.toInt32) ||| (32 : Int32)) - (97 : Int32)) < (26 : Int32)
      · skip
        refine XS.icmpNo X0.here hx rfl (hb hby at_21) rfl (tlt hc4).2.1 ?_
        show Steps p.tables e below (s₁.setTop (mkF m 24 #[.val (.int x0), .val (.int ((x0 &&& (65535 : Int32)).toUInt32.toUInt16.toUInt32.toInt32)), .val (.int ((((x0 &&& (65535 : Int32)).toUInt32.toUInt16.toUInt32.toInt32) ||| (32 : Int32)) - (97 : Int32))), .unset, .unset, .unset] [])) _
        refine XS.iconst X0.here hx rfl (hb hby at_24) ?_
        show Steps p.tables e below (s₁.setTop (mkF m 25 #[.val (.int x0), .val (.int ((x0 &&& (65535 : Int32)).toUInt32.toUInt16.toUInt32.toInt32)), .val (.int ((((x0 &&& (65535 : Int32)).toUInt32.toUInt16.toUInt32.toInt32) ||| (32 : Int32)) - (97 : Int32))), .unset, .unset, .unset] [(.int (1 : Int32))])) _
        refine XS.goto X0.here hx rfl (pc0 := 25) (pc' := 29) rfl (hb hby at_25) (by decide) (by decide) ?_
        show Steps p.tables e below (s₁.setTop (mkF m 29 #[.val (.int x0), .val (.int ((x0 &&& (65535 : Int32)).toUInt32.toUInt16.toUInt32.toInt32)), .val (.int ((((x0 &&& (65535 : Int32)).toUInt32.toUInt16.toUInt32.toInt32) ||| (32 : Int32)) - (97 : Int32))), .unset, .unset, .unset] [(.int (1 : Int32))])) _
        rw [show v5 = (1 : Int32) from by rw [hv5, if_neg hc3, if_pos hc4]] at k
        exact k
      · skip
        refine XS.icmpYes X0.here hx rfl (pc0 := 21) (pc' := 28) rfl (hb hby at_21) rfl (flt hc4).2.1 (by decide) (by decide) ?_
        show Steps p.tables e below (s₁.setTop (mkF m 28 #[.val (.int x0), .val (.int ((x0 &&& (65535 : Int32)).toUInt32.toUInt16.toUInt32.toInt32)), .val (.int ((((x0 &&& (65535 : Int32)).toUInt32.toUInt16.toUInt32.toInt32) ||| (32 : Int32)) - (97 : Int32))), .unset, .unset, .unset] [])) _
        refine XS.iconst X0.here hx rfl (hb hby at_28) ?_
        show Steps p.tables e below (s₁.setTop (mkF m 29 #[.val (.int x0), .val (.int ((x0 &&& (65535 : Int32)).toUInt32.toUInt16.toUInt32.toInt32)), .val (.int ((((x0 &&& (65535 : Int32)).toUInt32.toUInt16.toUInt32.toInt32) ||| (32 : Int32)) - (97 : Int32))), .unset, .unset, .unset] [(.int (0 : Int32))])) _
        rw [show v5 = (0 : Int32) from by rw [hv5, if_neg hc3, if_neg hc4]] at k
        exact k)
  obtain ⟨v7, hv7⟩ : ∃ z : Int32, z = (v1 - (48 : Int32)) := ⟨_, rfl⟩
  obtain ⟨v10, hv10⟩ : ∃ z : Int32, z = (if v7 < (0 : Int32) then (0 : Int32) else (if v7 < (10 : Int32) then (1 : Int32) else (0 : Int32))) := ⟨_, rfl⟩
  have pre11 : ∀ t, Steps p.tables e below (s₁.setTop (mkF m 53 #[.val (.int x0), .val (.int v1), .val (.int v2), .val (.int v5), .val (.int v7), .unset] [(.int v10)])) t → Steps p.tables e below (s₁.setTop (entryFrame m #[(.int x0)] maxLocals)) t := fun t k => pre6 t (by
    subst hv7
    show Steps p.tables e below (s₁.setTop (mkF m 29 #[.val (.int x0), .val (.int v1), .val (.int v2), .unset, .unset, .unset] [(.int v5)])) _
    refine XS.istoreN X0.here hx rfl (hb hby at_29) rfl (l' := #[.val (.int x0), .val (.int v1), .val (.int v2), .val (.int v5), .unset, .unset]) rfl ?_
    show Steps p.tables e below (s₁.setTop (mkF m 30 #[.val (.int x0), .val (.int v1), .val (.int v2), .val (.int v5), .unset, .unset] [])) _
    refine XS.iloadN X0.here hx rfl (hb hby at_30) rfl ?_
    show Steps p.tables e below (s₁.setTop (mkF m 31 #[.val (.int x0), .val (.int v1), .val (.int v2), .val (.int v5), .unset, .unset] [(.int v1)])) _
    refine XS.bipush X0.here hx rfl (hb hby at_31) ?_
    show Steps p.tables e below (s₁.setTop (mkF m 33 #[.val (.int x0), .val (.int v1), .val (.int v2), .val (.int v5), .unset, .unset] [(.int (48 : Int32)), (.int v1)])) _
    refine XS.isub X0.here hx rfl (hb hby at_33) rfl ?_
    show Steps p.tables e below (s₁.setTop (mkF m 34 #[.val (.int x0), .val (.int v1), .val (.int v2), .val (.int v5), .unset, .unset] [(.int (v1 - (48 : Int32)))])) _
    refine XS.istore X0.here hx rfl (hb hby at_34) rfl (l' := #[.val (.int x0), .val (.int v1), .val (.int v2), .val (.int v5), .val (.int (v1 - (48 : Int32))), .unset]) rfl ?_
    show Steps p.tables e below (s₁.setTop (mkF m 36 #[.val (.int x0), .val (.int v1), .val (.int v2), .val (.int v5), .val (.int (v1 - (48 : Int32))), .unset] [])) _
    refine XS.iload X0.here hx rfl (hb hby at_36) rfl ?_
    show Steps p.tables e below (s₁.setTop (mkF m 38 #[.val (.int x0), .val (.int v1), .val (.int v2), .val (.int v5), .val (.int (v1 - (48 : Int32))), .unset] [(.int (v1 - (48 : Int32)))])) _
    by_cases hc8 : (v1 - (48 : Int32)) < (0 : Int32)
    · skip
      refine XS.ifYes X0.here hx rfl (pc0 := 38) (pc' := 52) rfl (hb hby at_38) rfl ((if0 _ _).trans (tlt hc8).1) (by decide) (by decide) ?_
      show Steps p.tables e below (s₁.setTop (mkF m 52 #[.val (.int x0), .val (.int v1), .val (.int v2), .val (.int v5), .val (.int (v1 - (48 : Int32))), .unset] [])) _
      refine XS.iconst X0.here hx rfl (hb hby at_52) ?_
      show Steps p.tables e below (s₁.setTop (mkF m 53 #[.val (.int x0), .val (.int v1), .val (.int v2), .val (.int v5), .val (.int (v1 - (48 : Int32))), .unset] [(.int (0 : Int32))])) _
      rw [show v10 = (0 : Int32) from by rw [hv10, if_pos hc8]] at k
      exact k
    · skip
      refine XS.ifNo X0.here hx rfl (hb hby at_38) rfl ((if0 _ _).trans (flt hc8).1) ?_
      show Steps p.tables e below (s₁.setTop (mkF m 41 #[.val (.int x0), .val (.int v1), .val (.int v2), .val (.int v5), .val (.int (v1 - (48 : Int32))), .unset] [])) _
      refine XS.iload X0.here hx rfl (hb hby at_41) rfl ?_
      show Steps p.tables e below (s₁.setTop (mkF m 43 #[.val (.int x0), .val (.int v1), .val (.int v2), .val (.int v5), .val (.int (v1 - (48 : Int32))), .unset] [(.int (v1 - (48 : Int32)))])) _
      refine XS.bipush X0.here hx rfl (hb hby at_43) ?_
      show Steps p.tables e below (s₁.setTop (mkF m 45 #[.val (.int x0), .val (.int v1), .val (.int v2), .val (.int v5), .val (.int (v1 - (48 : Int32))), .unset] [(.int (10 : Int32)), (.int (v1 - (48 : Int32)))])) _
      by_cases hc9 : (v1 - (48 : Int32)) < (10 : Int32)
      · skip
        refine XS.icmpNo X0.here hx rfl (hb hby at_45) rfl (tlt hc9).2.1 ?_
        show Steps p.tables e below (s₁.setTop (mkF m 48 #[.val (.int x0), .val (.int v1), .val (.int v2), .val (.int v5), .val (.int (v1 - (48 : Int32))), .unset] [])) _
        refine XS.iconst X0.here hx rfl (hb hby at_48) ?_
        show Steps p.tables e below (s₁.setTop (mkF m 49 #[.val (.int x0), .val (.int v1), .val (.int v2), .val (.int v5), .val (.int (v1 - (48 : Int32))), .unset] [(.int (1 : Int32))])) _
        refine XS.goto X0.here hx rfl (pc0 := 49) (pc' := 53) rfl (hb hby at_49) (by decide) (by decide) ?_
        show Steps p.tables e below (s₁.setTop (mkF m 53 #[.val (.int x0), .val (.int v1), .val (.int v2), .val (.int v5), .val (.int (v1 - (48 : Int32))), .unset] [(.int (1 : Int32))])) _
        rw [show v10 = (1 : Int32) from by rw [hv10, if_neg hc8, if_pos hc9]] at k
        exact k
      · skip
        refine XS.icmpYes X0.here hx rfl (pc0 := 45) (pc' := 52) rfl (hb hby at_45) rfl (flt hc9).2.1 (by decide) (by decide) ?_
        show Steps p.tables e below (s₁.setTop (mkF m 52 #[.val (.int x0), .val (.int v1), .val (.int v2), .val (.int v5), .val (.int (v1 - (48 : Int32))), .unset] [])) _
        refine XS.iconst X0.here hx rfl (hb hby at_52) ?_
        show Steps p.tables e below (s₁.setTop (mkF m 53 #[.val (.int x0), .val (.int v1), .val (.int v2), .val (.int v5), .val (.int (v1 - (48 : Int32))), .unset] [(.int (0 : Int32))])) _
        rw [show v10 = (0 : Int32) from by rw [hv10, if_neg hc8, if_neg hc9]] at k
        exact k)
  have pre12 : ∀ t, Steps p.tables e below (s₁.setTop (mkF m 56 #[.val (.int x0), .val (.int v1), .val (.int v2), .val (.int v5), .val (.int v7), .val (.int v10)] [(.int v1)])) t → Steps p.tables e below (s₁.setTop (entryFrame m #[(.int x0)] maxLocals)) t := fun t k => pre11 t (by
    show Steps p.tables e below (s₁.setTop (mkF m 53 #[.val (.int x0), .val (.int v1), .val (.int v2), .val (.int v5), .val (.int v7), .unset] [(.int v10)])) _
    refine XS.istore X0.here hx rfl (hb hby at_53) rfl (l' := #[.val (.int x0), .val (.int v1), .val (.int v2), .val (.int v5), .val (.int v7), .val (.int v10)]) rfl ?_
    show Steps p.tables e below (s₁.setTop (mkF m 55 #[.val (.int x0), .val (.int v1), .val (.int v2), .val (.int v5), .val (.int v7), .val (.int v10)] [])) _
    refine XS.iloadN X0.here hx rfl (hb hby at_55) rfl ?_
    show Steps p.tables e below (s₁.setTop (mkF m 56 #[.val (.int x0), .val (.int v1), .val (.int v2), .val (.int v5), .val (.int v7), .val (.int v10)] [(.int v1)])) _
    exact k)
  obtain ⟨_, _, ⟨T13, L13, k13, n13⟩, -, X13, ⟨Lc13, hQ13, l13, y13, z13⟩, st13⟩ := Jvm.LawKit.callS X0 hx (y := (⟨"com/example/circlet/circlet/HttpReader", "isAsciiLetterOrDigit", "(C)Z"⟩ : MethodName)) hown (mvT hZ (hw _ (List.mem_of_getElem? (i := 1) rfl))) (mvT hZ (hw _ (List.mem_of_getElem? (i := 2) rfl))) (mvT hZ (hw _ (List.mem_of_getElem? (i := 3) rfl))) (mvT hZ (hw _ (List.mem_of_getElem? (i := 4) rfl))) (by decide) (backOf (W := 0) (rm1 l Z a0 hw [] v1  h0 n0 Z0 ) hZ (hw _ (List.mem_of_getElem? (i := 4) rfl)) (hw _ (List.mem_of_getElem? (i := 3) rfl)) (by decide) (by decide)) (g := (mkF m 56 #[.val (.int x0), .val (.int v1), .val (.int v2), .val (.int v5), .val (.int v7), .val (.int v10)] [(.int v1)])) rfl (by rw [hml]; rfl) (argsL := [(.int v1)]) (rest := []) (lenOf pd_0 rfl) rfl (by show 2 * 0 + _ ≤ _; exact Nat.le_of_eq rfl) (hb hby at_56) (fun _ _ => ⟨rfl, e0, (by decide : 0 + 0 ≤ _), (by decide : 0 + 0 ≤ _)⟩)
  dsimp only [Pt.U, Pt.locs, Pt.cells, Pt.slots] at X13 l13 y13 z13 st13 hQ13
  subst l13 y13 z13
  obtain ⟨r13, rfl, N13q, e13, P13⟩ := hQ13
  have N13 := Fr.app N0 N13q
  have pre14 : ∀ t, Steps p.tables e below (T13.setTop (mkF m 59 #[.val (.int x0), .val (.int v1), .val (.int v2), .val (.int v5), .val (.int v7), .val (.int v10)] [(.int r13)])) t → Steps p.tables e below (s₁.setTop (entryFrame m #[(.int x0)] maxLocals)) t := fun t k => pre12 t (st13 _ k)
  obtain ⟨v17, hv17⟩ : ∃ z : Int32, z = (if v5 = (0 : Int32) then (if v10 = (0 : Int32) then (0 : Int32) else (1 : Int32)) else (1 : Int32)) := ⟨_, rfl⟩
  have pre18 : ∀ t, Steps p.tables e below (T13.setTop (mkF m 73 #[.val (.int x0), .val (.int v1), .val (.int v2), .val (.int v5), .val (.int v7), .val (.int v10)] [(.int v17), (.int r13)])) t → Steps p.tables e below (s₁.setTop (entryFrame m #[(.int x0)] maxLocals)) t := fun t k => pre14 t (by
    show Steps p.tables e below (T13.setTop (mkF m 59 #[.val (.int x0), .val (.int v1), .val (.int v2), .val (.int v5), .val (.int v7), .val (.int v10)] [(.int r13)])) _
    refine XS.iloadN X13.here hx rfl (hb hby at_59) rfl ?_
    show Steps p.tables e below (T13.setTop (mkF m 60 #[.val (.int x0), .val (.int v1), .val (.int v2), .val (.int v5), .val (.int v7), .val (.int v10)] [(.int v5), (.int r13)])) _
    by_cases hc15 : v5 = (0 : Int32)
    · skip
      refine XS.ifNo X13.here hx rfl (hb hby at_60) rfl ((if0 _ _).trans (teq hc15).2) ?_
      show Steps p.tables e below (T13.setTop (mkF m 63 #[.val (.int x0), .val (.int v1), .val (.int v2), .val (.int v5), .val (.int v7), .val (.int v10)] [(.int r13)])) _
      refine XS.iload X13.here hx rfl (hb hby at_63) rfl ?_
      show Steps p.tables e below (T13.setTop (mkF m 65 #[.val (.int x0), .val (.int v1), .val (.int v2), .val (.int v5), .val (.int v7), .val (.int v10)] [(.int v10), (.int r13)])) _
      by_cases hc16 : v10 = (0 : Int32)
      · skip
        refine XS.ifYes X13.here hx rfl (pc0 := 65) (pc' := 72) rfl (hb hby at_65) rfl ((if0 _ _).trans (teq hc16).1) (by decide) (by decide) ?_
        show Steps p.tables e below (T13.setTop (mkF m 72 #[.val (.int x0), .val (.int v1), .val (.int v2), .val (.int v5), .val (.int v7), .val (.int v10)] [(.int r13)])) _
        refine XS.iconst X13.here hx rfl (hb hby at_72) ?_
        show Steps p.tables e below (T13.setTop (mkF m 73 #[.val (.int x0), .val (.int v1), .val (.int v2), .val (.int v5), .val (.int v7), .val (.int v10)] [(.int (0 : Int32)), (.int r13)])) _
        rw [show v17 = (0 : Int32) from by rw [hv17, if_pos hc15, if_pos hc16]] at k
        exact k
      · skip
        refine XS.ifNo X13.here hx rfl (hb hby at_65) rfl ((if0 _ _).trans (feq hc16).1) ?_
        show Steps p.tables e below (T13.setTop (mkF m 68 #[.val (.int x0), .val (.int v1), .val (.int v2), .val (.int v5), .val (.int v7), .val (.int v10)] [(.int r13)])) _
        refine XS.iconst X13.here hx rfl (hb hby at_68) ?_
        show Steps p.tables e below (T13.setTop (mkF m 69 #[.val (.int x0), .val (.int v1), .val (.int v2), .val (.int v5), .val (.int v7), .val (.int v10)] [(.int (1 : Int32)), (.int r13)])) _
        refine XS.goto X13.here hx rfl (pc0 := 69) (pc' := 73) rfl (hb hby at_69) (by decide) (by decide) ?_
        show Steps p.tables e below (T13.setTop (mkF m 73 #[.val (.int x0), .val (.int v1), .val (.int v2), .val (.int v5), .val (.int v7), .val (.int v10)] [(.int (1 : Int32)), (.int r13)])) _
        rw [show v17 = (1 : Int32) from by rw [hv17, if_pos hc15, if_neg hc16]] at k
        exact k
    · skip
      refine XS.ifYes X13.here hx rfl (pc0 := 60) (pc' := 68) rfl (hb hby at_60) rfl ((if0 _ _).trans (feq hc15).2) (by decide) (by decide) ?_
      show Steps p.tables e below (T13.setTop (mkF m 68 #[.val (.int x0), .val (.int v1), .val (.int v2), .val (.int v5), .val (.int v7), .val (.int v10)] [(.int r13)])) _
      refine XS.iconst X13.here hx rfl (hb hby at_68) ?_
      show Steps p.tables e below (T13.setTop (mkF m 69 #[.val (.int x0), .val (.int v1), .val (.int v2), .val (.int v5), .val (.int v7), .val (.int v10)] [(.int (1 : Int32)), (.int r13)])) _
      refine XS.goto X13.here hx rfl (pc0 := 69) (pc' := 73) rfl (hb hby at_69) (by decide) (by decide) ?_
      show Steps p.tables e below (T13.setTop (mkF m 73 #[.val (.int x0), .val (.int v1), .val (.int v2), .val (.int v5), .val (.int v7), .val (.int v10)] [(.int (1 : Int32)), (.int r13)])) _
      rw [show v17 = (1 : Int32) from by rw [hv17, if_neg hc15]] at k
      exact k)
  obtain ⟨v20, hv20⟩ : ∃ z : Int32, z = (if r13 = v17 then (1 : Int32) else (0 : Int32)) := ⟨_, rfl⟩
  have pre21 : ∀ t, Steps p.tables e below (T13.setTop (mkF m 81 #[.val (.int x0), .val (.int v1), .val (.int v2), .val (.int v5), .val (.int v7), .val (.int v10)] [(.int v20)])) t → Steps p.tables e below (s₁.setTop (entryFrame m #[(.int x0)] maxLocals)) t := fun t k => pre18 t (by
    show Steps p.tables e below (T13.setTop (mkF m 73 #[.val (.int x0), .val (.int v1), .val (.int v2), .val (.int v5), .val (.int v7), .val (.int v10)] [(.int v17), (.int r13)])) _
    by_cases hc19 : r13 = v17
    · skip
      refine XS.icmpNo X13.here hx rfl (hb hby at_73) rfl (teq hc19).2 ?_
      show Steps p.tables e below (T13.setTop (mkF m 76 #[.val (.int x0), .val (.int v1), .val (.int v2), .val (.int v5), .val (.int v7), .val (.int v10)] [])) _
      refine XS.iconst X13.here hx rfl (hb hby at_76) ?_
      show Steps p.tables e below (T13.setTop (mkF m 77 #[.val (.int x0), .val (.int v1), .val (.int v2), .val (.int v5), .val (.int v7), .val (.int v10)] [(.int (1 : Int32))])) _
      refine XS.goto X13.here hx rfl (pc0 := 77) (pc' := 81) rfl (hb hby at_77) (by decide) (by decide) ?_
      show Steps p.tables e below (T13.setTop (mkF m 81 #[.val (.int x0), .val (.int v1), .val (.int v2), .val (.int v5), .val (.int v7), .val (.int v10)] [(.int (1 : Int32))])) _
      rw [show v20 = (1 : Int32) from by rw [hv20, if_pos hc19]] at k
      exact k
    · skip
      refine XS.icmpYes X13.here hx rfl (pc0 := 73) (pc' := 80) rfl (hb hby at_73) rfl (feq hc19).2 (by decide) (by decide) ?_
      show Steps p.tables e below (T13.setTop (mkF m 80 #[.val (.int x0), .val (.int v1), .val (.int v2), .val (.int v5), .val (.int v7), .val (.int v10)] [])) _
      refine XS.iconst X13.here hx rfl (hb hby at_80) ?_
      show Steps p.tables e below (T13.setTop (mkF m 81 #[.val (.int x0), .val (.int v1), .val (.int v2), .val (.int v5), .val (.int v7), .val (.int v10)] [(.int (0 : Int32))])) _
      rw [show v20 = (0 : Int32) from by rw [hv20, if_neg hc19]] at k
      exact k)
  obtain rfl : v20 = (1 : Int32) := by exact own_fin x0 v1 v2 v5 v7 v10 r13 v17 v20 hv1 hv2 hv5 hv7 hv10 P13 hv17 hv20
  obtain ⟨fs, hr, hrun, hended, hW, hsame⟩ := X13.leave (v := some (.int (1 : Int32))) (fun h => by rw [Bd.returns] at h; cases h)
  refine ⟨_, _, pre21 _ ?_, hrun, hended, _, _, rfl, ?_, ⟨_, rfl⟩, hW, hsame.mono (by decide) (by decide)⟩
  · show Steps p.tables e below (T13.setTop (mkF m 81 #[.val (.int x0), .val (.int v1), .val (.int v2), .val (.int v5), .val (.int v7), .val (.int v10)] [(.int (1 : Int32))])) _
    exact retN X13 hx (t := .boolean) Bd.returns (by simp) (hb hby at_81) hr
  · show Q0 Z x0 h0 n0 _ T13.heap _
    rw [e13]
    exact ⟨rfl, N13⟩
set_option maxRecDepth 65536 in
set_option maxHeartbeats 40000000 in
theorem comes_1 {Post : Tables → Env → Array Value → State → Outcome → State → Prop} (hpost : ∀ tb e args s v u, (limb_1_1.after args s (.returned v) u = true ∧ limb_1_2.after args s (.returned v) u = true ∧ True) → FrameEnd s (.returned v) u (Jvm.fieldLocs frame_1_writes args s ++ Jvm.arrayLocs frame_1_arrays args s ++ Jvm.staticLocs frame_1_statics s) 0 0 → Post tb e args s (.returned v) u) :
    ArmFor flags0 classFile x code maxLocals ret World_1 tables_1 room_1 Calls_1 rest_1 Pre_1 Post := by
  intro l hfl _ _ p e ha hc hk s m args below hf hA hF happ hP
  obtain ⟨hcalls, hrest, hpre⟩ := hP
  obtain ⟨-, -, -, hnamed, -, -, -, hat⟩ := (Spec.applies_iff hf).mp happ
  obtain ⟨hg, hn⟩ := and_e (Cond.before_iff.mp (show (Jvm.Cond.and given_1 narrow_1).before args s = true from hpre))
  obtain ⟨hcount, hg0⟩ := and_e hg
  have ha0 := hg0
  obtain ⟨w0, rfl⟩ : ∃ w0 : Value, args = #[w0] := by
    have hs : args.size = 1 := by simpa [Cond.value, given_1] using hcount
    obtain ⟨L⟩ := args
    match L, hs with
    | [w0], _ => exact ⟨w0, rfl⟩
  have hw := fun d (hd : d ∈ tables_1) => atoms_spec (ws := Jvm.Cond.code x code maxLocals ret :: tables_1) hat d (List.mem_cons_of_mem _ hd)
  obtain ⟨i0, ei0⟩ := is_v ha0
  obtain rfl : w0 = (.int i0) := Option.some.inj ei0
  obtain ⟨n, o, h1, h2, h3, _, L, rfl, ⟨rfl, N⟩, hq⟩ := rm0 l s _ hw tables_1 i0  s.heap s.heap.size (Nat.le_refl _) p e ha hc hk s m _ below hf ((Spec.applies_iff_loose hf).mp happ).1 ⟨rfl, State.Warmed39.refl s, rfl⟩ trivial
  refine ⟨n, _, h1, h2, h3, hpost _ _ _ _ _ _ ⟨Cond.after_iff.mpr rfl, Cond.after_iff.mpr (eq_i res_at (Term.int_eval (1)) rfl), trivial⟩ ⟨hq.1, hq.2.1, (hq.2.2.sift fun y hy => Or.inr (N y hy)).mono (by decide) (by decide)⟩⟩
theorem main_1_1 : Claimed_1_1 := comes_1 fun _ _ _ _ _ _ h hF => ⟨h.1, hF⟩
theorem main_1_2 : Claimed_1_2 := comes_1 fun _ _ _ _ _ _ h hF => ⟨h.2.1, hF⟩
end Jvm.Pilot.@@N@@
namespace Jvm.Pilot.@@N@@
open Jvm Jvm.ClassFile Sem Op Lib Jvm.Free Jvm.Stand Jvm.Pilot.@@N@@.Jvm.D
/-! MADE BY PROGRAM (witnessworld.py) out of the Statement's table words and the real class files: 9 classes; the members and pool entries that the words name. The judged class is class 1, her method 1. -/
namespace start1
open Jvm.ClassFile
def u (s : String) : CpInfo := .utf8 (stringToUtf16 s)
/-- a pool by its gaps: so many unusable entries, then the entry; so many at the end -/
def gap : Nat → List CpInfo → List CpInfo
  | 0, r => r
  | n + 1, r => .unusable :: gap n r
def poolList (es : List (Nat × CpInfo)) (last : Nat) : List CpInfo := es.foldr (fun e r => gap e.1 (e.2 :: r)) (gap last [])
def pool (es : List (Nat × CpInfo)) (last : Nat) : Array CpInfo := ⟨poolList es last⟩
def fileOf (pool : Array CpInfo) (this : Nat) (attrs : Array Attribute := #[]) (ms : Array MethodInfo := #[]) (fl : Nat := 33) (sup : Nat := 0) (ifs : Array Nat := #[]) (fds : Array FieldInfo := #[]) : ClassFile where
  minorVersion := 0
  majorVersion := 65
  constantPool := pool
  accessFlags := fl
  thisClass := this
  superClass := sup
  interfaces := ifs
  fields := fds
  methods := ms
  attributes := attrs
def plain (name : String) (sup : Option ClassId) : Class where
  name := name
  kind := .ordinary
  loader := none
  accessFlags := 33
  super := sup
  interfaces := #[]
  cf := none
  fields := #[]
  methods := #[]
  instanceTypes := #[]
  staticTypes := #[]
  resolved := #[]
  callSites := []
  init := .initialized
  statics := none
  mirror := none

def pool0 : Array CpInfo := pool [(5, u "<init>"), (0, u "()V"), (1, .class_ 10), (1, u "java/lang/Object")] 113

def k0m0 : Method := { name := "<init>", desc := "()V", sig := { parameters := [], returnType := none }, accessFlags := 1, code := none }
/-- java/lang/Object -/
def k0 : Class := { plain "java/lang/Object" none with
  accessFlags := 33
  interfaces := #[]
  cf := some (fileOf pool0 8 #[] #[{ accessFlags := 1, nameIndex := 5, descriptorIndex := 6, attributes := #[] }] 33 0 #[] #[])
  fields := #[]
  methods := #[k0m0]
  instanceTypes := #[]
  staticTypes := #[]
  resolved := Array.replicate 124 none
  statics := none }

def pool1 : Array CpInfo := pool [(2, .class_ 4), (1, u "java/lang/Object"), (0, u "<init>"), (0, u "()V"), (0, .integer 65535), (0, .methodref 9 10), (0, .class_ 11), (0, .nameAndType 12 13), (0, u "com/example/circlet/circlet/HttpReader"), (0, u "isAsciiLetterOrDigit"), (0, u "(C)Z"), (0, .class_ 15), (0, u "com/example/circlet/circlet/HttpReaderIsAsciiLetterOrDigitPinLaw"), (2, u "law"), (0, u "(I)Z")] 3

def k1m0 : Method := { name := "<init>", desc := "()V", sig := { parameters := [], returnType := none }, accessFlags := 2, code := none }
def k1c1 : Code := { maxStack := 2, maxLocals := 6, code := code, exceptionTable := #[], attributes := #[] }
def k1m1 : Method := { name := "law", desc := "(I)Z", sig := { parameters := [.int], returnType := some .boolean }, accessFlags := 9, code := some k1c1 }
/-- com/example/circlet/circlet/HttpReaderIsAsciiLetterOrDigitPinLaw -/
def k1 : Class := { plain "com/example/circlet/circlet/HttpReaderIsAsciiLetterOrDigitPinLaw" (some 0) with
  accessFlags := 49
  interfaces := #[]
  cf := some (fileOf pool1 14 #[] #[{ accessFlags := 2, nameIndex := 5, descriptorIndex := 6, attributes := #[] }, { accessFlags := 9, nameIndex := 18, descriptorIndex := 19, attributes := #[] }] 49 2 #[] #[])
  fields := #[]
  methods := #[k1m0, k1m1]
  instanceTypes := #[]
  staticTypes := #[]
  resolved := Array.replicate 23 none
  statics := none }

def pool2 : Array CpInfo := pool [(2, .class_ 4), (1, u "com/example/circlet/circlet/HttpReader"), (3, .class_ 10), (1, u "java/lang/Object"), (2, .class_ 15), (1, u "com/example/circlet/circlet/HttpReader$Part"), (1, u "Lcom/example/circlet/circlet/HttpReader$Part;"), (2, u "part"), (2, u "start"), (0, u "[B"), (2, u "lines"), (0, u "I"), (5, u "headers"), (0, u "Ljava/util/List;"), (4, u "length"), (0, u "J"), (2, u "body"), (2, u "kind"), (0, u "Ljava/lang/String;"), (2, u "room"), (0, u "Lcom/example/circlet/circlet/Room;"), (6, u "startLine"), (56, u "chunked"), (0, u "Z"), (2, u "closes"), (5, u "limit"), (5, u "tooLarge"), (2, u "remaining"), (46, u "noRoom"), (2, u "held"), (7, u "received"), (2, u "kept"), (119, u "started"), (43, u "isAsciiLetterOrDigit"), (0, u "(C)Z"), (13, u "MAX_LINE"), (2, u "MAX_HEAD_LINES"), (1, u "FIRST_ROOM")] 66

def k2c0 : Code := { maxStack := 2, maxLocals := 1, code := prog_38_method_30_code, exceptionTable := #[], attributes := #[] }
def k2m0 : Method := { name := "isAsciiLetterOrDigit", desc := "(C)Z", sig := { parameters := [.char], returnType := some .boolean }, accessFlags := 8, code := some k2c0 }
/-- com/example/circlet/circlet/HttpReader -/
def k2 : Class := { plain "com/example/circlet/circlet/HttpReader" (some 0) with
  accessFlags := 48
  interfaces := #[]
  cf := some (fileOf pool2 2 #[.nestMembers #[13]] #[{ accessFlags := 8, nameIndex := 360, descriptorIndex := 361, attributes := #[] }] 48 8 #[] #[{ accessFlags := 24, nameIndex := 375, descriptorIndex := 28, attributes := #[] }, { accessFlags := 24, nameIndex := 378, descriptorIndex := 28, attributes := #[] }, { accessFlags := 26, nameIndex := 380, descriptorIndex := 28, attributes := #[] }, { accessFlags := 18, nameIndex := 47, descriptorIndex := 48, attributes := #[] }, { accessFlags := 18, nameIndex := 51, descriptorIndex := 52, attributes := #[] }, { accessFlags := 2, nameIndex := 185, descriptorIndex := 41, attributes := #[] }, { accessFlags := 2, nameIndex := 182, descriptorIndex := 117, attributes := #[] }, { accessFlags := 2, nameIndex := 20, descriptorIndex := 17, attributes := #[] }, { accessFlags := 2, nameIndex := 23, descriptorIndex := 24, attributes := #[] }, { accessFlags := 2, nameIndex := 316, descriptorIndex := 28, attributes := #[] }, { accessFlags := 2, nameIndex := 27, descriptorIndex := 28, attributes := #[] }, { accessFlags := 2, nameIndex := 59, descriptorIndex := 48, attributes := #[] }, { accessFlags := 18, nameIndex := 34, descriptorIndex := 35, attributes := #[] }, { accessFlags := 2, nameIndex := 40, descriptorIndex := 41, attributes := #[] }, { accessFlags := 2, nameIndex := 116, descriptorIndex := 117, attributes := #[] }, { accessFlags := 2, nameIndex := 120, descriptorIndex := 117, attributes := #[] }, { accessFlags := 2, nameIndex := 126, descriptorIndex := 28, attributes := #[] }, { accessFlags := 2, nameIndex := 132, descriptorIndex := 117, attributes := #[] }, { accessFlags := 2, nameIndex := 135, descriptorIndex := 41, attributes := #[] }, { accessFlags := 2, nameIndex := 193, descriptorIndex := 41, attributes := #[] }, { accessFlags := 2, nameIndex := 44, descriptorIndex := 24, attributes := #[] }, { accessFlags := 2, nameIndex := 196, descriptorIndex := 28, attributes := #[] }])
  fields := #[{ name := "MAX_LINE", type := .int, accessFlags := 24, slot := 0, constantValue := 0 }, { name := "MAX_HEAD_LINES", type := .int, accessFlags := 24, slot := 1, constantValue := 0 }, { name := "FIRST_ROOM", type := .int, accessFlags := 26, slot := 2, constantValue := 0 }, { name := "kind", type := (.object "java/lang/String"), accessFlags := 18, slot := 0, constantValue := 0 }, { name := "room", type := (.object "com/example/circlet/circlet/Room"), accessFlags := 18, slot := 1, constantValue := 0 }, { name := "held", type := .long, accessFlags := 2, slot := 2, constantValue := 0 }, { name := "noRoom", type := .boolean, accessFlags := 2, slot := 3, constantValue := 0 }, { name := "part", type := (.object "com/example/circlet/circlet/HttpReader$Part"), accessFlags := 2, slot := 4, constantValue := 0 }, { name := "start", type := (.array .byte), accessFlags := 2, slot := 5, constantValue := 0 }, { name := "started", type := .int, accessFlags := 2, slot := 6, constantValue := 0 }, { name := "lines", type := .int, accessFlags := 2, slot := 7, constantValue := 0 }, { name := "startLine", type := (.object "java/lang/String"), accessFlags := 2, slot := 8, constantValue := 0 }, { name := "headers", type := (.object "java/util/List"), accessFlags := 18, slot := 9, constantValue := 0 }, { name := "length", type := .long, accessFlags := 2, slot := 10, constantValue := 0 }, { name := "chunked", type := .boolean, accessFlags := 2, slot := 11, constantValue := 0 }, { name := "closes", type := .boolean, accessFlags := 2, slot := 12, constantValue := 0 }, { name := "limit", type := .int, accessFlags := 2, slot := 13, constantValue := 0 }, { name := "tooLarge", type := .boolean, accessFlags := 2, slot := 14, constantValue := 0 }, { name := "remaining", type := .long, accessFlags := 2, slot := 15, constantValue := 0 }, { name := "received", type := .long, accessFlags := 2, slot := 16, constantValue := 0 }, { name := "body", type := (.array .byte), accessFlags := 2, slot := 17, constantValue := 0 }, { name := "kept", type := .int, accessFlags := 2, slot := 18, constantValue := 0 }]
  methods := #[k2m0]
  instanceTypes := #[(.object "java/lang/String"), (.object "com/example/circlet/circlet/Room"), .long, .boolean, (.object "com/example/circlet/circlet/HttpReader$Part"), (.array .byte), .int, .int, (.object "java/lang/String"), (.object "java/util/List"), .long, .boolean, .boolean, .int, .boolean, .long, .long, (.array .byte), .int]
  staticTypes := #[.int, .int, .int]
  resolved := Array.replicate 447 none
  statics := none }

def pool3 : Array CpInfo := pool [(1, u "java/lang/Cloneable"), (0, .class_ 1), (0, u "java/lang/Object"), (0, .class_ 3)] 3

/-- java/lang/Cloneable -/
def k3 : Class := { plain "java/lang/Cloneable" (some 0) with
  accessFlags := 1537
  interfaces := #[]
  cf := some (fileOf pool3 2 #[] #[] 1537 4 #[] #[])
  fields := #[]
  methods := #[]
  instanceTypes := #[]
  staticTypes := #[]
  resolved := Array.replicate 8 none
  statics := none }

def pool4 : Array CpInfo := pool [(1, u "java/io/Serializable"), (0, .class_ 1), (0, u "java/lang/Object"), (0, .class_ 3)] 3

/-- java/io/Serializable -/
def k4 : Class := { plain "java/io/Serializable" (some 0) with
  accessFlags := 1537
  interfaces := #[]
  cf := some (fileOf pool4 2 #[] #[] 1537 4 #[] #[])
  fields := #[]
  methods := #[]
  instanceTypes := #[]
  staticTypes := #[]
  resolved := Array.replicate 8 none
  statics := none }

/-- the primitive byte -/
def k5 : Class := { plain "byte" none with kind := .primitive 'B', accessFlags := 0x411 }
/-- [B -/
def k6 : Class := { plain "[B" (some 0) with kind := .array 5 .byte, interfaces := #[3, 4], accessFlags := 1041 }

/-- the primitive int -/
def k7 : Class := { plain "int" none with kind := .primitive 'I', accessFlags := 0x411 }
/-- [I -/
def k8 : Class := { plain "[I" (some 0) with kind := .array 7 .int, interfaces := #[3, 4], accessFlags := 1041 }

def heap : Heap := #[]
def classes : Array Class := #[k0, k1, k2, k3, k4, k5, k6, k7, k8]
def interned : List (Array UInt16 × Addr) := []
def slotsUsed : Nat := 0
def theMethod : MethodId := ⟨1, 1⟩
def args0 : Array Value := #[.int 70]
def aboutOver (below : List Frame) : State where
  vm := { classes := classes, interned := interned.toArray }
  heap := heap
  slotsUsed := slotsUsed
  threads := #[{ frames := .invoking theMethod args0 :: below }]
def below0 : List Frame := [.native { method := ⟨0, 0⟩, args := #[] }]
def about1 : State := aboutOver below0
def p0 : Program := .bare "" "" ""
def e0 : Env := launch0.env 0 0 0
theorem w_frames : about1.frames = Frame.invoking theMethod args0 :: below0 := rfl
set_option maxRecDepth 65536 in
theorem w_args : argsFit about1.vm theMethod args0 = true := by decide +kernel
set_option maxRecDepth 65536 in
theorem w_heap : heapFits about1 = true := by decide +kernel
set_option maxRecDepth 65536 in
theorem w_runnable : about1.curStatus? = some .runnable := by decide +kernel
set_option maxRecDepth 65536 in
theorem w_alone : about1.alone = true := by decide +kernel
set_option maxRecDepth 65536 in
theorem w_named : about1.methodNamed? x = some theMethod := by decide +kernel
set_option maxRecDepth 65536 in
theorem w_hears : about1.hears theMethod below0 = true := by decide +kernel
set_option maxRecDepth 65536 in
theorem w_ripe : about1.ripe theMethod args0 below0 = true := by decide +kernel
theorem w_running : about1.status = .running := rfl
set_option maxRecDepth 65536 in
theorem w_room : about1.hasRoom e0.platform room_1 = true :=
  launch0.hasRoom_least _ room_1 (by decide +kernel) (by decide +kernel) (by decide +kernel) (by decide +kernel) (by decide +kernel) (by decide +kernel)
theorem allAtoms_all (ts : List Jvm.Cond) (a : Array Jvm.Value) (st : Jvm.State) : (allAtoms ts).before a st = ts.all (fun c => c.before a st) := by
  induction ts with
  | nil => rfl
  | cons c t ih =>
    show (Jvm.Cond.and c (allAtoms t)).before a st = _
    rw [Jvm.Cond.before_and, ih, List.all_cons]
def words1 : List Jvm.Cond := Jvm.Cond.code x code maxLocals ret :: tables_1
/-- a 'code' word, met by the world's own term for the bytes: nothing is compared byte by byte -/
theorem code_word {y : MethodName} {bytes : ByteArray} {mx : Nat} {rt : Option FieldType} {a : Array Value} {s : State} {m : MethodId} {meth : Method} {c : Code} (h1 : s.methodNamed? y = some m) (h2 : s.vm.method? m = some meth) (h3 : meth.code = some c) (h4 : c.code = bytes)
    (h5 : (c.maxLocals == mx && c.exceptionTable.isEmpty && decide (c.maxStack ≤ mostOperands) && decide (meth.sig.returnType = rt) && !meth.locks && decide (parseMethodDescriptor y.desc = some meth.sig)) = true) : (Jvm.Cond.code y bytes mx rt).before a s = true := by
  simp only [Bool.and_eq_true, beq_iff_eq, Bool.not_eq_true', decide_eq_true_eq] at h5
  obtain ⟨⟨⟨⟨⟨g1, g2⟩, g3⟩, g4⟩, g5⟩, g6⟩ := h5
  simp [Cond.before, Cond.holds, Cond.value, h1, h2, h3, h4, g1, g2, g3, g4, g5, g6]
def isCode : Jvm.Cond → Bool
  | .code _ _ _ _ => true
  | _ => false
theorem all_split {L : List Jvm.Cond} {P : Jvm.Cond → Bool} (h1 : L.all (fun c => isCode c || P c) = true) (h2 : ∀ c ∈ L.filter isCode, P c = true) : L.all P = true := by
  refine List.all_eq_true.mpr fun c hc => ?_
  have h := List.all_eq_true.mp h1 c hc
  rcases Bool.eq_false_or_eq_true (isCode c) with hi | hi
  · exact h2 c (List.mem_filter.mpr ⟨hc, hi⟩)
  · simpa [hi] using h
set_option maxRecDepth 65536 in
theorem w_c0 : (Jvm.Cond.code x code maxLocals ret).before args0 about1 = true := code_word (m := ⟨1, 1⟩) (meth := k1m1) (c := k1c1) (by decide +kernel) rfl rfl rfl (by decide +kernel)
set_option maxRecDepth 65536 in
theorem w_c1 : (Jvm.Cond.code ({ cls := "com/example/circlet/circlet/HttpReader", name := "isAsciiLetterOrDigit", desc := "(C)Z" } : Jvm.MethodName) prog_38_method_30_code (1 : Nat) (Option.some Jvm.ClassFile.FieldType.boolean)).before args0 about1 = true := code_word (m := ⟨2, 0⟩) (meth := k2m0) (c := k2c0) (by decide +kernel) rfl rfl rfl (by decide +kernel)
def codes1 : List Jvm.Cond := [Jvm.Cond.code x code maxLocals ret, Jvm.Cond.code ({ cls := "com/example/circlet/circlet/HttpReader", name := "isAsciiLetterOrDigit", desc := "(C)Z" } : Jvm.MethodName) prog_38_method_30_code (1 : Nat) (Option.some Jvm.ClassFile.FieldType.boolean)]
set_option maxRecDepth 65536 in
theorem codes_eq : words1.filter isCode = codes1 := rfl
theorem w_codes : ∀ c ∈ words1.filter isCode, c.before args0 about1 = true := by
  rw [codes_eq]
  intro c hc
  simp only [codes1, List.mem_cons, List.not_mem_nil, or_false] at hc
  rcases hc with rfl | rfl
  · exact w_c0
  · exact w_c1
set_option maxRecDepth 65536 in
theorem w_t1 : words1.all (fun c => isCode c || c.before args0 about1) = true := by decide +kernel
theorem w_tables : (allAtoms (Jvm.Cond.code x code maxLocals ret :: tables_1)).before args0 about1 = true := by
  rw [allAtoms_all]
  show words1.all (fun c => c.before args0 about1) = true
  refine all_split ?_ w_codes
  rw [w_t1]
set_option maxRecDepth 65536 in
theorem w_case : (Jvm.Cond.and given_1 narrow_1).before args0 about1 = true := by decide +kernel
theorem w_applies : (headSpec (Jvm.Cond.code x code maxLocals ret :: tables_1) room_1).applies x e0.platform about1 = true :=
  (Spec.applies_iff w_frames).mpr ⟨w_running, w_runnable, w_alone, w_named, w_hears, w_ripe, w_room, w_tables⟩
theorem atStart : AtStart classFile x code maxLocals ret World_1 tables_1 room_1 Calls_1 rest_1 Pre_1 launch0 p0 e0 about1 theMethod args0 below0 :=
  ⟨lists_1, trivial, launch0.admits_env _ _ _, launch0.least_env, fairChoices_fair.cas, fairChoices_fair.clock, w_frames, w_args, w_heap, w_applies, trivial, trivial, w_case⟩
end start1
theorem witness_1 : WitnessClaimed_1 := ⟨start1.p0, start1.e0, start1.about1, start1.theMethod, start1.args0, start1.below0, start1.atStart⟩
end Jvm.Pilot.@@N@@
