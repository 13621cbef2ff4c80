import JvmDerived
import JvmDerived.Pilot.@@N@@Statement
import JvmDerived.Pilot.@@N@@Code
set_option linter.unusedVariables false
set_option linter.unusedSimpArgs false
namespace Jvm.RoadKit
open Sem ClassFile Op Lib Jvm.Stand Jvm.Free Jvm.LawKit
section New
variable {p : Program} {l : Launch} {e : Env} {R : Room} {s : State} {m : MethodId} {args : Array Value} {below : List Frame} {meth : Method} {c : Code} {T : State} {locs : List Loc} {cells slots : Nat}
theorem retI (X : Stand p l e R s m args below meth c T locs cells slots) (hx : p.tables.exec = Jvm.exec) {pc : Nat} {Ls : Array Slot} {z : Int32} {rest : List Value} (hret : meth.sig.returnType = some .int) (hd : decode c.code pc = .ok (.ireturn, 1)) {fs : List Frame}
    (hl : ∀ (f : JFrame) (acts : List Action), f.method = m → f.locked = none → f.entered = [] → (doReturn e (T.setTop f) acts (some (.int z))).1 = T.setFrames fs) : Steps p.tables e below (T.setTop (mkF m pc Ls (.int z :: rest))) (T.setFrames fs) := by
  have hm' : T.vm.method? m = some meth := X.method'
  have hn : narrow .int (.int z) = .int z := rfl
  show Steps p.tables e below (T.setTop { method := m, pc := pc, locals := Ls, stack := _ :: rest, locked := none }) _
  jvm_step X.here [X.here.top, hx, hd, hm', hret, hn]
  first | (intro acts; rw [hl _ acts rfl rfl rfl]) | rw [hl _ _ rfl rfl rfl]
  exact Steps.refl _
end New
end Jvm.RoadKit
namespace Jvm.Pilot.@@N@@
open Jvm Jvm.ClassFile Sem Op Lib Jvm.Free Jvm.Stand Jvm.LawKit Jvm.RoadKit Bundle Jvm.Pilot.@@N@@.Jvm.D
def F1 (x0 : Int32) : Int64 := (if x0 < (5 : Int32) then (12 : Int64) else (44 : Int64))
theorem pn_0 : plainName "com/example/tidemark/tidemark/LogFormat" = true := by first | (simp [plainName, overriddenIn]; done) | decide +kernel
theorem d1_0 : decode prog_25_method_5_code 0 = .ok (.iload_n 0, 1) := by decide +kernel
theorem d1_1 : decode prog_25_method_5_code 1 = .ok (.iconst 5, 1) := by decide +kernel
theorem d1_2 : decode prog_25_method_5_code 2 = .ok (.if_icmp .lt 9, 3) := by decide +kernel
theorem d1_5 : decode prog_25_method_5_code 5 = .ok (.ldc2_w 105, 3) := by decide +kernel
theorem d1_8 : decode prog_25_method_5_code 8 = .ok (.goto 6, 3) := by decide +kernel
theorem d1_11 : decode prog_25_method_5_code 11 = .ok (.ldc2_w 23, 3) := by decide +kernel
theorem d1_14 : decode prog_25_method_5_code 14 = .ok (.lreturn, 1) := by decide +kernel
theorem ef_1 (m : MethodId) (x0 : Int32) : entryFrame m #[(.int x0)] 1 = mkF m 0 #[.val (.int x0)] [] := by first | (simp [entryFrame, mkF, argsToLocals, Value.category]; done) | rfl
def Q1 (Z : State) (x0 : Int32) (h0 : Heap) (n0 : Nat) (v : Option Value) (h : Heap) (L : List Loc) : Prop := ∃ z : Int64, v = some (.long z) ∧ Fr n0 L ∧ h = h0 ∧ z = F1 x0
set_option maxRecDepth 65536 in
set_option maxHeartbeats 40000000 in
theorem rm1 (l : Launch) (Z : State) (a0 : Array Value) (hw : ∀ d ∈ tables_1, d.before a0 Z = true) (ws : List Jvm.Cond) (x0 : Int32) (h0 : Heap) (n0 : Nat) (Z0 : n0 ≤ h0.size) :
    MetFree l (⟨"com/example/tidemark/tidemark/LogFormat", "firstFrame", "(I)J"⟩ : MethodName) (head1 (Jvm.Cond.code (⟨"com/example/tidemark/tidemark/LogFormat", "firstFrame", "(I)J"⟩ : MethodName) prog_25_method_5_code 1 (some .long) :: ws) ({ frames := 0, cells := 0, slots := 0, locals := 0 } : Room)) (fun a U => a = #[(.int x0)] ∧ Z.Warmed39 U.vm ∧ U.heap = h0) (fun _ _ _ _ _ => True) (fun _ U o U' => ∃ v L, o = .returned v ∧ Q1 Z x0 h0 n0 v U'.heap L ∧ FrameEnd U o U' L ({ frames := 0, cells := 0, slots := 0, locals := 0 } : Room).cells ({ frames := 0, cells := 0, slots := 0, locals := 0 } : Room).slots) := by
  refine MetFree.of_bodySF (plainFor_of_name pn_0) hisR ?_
  intro p e s m args below meth c s₁ Bd hml0 hP hK
  obtain ⟨rfl, hZ, hh⟩ := hP
  have hx := Bd.exec
  have hby := Bd.bytes
  have hml : c.maxLocals = 1 := hml0
  have hown : s.vm.findClass "com/example/tidemark/tidemark/LogFormat" = some m.cls := findClass_of_methodNamed Bd.named
  have hnm := (name_of_methodNamed Bd.named Bd.method).1
  have X0 : Stand p l e ({ frames := 0, cells := 0, slots := 0, locals := 0 } : Room) s m #[(.int x0)] below meth c s₁ [] 0 0 := Stand.of_body Bd
  have e0 : s₁.heap = h0 := by rw [← hh, Bd.state]; rfl
  have N0 := Fr.nil n0
  have pre0 : ∀ t, Steps p.tables e below (s₁.setTop (mkF m 0 #[.val (.int x0)] [])) t → Steps p.tables e below (s₁.setTop (entryFrame m #[(.int x0)] 1)) t := fun t k => castTop (ef_1 m x0) k
  obtain ⟨v2, hv2⟩ : ∃ z : Int64, z = (if x0 < (5 : Int32) then (12 : Int64) else (44 : Int64)) := ⟨_, rfl⟩
  have pre3 : ∀ t, Steps p.tables e below (s₁.setTop (mkF m 14 #[.val (.int x0)] [(.long v2)])) t → Steps p.tables e below (s₁.setTop (entryFrame m #[(.int x0)] 1)) t := fun t k => pre0 t (by
    show Steps p.tables e below (s₁.setTop (mkF m 0 #[.val (.int x0)] [])) _
    refine XS.iloadN X0.here hx rfl (hb hby d1_0) rfl ?_
    show Steps p.tables e below (s₁.setTop (mkF m 1 #[.val (.int x0)] [(.int x0)])) _
    refine XS.iconst X0.here hx rfl (hb hby d1_1) ?_
    show Steps p.tables e below (s₁.setTop (mkF m 2 #[.val (.int x0)] [(.int (5 : Int32)), (.int x0)])) _
    by_cases hc1 : x0 < (5 : Int32)
    · skip
      refine XS.icmpYes X0.here hx rfl (pc0 := 2) (pc' := 11) rfl (hb hby d1_2) rfl (tlt hc1).1 (by decide) (by decide) ?_
      show Steps p.tables e below (s₁.setTop (mkF m 11 #[.val (.int x0)] [])) _
      refine X0.ldc2Long hx hown (mvT hZ (hw _ (List.mem_of_getElem? (i := 5) rfl))) (g := (mkF m 11 #[.val (.int x0)] [])) rfl (hb hby d1_11) _ ?_
      show Steps p.tables e below (s₁.setTop (mkF m 14 #[.val (.int x0)] [(.long (12 : Int64))])) _
      rw [show v2 = (12 : Int64) from by rw [hv2, if_pos hc1]] at k
      exact k
    · skip
      refine XS.icmpNo X0.here hx rfl (hb hby d1_2) rfl (flt hc1).1 ?_
      show Steps p.tables e below (s₁.setTop (mkF m 5 #[.val (.int x0)] [])) _
      refine X0.ldc2Long hx hown (mvT hZ (hw _ (List.mem_of_getElem? (i := 7) rfl))) (g := (mkF m 5 #[.val (.int x0)] [])) rfl (hb hby d1_5) _ ?_
      show Steps p.tables e below (s₁.setTop (mkF m 8 #[.val (.int x0)] [(.long (44 : Int64))])) _
      refine XS.goto X0.here hx rfl (pc0 := 8) (pc' := 14) rfl (hb hby d1_8) (by decide) (by decide) ?_
      show Steps p.tables e below (s₁.setTop (mkF m 14 #[.val (.int x0)] [(.long (44 : Int64))])) _
      rw [show v2 = (44 : Int64) from by rw [hv2, if_neg hc1]] at k
      exact k)
  obtain ⟨fs, hr, hrun, hended, hW, hsame⟩ := X0.leave (v := some (.long v2)) (fun h => by rw [Bd.returns] at h; cases h)
  refine ⟨_, _, pre3 _ ?_, hrun, hended, _, _, rfl, ?_, ⟨_, rfl⟩, hW, hsame.mono (by decide) (by decide)⟩
  · show Steps p.tables e below (s₁.setTop (mkF m 14 #[.val (.int x0)] [(.long v2)])) _
    exact X0.lreturnOut hx Bd.returns (hb hby d1_14) hr
  · show Q1 Z x0 h0 n0 _ s₁.heap _
    rw [e0]
    exact ⟨_, rfl, N0, rfl, by subst hv2; rw [F1]⟩
theorem pd_0 : parseMethodDescriptor "(I)J" = some ⟨[.int], some .long⟩ := by decide +kernel
set_option maxHeartbeats 8000000 in
theorem own_fin (x0 : Int32) (v1 : Int32) (r3 : Int64) (v6 : Int64) (v9 : Int32) (hv1 : v1 = ((1 : Int32) + ((x0 &&& (2147483647 : Int32)) % (5 : Int32)))) (P3 : r3 = F1 v1) (hv6 : v6 = (if v1 = (5 : Int32) then (44 : Int64) else (12 : Int64))) (hv9 : v9 = (if r3 = v6 then (1 : Int32) else (0 : Int32))) : v9 = (1 : Int32) := by
  have h1 := c_mask x0 2147483647 31 (by decide) (by decide)
  have h2 := c_irem (x0 &&& 2147483647) 5 5 (by decide)
  have h3 := c_iadd 1 ((x0 &&& 2147483647) % 5)
  have h4 := rng32 v1
  rw [← hv1] at h3
  have e1 : (1 : Int32).toInt = 1 := by decide
  have hb : v1.toInt ≤ 5 := by omega
  subst P3 hv6
  rw [hv9, if_pos]
  unfold F1
  by_cases h : v1 = 5
  · subst h; decide
  · rw [if_pos, if_neg h]
    rw [Int32.lt_iff_toInt_lt]
    have : v1.toInt ≠ 5 := fun q => h (Int32.toInt_inj.mp q)
    show v1.toInt < 5
    omega
theorem pn_1 : plainName "com/example/tidemark/tidemark/LogFormatFirstFramePinLaw" = true := by first | (simp [plainName, overriddenIn]; done) | decide +kernel
theorem ef_0 (m : MethodId) (x0 : Int32) : entryFrame m #[(.int x0)] maxLocals = mkF m 0 #[.val (.int x0), .unset, .unset, .unset, .unset, .unset] [] := by first | (simp [entryFrame, mkF, argsToLocals, Value.category, maxLocals]; done) | rfl
def Q0 (Z : State) (x0 : Int32) (h0 : Heap) (n0 : Nat) (v : Option Value) (h : Heap) (L : List Loc) : Prop := v = some (.int 1) ∧ Fr n0 L
set_option maxRecDepth 65536 in
set_option maxHeartbeats 40000000 in
theorem rm0 (l : Launch) (Z : State) (a0 : Array Value) (hw : ∀ d ∈ tables_1, d.before a0 Z = true) (ws : List Jvm.Cond) (x0 : Int32) (h0 : Heap) (n0 : Nat) (Z0 : n0 ≤ h0.size) :
    MetFree l x (head1 (Jvm.Cond.code x code maxLocals ret :: ws) room_1) (fun a U => a = #[(.int x0)] ∧ Z.Warmed39 U.vm ∧ U.heap = h0) (fun _ _ _ _ _ => True) (fun _ U o U' => ∃ v L, o = .returned v ∧ Q0 Z x0 h0 n0 v U'.heap L ∧ FrameEnd U o U' L room_1.cells room_1.slots) := by
  refine MetFree.of_bodySF (plainFor_of_name pn_1) hisR ?_
  intro p e s m args below meth c s₁ Bd hml0 hP hK
  obtain ⟨rfl, hZ, hh⟩ := hP
  have hx := Bd.exec
  have hby := Bd.bytes
  have hml : c.maxLocals = 6 := hml0
  have hown : s.vm.findClass "com/example/tidemark/tidemark/LogFormatFirstFramePinLaw" = some m.cls := findClass_of_methodNamed Bd.named
  have hnm := (name_of_methodNamed Bd.named Bd.method).1
  have X0 : Stand p l e room_1 s m #[(.int x0)] below meth c s₁ [] 0 0 := Stand.of_body Bd
  have e0 : s₁.heap = h0 := by rw [← hh, Bd.state]; rfl
  have N0 := Fr.nil n0
  have pre0 : ∀ t, Steps p.tables e below (s₁.setTop (mkF m 0 #[.val (.int x0), .unset, .unset, .unset, .unset, .unset] [])) t → Steps p.tables e below (s₁.setTop (entryFrame m #[(.int x0)] maxLocals)) t := fun t k => castTop (ef_0 m x0) k
  obtain ⟨v1, hv1⟩ : ∃ z : Int32, z = ((1 : Int32) + ((x0 &&& (2147483647 : Int32)) % (5 : Int32))) := ⟨_, rfl⟩
  have pre2 : ∀ t, Steps p.tables e below (s₁.setTop (mkF m 10 #[.val (.int x0), .val (.int v1), .unset, .unset, .unset, .unset] [(.int v1)])) t → Steps p.tables e below (s₁.setTop (entryFrame m #[(.int x0)] maxLocals)) t := fun t k => pre0 t (by
    subst hv1
    show Steps p.tables e below (s₁.setTop (mkF m 0 #[.val (.int x0), .unset, .unset, .unset, .unset, .unset] [])) _
    refine XS.iconst X0.here hx rfl (hb hby at_0) ?_
    show Steps p.tables e below (s₁.setTop (mkF m 1 #[.val (.int x0), .unset, .unset, .unset, .unset, .unset] [(.int (1 : Int32))])) _
    refine XS.iloadN X0.here hx rfl (hb hby at_1) rfl ?_
    show Steps p.tables e below (s₁.setTop (mkF m 2 #[.val (.int x0), .unset, .unset, .unset, .unset, .unset] [(.int x0), (.int (1 : Int32))])) _
    refine X0.ldcInt hx hown (mvT hZ (hw _ (List.mem_of_getElem? (i := 0) rfl))) (g := (mkF m 2 #[.val (.int x0), .unset, .unset, .unset, .unset, .unset] [(.int x0), (.int (1 : Int32))])) rfl (hb hby at_2) _ ?_
    show Steps p.tables e below (s₁.setTop (mkF m 4 #[.val (.int x0), .unset, .unset, .unset, .unset, .unset] [(.int (2147483647 : Int32)), (.int x0), (.int (1 : Int32))])) _
    refine XS.iand X0.here hx rfl (hb hby at_4) rfl ?_
    show Steps p.tables e below (s₁.setTop (mkF m 5 #[.val (.int x0), .unset, .unset, .unset, .unset, .unset] [(.int (x0 &&& (2147483647 : Int32))), (.int (1 : Int32))])) _
    refine XS.iconst X0.here hx rfl (hb hby at_5) ?_
    show Steps p.tables e below (s₁.setTop (mkF m 6 #[.val (.int x0), .unset, .unset, .unset, .unset, .unset] [(.int (5 : Int32)), (.int (x0 &&& (2147483647 : Int32))), (.int (1 : Int32))])) _
    refine iremM X0 hx rfl (hb hby at_6) rfl (by decide) ?_
    show Steps p.tables e below (s₁.setTop (mkF m 7 #[.val (.int x0), .unset, .unset, .unset, .unset, .unset] [(.int ((x0 &&& (2147483647 : Int32)) % (5 : Int32))), (.int (1 : Int32))])) _
    refine XS.iadd X0.here hx rfl (hb hby at_7) rfl ?_
    show Steps p.tables e below (s₁.setTop (mkF m 8 #[.val (.int x0), .unset, .unset, .unset, .unset, .unset] [(.int ((1 : Int32) + ((x0 &&& (2147483647 : Int32)) % (5 : Int32))))])) _
    refine XS.istoreN X0.here hx rfl (hb hby at_8) rfl (l' := #[.val (.int x0), .val (.int ((1 : Int32) + ((x0 &&& (2147483647 : Int32)) % (5 : Int32)))), .unset, .unset, .unset, .unset]) rfl ?_
    show Steps p.tables e below (s₁.setTop (mkF m 9 #[.val (.int x0), .val (.int ((1 : Int32) + ((x0 &&& (2147483647 : Int32)) % (5 : Int32)))), .unset, .unset, .unset, .unset] [])) _
    refine XS.iloadN X0.here hx rfl (hb hby at_9) rfl ?_
    show Steps p.tables e below (s₁.setTop (mkF m 10 #[.val (.int x0), .val (.int ((1 : Int32) + ((x0 &&& (2147483647 : Int32)) % (5 : Int32)))), .unset, .unset, .unset, .unset] [(.int ((1 : Int32) + ((x0 &&& (2147483647 : Int32)) % (5 : Int32))))])) _
    exact k)
  obtain ⟨_, _, ⟨T3, L3, k3, n3⟩, -, X3, ⟨Lc3, hQ3, l3, y3, z3⟩, st3⟩ := Jvm.LawKit.callS X0 hx (y := (⟨"com/example/tidemark/tidemark/LogFormat", "firstFrame", "(I)J"⟩ : MethodName)) hown (mvT hZ (hw _ (List.mem_of_getElem? (i := 1) rfl))) (mvT hZ (hw _ (List.mem_of_getElem? (i := 2) rfl))) (mvT hZ (hw _ (List.mem_of_getElem? (i := 3) rfl))) (mvT hZ (hw _ (List.mem_of_getElem? (i := 4) rfl))) (by decide) (backOf (W := 0) (rm1 l Z a0 hw [] v1  h0 n0 Z0 ) hZ (hw _ (List.mem_of_getElem? (i := 4) rfl)) (hw _ (List.mem_of_getElem? (i := 3) rfl)) (by decide) (by decide)) (g := (mkF m 10 #[.val (.int x0), .val (.int v1), .unset, .unset, .unset, .unset] [(.int v1)])) rfl (by rw [hml]; rfl) (argsL := [(.int v1)]) (rest := []) (lenOf pd_0 rfl) rfl (by show 2 * 0 + _ ≤ _; exact Nat.le_of_eq rfl) (hb hby at_10) (fun _ _ => ⟨rfl, e0, (by decide : 0 + 0 ≤ _), (by decide : 0 + 0 ≤ _)⟩)
  dsimp only [Pt.U, Pt.locs, Pt.cells, Pt.slots] at X3 l3 y3 z3 st3 hQ3
  subst l3 y3 z3
  obtain ⟨r3, rfl, N3q, e3, P3⟩ := hQ3
  have N3 := Fr.app N0 N3q
  have pre4 : ∀ t, Steps p.tables e below (T3.setTop (mkF m 13 #[.val (.int x0), .val (.int v1), .unset, .unset, .unset, .unset] [(.long r3)])) t → Steps p.tables e below (s₁.setTop (entryFrame m #[(.int x0)] maxLocals)) t := fun t k => pre2 t (st3 _ k)
  obtain ⟨v6, hv6⟩ : ∃ z : Int64, z = (if v1 = (5 : Int32) then (44 : Int64) else (12 : Int64)) := ⟨_, rfl⟩
  have pre7 : ∀ t, Steps p.tables e below (T3.setTop (mkF m 32 #[.val (.int x0), .val (.int v1), .val (.long r3), .second, .val (.long v6), .second] [])) t → Steps p.tables e below (s₁.setTop (entryFrame m #[(.int x0)] maxLocals)) t := fun t k => pre4 t (by
    show Steps p.tables e below (T3.setTop (mkF m 13 #[.val (.int x0), .val (.int v1), .unset, .unset, .unset, .unset] [(.long r3)])) _
    refine XS.lstoreN X3.here hx rfl (hb hby at_13) rfl (l' := #[.val (.int x0), .val (.int v1), .val (.long r3), .second, .unset, .unset]) rfl ?_
    show Steps p.tables e below (T3.setTop (mkF m 14 #[.val (.int x0), .val (.int v1), .val (.long r3), .second, .unset, .unset] [])) _
    refine XS.iloadN X3.here hx rfl (hb hby at_14) rfl ?_
    show Steps p.tables e below (T3.setTop (mkF m 15 #[.val (.int x0), .val (.int v1), .val (.long r3), .second, .unset, .unset] [(.int v1)])) _
    refine XS.iconst X3.here hx rfl (hb hby at_15) ?_
    show Steps p.tables e below (T3.setTop (mkF m 16 #[.val (.int x0), .val (.int v1), .val (.long r3), .second, .unset, .unset] [(.int (5 : Int32)), (.int v1)])) _
    by_cases hc5 : v1 = (5 : Int32)
    · skip
      refine XS.icmpNo X3.here hx rfl (hb hby at_16) rfl (teq hc5).2 ?_
      show Steps p.tables e below (T3.setTop (mkF m 19 #[.val (.int x0), .val (.int v1), .val (.long r3), .second, .unset, .unset] [])) _
      refine X3.ldc2Long hx hown (mvT hZ (hw _ (List.mem_of_getElem? (i := 8) rfl))) (g := (mkF m 19 #[.val (.int x0), .val (.int v1), .val (.long r3), .second, .unset, .unset] [])) rfl (hb hby at_19) _ ?_
      show Steps p.tables e below (T3.setTop (mkF m 22 #[.val (.int x0), .val (.int v1), .val (.long r3), .second, .unset, .unset] [(.long (44 : Int64))])) _
      refine XS.lstore X3.here hx rfl (hb hby at_22) rfl (l' := #[.val (.int x0), .val (.int v1), .val (.long r3), .second, .val (.long (44 : Int64)), .second]) rfl ?_
      show Steps p.tables e below (T3.setTop (mkF m 24 #[.val (.int x0), .val (.int v1), .val (.long r3), .second, .val (.long (44 : Int64)), .second] [])) _
      refine XS.goto X3.here hx rfl (pc0 := 24) (pc' := 32) rfl (hb hby at_24) (by decide) (by decide) ?_
      show Steps p.tables e below (T3.setTop (mkF m 32 #[.val (.int x0), .val (.int v1), .val (.long r3), .second, .val (.long (44 : Int64)), .second] [])) _
      rw [show v6 = (44 : Int64) from by rw [hv6, if_pos hc5]] at k
      exact k
    · skip
      refine XS.icmpYes X3.here hx rfl (pc0 := 16) (pc' := 27) rfl (hb hby at_16) rfl (feq hc5).2 (by decide) (by decide) ?_
      show Steps p.tables e below (T3.setTop (mkF m 27 #[.val (.int x0), .val (.int v1), .val (.long r3), .second, .unset, .unset] [])) _
      refine X3.ldc2Long hx hown (mvT hZ (hw _ (List.mem_of_getElem? (i := 6) rfl))) (g := (mkF m 27 #[.val (.int x0), .val (.int v1), .val (.long r3), .second, .unset, .unset] [])) rfl (hb hby at_27) _ ?_
      show Steps p.tables e below (T3.setTop (mkF m 30 #[.val (.int x0), .val (.int v1), .val (.long r3), .second, .unset, .unset] [(.long (12 : Int64))])) _
      refine XS.lstore X3.here hx rfl (hb hby at_30) rfl (l' := #[.val (.int x0), .val (.int v1), .val (.long r3), .second, .val (.long (12 : Int64)), .second]) rfl ?_
      show Steps p.tables e below (T3.setTop (mkF m 32 #[.val (.int x0), .val (.int v1), .val (.long r3), .second, .val (.long (12 : Int64)), .second] [])) _
      rw [show v6 = (12 : Int64) from by rw [hv6, if_neg hc5]] at k
      exact k)
  obtain ⟨v9, hv9⟩ : ∃ z : Int32, z = (if r3 = v6 then (1 : Int32) else (0 : Int32)) := ⟨_, rfl⟩
  have pre10 : ∀ t, Steps p.tables e below (T3.setTop (mkF m 44 #[.val (.int x0), .val (.int v1), .val (.long r3), .second, .val (.long v6), .second] [(.int v9)])) t → Steps p.tables e below (s₁.setTop (entryFrame m #[(.int x0)] maxLocals)) t := fun t k => pre7 t (by
    show Steps p.tables e below (T3.setTop (mkF m 32 #[.val (.int x0), .val (.int v1), .val (.long r3), .second, .val (.long v6), .second] [])) _
    refine XS.lloadN X3.here hx rfl (hb hby at_32) rfl ?_
    show Steps p.tables e below (T3.setTop (mkF m 33 #[.val (.int x0), .val (.int v1), .val (.long r3), .second, .val (.long v6), .second] [(.long r3)])) _
    refine XS.lload X3.here hx rfl (hb hby at_33) rfl ?_
    show Steps p.tables e below (T3.setTop (mkF m 35 #[.val (.int x0), .val (.int v1), .val (.long r3), .second, .val (.long v6), .second] [(.long v6), (.long r3)])) _
    refine XS.lcmp X3.here hx rfl (hb hby at_35) rfl ?_
    show Steps p.tables e below (T3.setTop (mkF m 36 #[.val (.int x0), .val (.int v1), .val (.long r3), .second, .val (.long v6), .second] [(.int (lcmpW r3 v6))])) _
    by_cases hc8 : r3 = v6
    · skip
      refine XS.ifNo X3.here hx rfl (hb hby at_36) rfl ((if0 _ _).trans (teq ((lw_eq _ _).mpr hc8)).2) ?_
      show Steps p.tables e below (T3.setTop (mkF m 39 #[.val (.int x0), .val (.int v1), .val (.long r3), .second, .val (.long v6), .second] [])) _
      refine XS.iconst X3.here hx rfl (hb hby at_39) ?_
      show Steps p.tables e below (T3.setTop (mkF m 40 #[.val (.int x0), .val (.int v1), .val (.long r3), .second, .val (.long v6), .second] [(.int (1 : Int32))])) _
      refine XS.goto X3.here hx rfl (pc0 := 40) (pc' := 44) rfl (hb hby at_40) (by decide) (by decide) ?_
      show Steps p.tables e below (T3.setTop (mkF m 44 #[.val (.int x0), .val (.int v1), .val (.long r3), .second, .val (.long v6), .second] [(.int (1 : Int32))])) _
      rw [show v9 = (1 : Int32) from by rw [hv9, if_pos hc8]] at k
      exact k
    · skip
      refine XS.ifYes X3.here hx rfl (pc0 := 36) (pc' := 43) rfl (hb hby at_36) rfl ((if0 _ _).trans (feq (fun q => hc8 ((lw_eq _ _).mp q))).2) (by decide) (by decide) ?_
      show Steps p.tables e below (T3.setTop (mkF m 43 #[.val (.int x0), .val (.int v1), .val (.long r3), .second, .val (.long v6), .second] [])) _
      refine XS.iconst X3.here hx rfl (hb hby at_43) ?_
      show Steps p.tables e below (T3.setTop (mkF m 44 #[.val (.int x0), .val (.int v1), .val (.long r3), .second, .val (.long v6), .second] [(.int (0 : Int32))])) _
      rw [show v9 = (0 : Int32) from by rw [hv9, if_neg hc8]] at k
      exact k)
  obtain rfl : v9 = (1 : Int32) := by exact own_fin x0 v1 r3 v6 v9 hv1 P3 hv6 hv9
  obtain ⟨fs, hr, hrun, hended, hW, hsame⟩ := X3.leave (v := some (.int (1 : Int32))) (fun h => by rw [Bd.returns] at h; cases h)
  refine ⟨_, _, pre10 _ ?_, hrun, hended, _, _, rfl, ?_, ⟨_, rfl⟩, hW, hsame.mono (by decide) (by decide)⟩
  · show Steps p.tables e below (T3.setTop (mkF m 44 #[.val (.int x0), .val (.int v1), .val (.long r3), .second, .val (.long v6), .second] [(.int (1 : Int32))])) _
    exact retN X3 hx (t := .boolean) Bd.returns (by simp) (hb hby at_44) hr
  · show Q0 Z x0 h0 n0 _ T3.heap _
    rw [e3]
    exact ⟨rfl, N3⟩
set_option maxRecDepth 65536 in
set_option maxHeartbeats 40000000 in
theorem comes_1 {Post : Tables → Env → Array Value → State → Outcome → State → Prop} (hpost : ∀ tb e args s v u, (limb_1_1.after args s (.returned v) u = true ∧ limb_1_2.after args s (.returned v) u = true ∧ True) → FrameEnd s (.returned v) u (Jvm.fieldLocs frame_1_writes args s ++ Jvm.arrayLocs frame_1_arrays args s ++ Jvm.staticLocs frame_1_statics s) 0 0 → Post tb e args s (.returned v) u) :
    ArmFor flags0 classFile x code maxLocals ret World_1 tables_1 room_1 Calls_1 rest_1 Pre_1 Post := by
  intro l hfl _ _ p e ha hc hk s m args below hf hA hF happ hP
  obtain ⟨hcalls, hrest, hpre⟩ := hP
  obtain ⟨-, -, -, hnamed, -, -, -, hat⟩ := (Spec.applies_iff hf).mp happ
  obtain ⟨hg, hn⟩ := and_e (Cond.before_iff.mp (show (Jvm.Cond.and given_1 narrow_1).before args s = true from hpre))
  obtain ⟨hcount, hg0⟩ := and_e hg
  have ha0 := hg0
  obtain ⟨w0, rfl⟩ : ∃ w0 : Value, args = #[w0] := by
    have hs : args.size = 1 := by simpa [Cond.value, given_1] using hcount
    obtain ⟨L⟩ := args
    match L, hs with
    | [w0], _ => exact ⟨w0, rfl⟩
  have hw := fun d (hd : d ∈ tables_1) => atoms_spec (ws := Jvm.Cond.code x code maxLocals ret :: tables_1) hat d (List.mem_cons_of_mem _ hd)
  obtain ⟨i0, ei0⟩ := is_v ha0
  obtain rfl : w0 = (.int i0) := Option.some.inj ei0
  obtain ⟨n, o, h1, h2, h3, _, L, rfl, ⟨rfl, N⟩, hq⟩ := rm0 l s _ hw tables_1 i0  s.heap s.heap.size (Nat.le_refl _) p e ha hc hk s m _ below hf ((Spec.applies_iff_loose hf).mp happ).1 ⟨rfl, State.Warmed39.refl s, rfl⟩ trivial
  refine ⟨n, _, h1, h2, h3, hpost _ _ _ _ _ _ ⟨Cond.after_iff.mpr rfl, Cond.after_iff.mpr (eq_i res_at (Term.int_eval (1)) rfl), trivial⟩ ⟨hq.1, hq.2.1, (hq.2.2.sift fun y hy => Or.inr (N y hy)).mono (by decide) (by decide)⟩⟩
theorem main_1_1 : Claimed_1_1 := comes_1 fun _ _ _ _ _ _ h hF => ⟨h.1, hF⟩
theorem main_1_2 : Claimed_1_2 := comes_1 fun _ _ _ _ _ _ h hF => ⟨h.2.1, hF⟩
end Jvm.Pilot.@@N@@
namespace Jvm.Pilot.@@N@@
open Jvm Jvm.ClassFile Sem Op Lib Jvm.Free Jvm.Stand Jvm.Pilot.@@N@@.Jvm.D
/-! MADE BY PROGRAM (witnessworld.py) out of the Statement's table words and the real class files: 9 classes; the members and pool entries that the words name. The judged class is class 1, her method 1. -/
namespace start1
open Jvm.ClassFile
def u (s : String) : CpInfo := .utf8 (stringToUtf16 s)
/-- a pool by its gaps: so many unusable entries, then the entry; so many at the end -/
def gap : Nat → List CpInfo → List CpInfo
  | 0, r => r
  | n + 1, r => .unusable :: gap n r
def poolList (es : List (Nat × CpInfo)) (last : Nat) : List CpInfo := es.foldr (fun e r => gap e.1 (e.2 :: r)) (gap last [])
def pool (es : List (Nat × CpInfo)) (last : Nat) : Array CpInfo := ⟨poolList es last⟩
def fileOf (pool : Array CpInfo) (this : Nat) (attrs : Array Attribute := #[]) (ms : Array MethodInfo := #[]) (fl : Nat := 33) (sup : Nat := 0) (ifs : Array Nat := #[]) (fds : Array FieldInfo := #[]) : ClassFile where
  minorVersion := 0
  majorVersion := 65
  constantPool := pool
  accessFlags := fl
  thisClass := this
  superClass := sup
  interfaces := ifs
  fields := fds
  methods := ms
  attributes := attrs
def plain (name : String) (sup : Option ClassId) : Class where
  name := name
  kind := .ordinary
  loader := none
  accessFlags := 33
  super := sup
  interfaces := #[]
  cf := none
  fields := #[]
  methods := #[]
  instanceTypes := #[]
  staticTypes := #[]
  resolved := #[]
  callSites := []
  init := .initialized
  statics := none
  mirror := none

def pool0 : Array CpInfo := pool [(5, u "<init>"), (0, u "()V"), (1, .class_ 10), (1, u "java/lang/Object")] 113

def k0m0 : Method := { name := "<init>", desc := "()V", sig := { parameters := [], returnType := none }, accessFlags := 1, code := none }
/-- java/lang/Object -/
def k0 : Class := { plain "java/lang/Object" none with
  accessFlags := 33
  interfaces := #[]
  cf := some (fileOf pool0 8 #[] #[{ accessFlags := 1, nameIndex := 5, descriptorIndex := 6, attributes := #[] }] 33 0 #[] #[])
  fields := #[]
  methods := #[k0m0]
  instanceTypes := #[]
  staticTypes := #[]
  resolved := Array.replicate 124 none
  statics := none }

def pool1 : Array CpInfo := pool [(2, .class_ 4), (1, u "java/lang/Object"), (0, u "<init>"), (0, u "()V"), (0, .integer 2147483647), (0, .methodref 9 10), (0, .class_ 11), (0, .nameAndType 12 13), (0, u "com/example/tidemark/tidemark/LogFormat"), (0, u "firstFrame"), (0, u "(I)J"), (0, .long 44), (1, .long 12), (1, .class_ 19), (0, u "com/example/tidemark/tidemark/LogFormatFirstFramePinLaw"), (2, u "law"), (0, u "(I)Z")] 3

def k1m0 : Method := { name := "<init>", desc := "()V", sig := { parameters := [], returnType := none }, accessFlags := 2, code := none }
def k1c1 : Code := { maxStack := 4, maxLocals := 6, code := code, exceptionTable := #[], attributes := #[] }
def k1m1 : Method := { name := "law", desc := "(I)Z", sig := { parameters := [.int], returnType := some .boolean }, accessFlags := 9, code := some k1c1 }
/-- com/example/tidemark/tidemark/LogFormatFirstFramePinLaw -/
def k1 : Class := { plain "com/example/tidemark/tidemark/LogFormatFirstFramePinLaw" (some 0) with
  accessFlags := 49
  interfaces := #[]
  cf := some (fileOf pool1 18 #[] #[{ accessFlags := 2, nameIndex := 5, descriptorIndex := 6, attributes := #[] }, { accessFlags := 9, nameIndex := 22, descriptorIndex := 23, attributes := #[] }] 49 2 #[] #[])
  fields := #[]
  methods := #[k1m0, k1m1]
  instanceTypes := #[]
  staticTypes := #[]
  resolved := Array.replicate 27 none
  statics := none }

def pool2 : Array CpInfo := pool [(6, .class_ 8), (1, u "java/lang/Object"), (0, u "<init>"), (0, u "()V"), (1, .class_ 14), (1, u "com/example/tidemark/tidemark/LogFormat"), (8, .long 12), (19, u "HEADER"), (0, u "[B"), (8, u "MAGIC"), (24, u "firstFrame"), (0, u "(I)J"), (25, .long 44), (53, .class_ 161), (1, u "com/example/tidemark/tidemark/LogFormat$FrameListener"), (15, .class_ 178), (0, u "com/example/tidemark/tidemark/LogFormat$Contents"), (13, .class_ 193), (0, u "com/example/tidemark/tidemark/LogFormat$Frames"), (32, u "J"), (146, u "FILE_NAME"), (0, u "Ljava/lang/String;"), (3, u "COMMITTED_FILE_NAME"), (2, u "UNPUBLISHED"), (0, u "READINGS_FORMAT"), (0, u "I"), (1, u "TIME_JUMPS_FORMAT"), (1, u "COMPACT_FORMAT"), (1, u "ROOM_FORMAT"), (1, u "OPEN_FORMAT"), (1, u "LEAST_ROOM"), (1, u "ROOM_LENGTH"), (1, u "HEADER_LENGTH"), (1, u "BUFFER_SIZE"), (0, u "COMMITTED_LENGTH"), (0, u "COMMITTED_READS"), (1, u "COMMITTED_REREAD_NANOS")] 65

def k2m0 : Method := { name := "<init>", desc := "()V", sig := { parameters := [], returnType := none }, accessFlags := 2, code := none }
def k2c1 : Code := { maxStack := 2, maxLocals := 1, code := prog_25_method_5_code, exceptionTable := #[], attributes := #[] }
def k2m1 : Method := { name := "firstFrame", desc := "(I)J", sig := { parameters := [.int], returnType := some .long }, accessFlags := 8, code := some k2c1 }
/-- com/example/tidemark/tidemark/LogFormat -/
def k2 : Class := { plain "com/example/tidemark/tidemark/LogFormat" (some 0) with
  accessFlags := 48
  interfaces := #[]
  cf := some (fileOf pool2 12 #[.nestMembers #[192, 159, 177]] #[{ accessFlags := 2, nameIndex := 9, descriptorIndex := 10, attributes := #[] }, { accessFlags := 8, nameIndex := 78, descriptorIndex := 79, attributes := #[] }] 48 6 #[] #[{ accessFlags := 24, nameIndex := 373, descriptorIndex := 374, attributes := #[] }, { accessFlags := 24, nameIndex := 378, descriptorIndex := 374, attributes := #[] }, { accessFlags := 24, nameIndex := 381, descriptorIndex := 226, attributes := #[] }, { accessFlags := 24, nameIndex := 382, descriptorIndex := 383, attributes := #[] }, { accessFlags := 24, nameIndex := 385, descriptorIndex := 383, attributes := #[] }, { accessFlags := 24, nameIndex := 387, descriptorIndex := 383, attributes := #[] }, { accessFlags := 24, nameIndex := 389, descriptorIndex := 383, attributes := #[] }, { accessFlags := 24, nameIndex := 391, descriptorIndex := 383, attributes := #[] }, { accessFlags := 24, nameIndex := 393, descriptorIndex := 383, attributes := #[] }, { accessFlags := 24, nameIndex := 395, descriptorIndex := 383, attributes := #[] }, { accessFlags := 24, nameIndex := 397, descriptorIndex := 383, attributes := #[] }, { accessFlags := 24, nameIndex := 399, descriptorIndex := 383, attributes := #[] }, { accessFlags := 26, nameIndex := 53, descriptorIndex := 44, attributes := #[] }, { accessFlags := 26, nameIndex := 43, descriptorIndex := 44, attributes := #[] }, { accessFlags := 26, nameIndex := 400, descriptorIndex := 383, attributes := #[] }, { accessFlags := 26, nameIndex := 401, descriptorIndex := 383, attributes := #[] }, { accessFlags := 26, nameIndex := 403, descriptorIndex := 226, attributes := #[] }])
  fields := #[{ name := "FILE_NAME", type := (.object "java/lang/String"), accessFlags := 24, slot := 0, constantValue := 0 }, { name := "COMMITTED_FILE_NAME", type := (.object "java/lang/String"), accessFlags := 24, slot := 1, constantValue := 0 }, { name := "UNPUBLISHED", type := .long, accessFlags := 24, slot := 2, constantValue := 0 }, { name := "READINGS_FORMAT", type := .int, accessFlags := 24, slot := 3, constantValue := 0 }, { name := "TIME_JUMPS_FORMAT", type := .int, accessFlags := 24, slot := 4, constantValue := 0 }, { name := "COMPACT_FORMAT", type := .int, accessFlags := 24, slot := 5, constantValue := 0 }, { name := "ROOM_FORMAT", type := .int, accessFlags := 24, slot := 6, constantValue := 0 }, { name := "OPEN_FORMAT", type := .int, accessFlags := 24, slot := 7, constantValue := 0 }, { name := "LEAST_ROOM", type := .int, accessFlags := 24, slot := 8, constantValue := 0 }, { name := "ROOM_LENGTH", type := .int, accessFlags := 24, slot := 9, constantValue := 0 }, { name := "HEADER_LENGTH", type := .int, accessFlags := 24, slot := 10, constantValue := 0 }, { name := "BUFFER_SIZE", type := .int, accessFlags := 24, slot := 11, constantValue := 0 }, { name := "MAGIC", type := (.array .byte), accessFlags := 26, slot := 12, constantValue := 0 }, { name := "HEADER", type := (.array .byte), accessFlags := 26, slot := 13, constantValue := 0 }, { name := "COMMITTED_LENGTH", type := .int, accessFlags := 26, slot := 14, constantValue := 0 }, { name := "COMMITTED_READS", type := .int, accessFlags := 26, slot := 15, constantValue := 0 }, { name := "COMMITTED_REREAD_NANOS", type := .long, accessFlags := 26, slot := 16, constantValue := 0 }]
  methods := #[k2m0, k2m1]
  instanceTypes := #[]
  staticTypes := #[(.object "java/lang/String"), (.object "java/lang/String"), .long, .int, .int, .int, .int, .int, .int, .int, .int, .int, (.array .byte), (.array .byte), .int, .int, .long]
  resolved := Array.replicate 469 none
  statics := none }

def pool3 : Array CpInfo := pool [(1, u "java/lang/Cloneable"), (0, .class_ 1), (0, u "java/lang/Object"), (0, .class_ 3)] 3

/-- java/lang/Cloneable -/
def k3 : Class := { plain "java/lang/Cloneable" (some 0) with
  accessFlags := 1537
  interfaces := #[]
  cf := some (fileOf pool3 2 #[] #[] 1537 4 #[] #[])
  fields := #[]
  methods := #[]
  instanceTypes := #[]
  staticTypes := #[]
  resolved := Array.replicate 8 none
  statics := none }

def pool4 : Array CpInfo := pool [(1, u "java/io/Serializable"), (0, .class_ 1), (0, u "java/lang/Object"), (0, .class_ 3)] 3

/-- java/io/Serializable -/
def k4 : Class := { plain "java/io/Serializable" (some 0) with
  accessFlags := 1537
  interfaces := #[]
  cf := some (fileOf pool4 2 #[] #[] 1537 4 #[] #[])
  fields := #[]
  methods := #[]
  instanceTypes := #[]
  staticTypes := #[]
  resolved := Array.replicate 8 none
  statics := none }

/-- the primitive byte -/
def k5 : Class := { plain "byte" none with kind := .primitive 'B', accessFlags := 0x411 }
/-- [B -/
def k6 : Class := { plain "[B" (some 0) with kind := .array 5 .byte, interfaces := #[3, 4], accessFlags := 1041 }

/-- the primitive int -/
def k7 : Class := { plain "int" none with kind := .primitive 'I', accessFlags := 0x411 }
/-- [I -/
def k8 : Class := { plain "[I" (some 0) with kind := .array 7 .int, interfaces := #[3, 4], accessFlags := 1041 }

def heap : Heap := #[]
def classes : Array Class := #[k0, k1, k2, k3, k4, k5, k6, k7, k8]
def interned : List (Array UInt16 × Addr) := []
def slotsUsed : Nat := 0
def theMethod : MethodId := ⟨1, 1⟩
def args0 : Array Value := #[.int 5]
def aboutOver (below : List Frame) : State where
  vm := { classes := classes, interned := interned.toArray }
  heap := heap
  slotsUsed := slotsUsed
  threads := #[{ frames := .invoking theMethod args0 :: below }]
def below0 : List Frame := [.native { method := ⟨0, 0⟩, args := #[] }]
def about1 : State := aboutOver below0
def p0 : Program := .bare "" "" ""
def e0 : Env := launch0.env 0 0 0
theorem w_frames : about1.frames = Frame.invoking theMethod args0 :: below0 := rfl
set_option maxRecDepth 65536 in
theorem w_args : argsFit about1.vm theMethod args0 = true := by decide +kernel
set_option maxRecDepth 65536 in
theorem w_heap : heapFits about1 = true := by decide +kernel
set_option maxRecDepth 65536 in
theorem w_runnable : about1.curStatus? = some .runnable := by decide +kernel
set_option maxRecDepth 65536 in
theorem w_alone : about1.alone = true := by decide +kernel
set_option maxRecDepth 65536 in
theorem w_named : about1.methodNamed? x = some theMethod := by decide +kernel
set_option maxRecDepth 65536 in
theorem w_hears : about1.hears theMethod below0 = true := by decide +kernel
set_option maxRecDepth 65536 in
theorem w_ripe : about1.ripe theMethod args0 below0 = true := by decide +kernel
theorem w_running : about1.status = .running := rfl
set_option maxRecDepth 65536 in
theorem w_room : about1.hasRoom e0.platform room_1 = true :=
  launch0.hasRoom_least _ room_1 (by decide +kernel) (by decide +kernel) (by decide +kernel) (by decide +kernel) (by decide +kernel) (by decide +kernel)
theorem allAtoms_all (ts : List Jvm.Cond) (a : Array Jvm.Value) (st : Jvm.State) : (allAtoms ts).before a st = ts.all (fun c => c.before a st) := by
  induction ts with
  | nil => rfl
  | cons c t ih =>
    show (Jvm.Cond.and c (allAtoms t)).before a st = _
    rw [Jvm.Cond.before_and, ih, List.all_cons]
def words1 : List Jvm.Cond := Jvm.Cond.code x code maxLocals ret :: tables_1
/-- a 'code' word, met by the world's own term for the bytes: nothing is compared byte by byte -/
theorem code_word {y : MethodName} {bytes : ByteArray} {mx : Nat} {rt : Option FieldType} {a : Array Value} {s : State} {m : MethodId} {meth : Method} {c : Code} (h1 : s.methodNamed? y = some m) (h2 : s.vm.method? m = some meth) (h3 : meth.code = some c) (h4 : c.code = bytes)
    (h5 : (c.maxLocals == mx && c.exceptionTable.isEmpty && decide (c.maxStack ≤ mostOperands) && decide (meth.sig.returnType = rt) && !meth.locks && decide (parseMethodDescriptor y.desc = some meth.sig)) = true) : (Jvm.Cond.code y bytes mx rt).before a s = true := by
  simp only [Bool.and_eq_true, beq_iff_eq, Bool.not_eq_true', decide_eq_true_eq] at h5
  obtain ⟨⟨⟨⟨⟨g1, g2⟩, g3⟩, g4⟩, g5⟩, g6⟩ := h5
  simp [Cond.before, Cond.holds, Cond.value, h1, h2, h3, h4, g1, g2, g3, g4, g5, g6]
def isCode : Jvm.Cond → Bool
  | .code _ _ _ _ => true
  | _ => false
theorem all_split {L : List Jvm.Cond} {P : Jvm.Cond → Bool} (h1 : L.all (fun c => isCode c || P c) = true) (h2 : ∀ c ∈ L.filter isCode, P c = true) : L.all P = true := by
  refine List.all_eq_true.mpr fun c hc => ?_
  have h := List.all_eq_true.mp h1 c hc
  rcases Bool.eq_false_or_eq_true (isCode c) with hi | hi
  · exact h2 c (List.mem_filter.mpr ⟨hc, hi⟩)
  · simpa [hi] using h
set_option maxRecDepth 65536 in
theorem w_c0 : (Jvm.Cond.code x code maxLocals ret).before args0 about1 = true := code_word (m := ⟨1, 1⟩) (meth := k1m1) (c := k1c1) (by decide +kernel) rfl rfl rfl (by decide +kernel)
set_option maxRecDepth 65536 in
theorem w_c1 : (Jvm.Cond.code ({ cls := "com/example/tidemark/tidemark/LogFormat", name := "firstFrame", desc := "(I)J" } : Jvm.MethodName) prog_25_method_5_code (1 : Nat) (Option.some Jvm.ClassFile.FieldType.long)).before args0 about1 = true := code_word (m := ⟨2, 1⟩) (meth := k2m1) (c := k2c1) (by decide +kernel) rfl rfl rfl (by decide +kernel)
def codes1 : List Jvm.Cond := [Jvm.Cond.code x code maxLocals ret, Jvm.Cond.code ({ cls := "com/example/tidemark/tidemark/LogFormat", name := "firstFrame", desc := "(I)J" } : Jvm.MethodName) prog_25_method_5_code (1 : Nat) (Option.some Jvm.ClassFile.FieldType.long)]
set_option maxRecDepth 65536 in
theorem codes_eq : words1.filter isCode = codes1 := rfl
theorem w_codes : ∀ c ∈ words1.filter isCode, c.before args0 about1 = true := by
  rw [codes_eq]
  intro c hc
  simp only [codes1, List.mem_cons, List.not_mem_nil, or_false] at hc
  rcases hc with rfl | rfl
  · exact w_c0
  · exact w_c1
set_option maxRecDepth 65536 in
theorem w_t1 : words1.all (fun c => isCode c || c.before args0 about1) = true := by decide +kernel
theorem w_tables : (allAtoms (Jvm.Cond.code x code maxLocals ret :: tables_1)).before args0 about1 = true := by
  rw [allAtoms_all]
  show words1.all (fun c => c.before args0 about1) = true
  refine all_split ?_ w_codes
  rw [w_t1]
set_option maxRecDepth 65536 in
theorem w_case : (Jvm.Cond.and given_1 narrow_1).before args0 about1 = true := by decide +kernel
theorem w_applies : (headSpec (Jvm.Cond.code x code maxLocals ret :: tables_1) room_1).applies x e0.platform about1 = true :=
  (Spec.applies_iff w_frames).mpr ⟨w_running, w_runnable, w_alone, w_named, w_hears, w_ripe, w_room, w_tables⟩
theorem atStart : AtStart classFile x code maxLocals ret World_1 tables_1 room_1 Calls_1 rest_1 Pre_1 launch0 p0 e0 about1 theMethod args0 below0 :=
  ⟨lists_1, trivial, launch0.admits_env _ _ _, launch0.least_env, fairChoices_fair.cas, fairChoices_fair.clock, w_frames, w_args, w_heap, w_applies, trivial, trivial, w_case⟩
end start1
theorem witness_1 : WitnessClaimed_1 := ⟨start1.p0, start1.e0, start1.about1, start1.theMethod, start1.args0, start1.below0, start1.atStart⟩
end Jvm.Pilot.@@N@@
