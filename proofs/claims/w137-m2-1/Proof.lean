import JvmDerived
import JvmDerived.Pilot.@@N@@Statement
import JvmDerived.Pilot.@@N@@Code
set_option linter.unusedVariables false
set_option linter.unusedSimpArgs false
namespace Jvm.RoadKit
open Sem ClassFile Op Lib Jvm.Stand Jvm.Free Jvm.LawKit
section New
variable {p : Program} {l : Launch} {e : Env} {R : Room} {s : State} {m : MethodId} {args : Array Value} {below : List Frame} {meth : Method} {c : Code} {T : State} {locs : List Loc} {cells slots : Nat}
theorem retI (X : Stand p l e R s m args below meth c T locs cells slots) (hx : p.tables.exec = Jvm.exec) {pc : Nat} {Ls : Array Slot} {z : Int32} {rest : List Value} (hret : meth.sig.returnType = some .int) (hd : decode c.code pc = .ok (.ireturn, 1)) {fs : List Frame}
    (hl : ∀ (f : JFrame) (acts : List Action), f.method = m → f.locked = none → f.entered = [] → (doReturn e (T.setTop f) acts (some (.int z))).1 = T.setFrames fs) : Steps p.tables e below (T.setTop (mkF m pc Ls (.int z :: rest))) (T.setFrames fs) := by
  have hm' : T.vm.method? m = some meth := X.method'
  have hn : narrow .int (.int z) = .int z := rfl
  show Steps p.tables e below (T.setTop { method := m, pc := pc, locals := Ls, stack := _ :: rest, locked := none }) _
  jvm_step X.here [X.here.top, hx, hd, hm', hret, hn]
  first | (intro acts; rw [hl _ acts rfl rfl rfl]) | rw [hl _ _ rfl rfl rfl]
  exact Steps.refl _
end New
end Jvm.RoadKit
namespace Jvm.Pilot.@@N@@
open Jvm Jvm.ClassFile Sem Op Lib Jvm.Free Jvm.Stand Jvm.LawKit Jvm.RoadKit Bundle Jvm.Pilot.@@N@@.Jvm.D
theorem own_sta {Z : State} {h h' : Heap} {a : Addr} {C n d C' : String} {v : Value} (F : Sta Z h C n d v) (K : Keep h h' [a]) (E : Exa Z h a C') : Sta Z h' C n d v := by
  obtain ⟨cf, i, k, f, st, cell, h1, h2, h3, h4, h5, h6, h7⟩ := F
  obtain ⟨c2, k2, e1, e2, e3, e4, e5⟩ := E
  have ne : st ≠ a := by
    intro q
    subst q
    cases h5.symm.trans e1
    rw [h6] at e4; cases e4
  exact ⟨cf, i, k, f, st, cell, h1, h2, h3, h4, K.2.1 st cell h5 (ninS ne nin0), h6, h7⟩
theorem own_01 {P : Prop} [Decidable P] {v : Int32} (h : v = if P then (0 : Int32) else (1 : Int32)) : v = 0 ∨ v = 1 := by
  split at h
  · exact Or.inl h
  · exact Or.inr h
theorem own_k (x v : Int32) (h : v = (x &&& (3 : Int32))) : v = 0 ∨ v = 1 ∨ v = 2 ∨ v = 3 := by
  have a := c_mask x 3 2 (by decide) (by decide)
  rw [← h] at a
  have : v.toInt = 0 ∨ v.toInt = 1 ∨ v.toInt = 2 ∨ v.toInt = 3 := by omega
  rcases this with q | q | q | q
  · exact Or.inl (Int32.toInt_inj.mp q)
  · exact Or.inr (Or.inl (Int32.toInt_inj.mp q))
  · exact Or.inr (Or.inr (Or.inl (Int32.toInt_inj.mp q)))
  · exact Or.inr (Or.inr (Or.inr (Int32.toInt_inj.mp q)))
def F1 (x0 : Int32) (x1 : Int32) : Int32 := (if x1 < x0 then x1 else x0)
theorem d1_0 : decode jdk_29_method_69_code 0 = .ok (.iload_n 0, 1) := by decide +kernel
theorem d1_1 : decode jdk_29_method_69_code 1 = .ok (.iload_n 1, 1) := by decide +kernel
theorem d1_2 : decode jdk_29_method_69_code 2 = .ok (.if_icmp .gt 7, 3) := by decide +kernel
theorem d1_5 : decode jdk_29_method_69_code 5 = .ok (.iload_n 0, 1) := by decide +kernel
theorem d1_6 : decode jdk_29_method_69_code 6 = .ok (.goto 4, 3) := by decide +kernel
theorem d1_9 : decode jdk_29_method_69_code 9 = .ok (.iload_n 1, 1) := by decide +kernel
theorem d1_10 : decode jdk_29_method_69_code 10 = .ok (.ireturn, 1) := by decide +kernel
theorem ef_1 (m : MethodId) (x0 : Int32) (x1 : Int32) : entryFrame m #[(.int x0), (.int x1)] 2 = mkF m 0 #[.val (.int x0), .val (.int x1)] [] := by first | (simp [entryFrame, mkF, argsToLocals, Value.category]; done) | rfl
def Q1 (Z : State) (x0 : Int32) (x1 : Int32) (h0 : Heap) (n0 : Nat) (v : Option Value) (h : Heap) (L : List Loc) : Prop := ∃ z : Int32, v = some (.int z) ∧ Fr n0 L ∧ h = h0 ∧ z = F1 x0 x1
set_option maxRecDepth 65536 in
set_option maxHeartbeats 40000000 in
theorem rm1 (l : Launch) (Z : State) (a0 : Array Value) (hw : ∀ d ∈ tables_1, d.before a0 Z = true) (ws : List Jvm.Cond) (x0 : Int32) (x1 : Int32) (h0 : Heap) (n0 : Nat) (Z0 : n0 ≤ h0.size) :
    MetFree l (⟨"java/lang/Math", "min", "(II)I"⟩ : MethodName) (head1 (Jvm.Cond.code (⟨"java/lang/Math", "min", "(II)I"⟩ : MethodName) jdk_29_method_69_code 2 (some .int) :: ws) ({ frames := 0, cells := 0, slots := 0, locals := 0 } : Room)) (fun aa U => aa = #[(.int x0), (.int x1)] ∧ Z.Warmed39 U.vm ∧ U.heap = h0) (fun _ _ _ _ _ => True) (fun _ U o U' => ∃ v L, o = .returned v ∧ Q1 Z x0 x1 h0 n0 v U'.heap L ∧ FrameEnd U o U' L ({ frames := 0, cells := 0, slots := 0, locals := 0 } : Room).cells ({ frames := 0, cells := 0, slots := 0, locals := 0 } : Room).slots) := by
  refine MetFree.of_bodySF (Jvm.Free.JP.mathPlain rfl (by decide +kernel)) hisR ?_
  intro p e s m args below meth c s₁ Bd hml0 hP hK
  obtain ⟨rfl, hZ, hh⟩ := hP
  have hx := Bd.exec
  have hby := Bd.bytes
  have hml : c.maxLocals = 2 := hml0
  have hown : s.vm.findClass "java/lang/Math" = some m.cls := findClass_of_methodNamed Bd.named
  have hnm := (name_of_methodNamed Bd.named Bd.method).1
  have X0 : Stand p l e ({ frames := 0, cells := 0, slots := 0, locals := 0 } : Room) s m #[(.int x0), (.int x1)] below meth c s₁ [] 0 0 := Stand.of_body Bd
  have e0 : s₁.heap = h0 := by rw [← hh, Bd.state]; rfl
  have N0 := Fr.nil n0
  have pre0 : ∀ t, Steps p.tables e below (s₁.setTop (mkF m 0 #[.val (.int x0), .val (.int x1)] [])) t → Steps p.tables e below (s₁.setTop (entryFrame m #[(.int x0), (.int x1)] 2)) t := fun t k => castTop (ef_1 m x0 x1) k
  obtain ⟨v2, hv2⟩ : ∃ z : Int32, z = (if x1 < x0 then x1 else x0) := ⟨_, rfl⟩
  have pre3 : ∀ t, Steps p.tables e below (s₁.setTop (mkF m 10 #[.val (.int x0), .val (.int x1)] [(.int v2)])) t → Steps p.tables e below (s₁.setTop (entryFrame m #[(.int x0), (.int x1)] 2)) t := fun t k => pre0 t (by
    show Steps p.tables e below (s₁.setTop (mkF m 0 #[.val (.int x0), .val (.int x1)] [])) _
    refine XS.iloadN X0.here hx rfl (hb hby d1_0) rfl ?_
    show Steps p.tables e below (s₁.setTop (mkF m 1 #[.val (.int x0), .val (.int x1)] [(.int x0)])) _
    refine XS.iloadN X0.here hx rfl (hb hby d1_1) rfl ?_
    show Steps p.tables e below (s₁.setTop (mkF m 2 #[.val (.int x0), .val (.int x1)] [(.int x1), (.int x0)])) _
    by_cases hc1 : x1 < x0
    · skip
      refine XS.icmpYes X0.here hx rfl (pc0 := 2) (pc' := 9) rfl (hb hby d1_2) rfl (tlt hc1).2.2.1 (by decide) (by decide) ?_
      show Steps p.tables e below (s₁.setTop (mkF m 9 #[.val (.int x0), .val (.int x1)] [])) _
      refine XS.iloadN X0.here hx rfl (hb hby d1_9) rfl ?_
      show Steps p.tables e below (s₁.setTop (mkF m 10 #[.val (.int x0), .val (.int x1)] [(.int x1)])) _
      rw [show v2 = x1 from by rw [hv2, if_pos hc1]] at k
      exact k
    · skip
      refine XS.icmpNo X0.here hx rfl (hb hby d1_2) rfl (flt hc1).2.2.1 ?_
      show Steps p.tables e below (s₁.setTop (mkF m 5 #[.val (.int x0), .val (.int x1)] [])) _
      refine XS.iloadN X0.here hx rfl (hb hby d1_5) rfl ?_
      show Steps p.tables e below (s₁.setTop (mkF m 6 #[.val (.int x0), .val (.int x1)] [(.int x0)])) _
      refine XS.goto X0.here hx rfl (pc0 := 6) (pc' := 10) rfl (hb hby d1_6) (by decide) (by decide) ?_
      show Steps p.tables e below (s₁.setTop (mkF m 10 #[.val (.int x0), .val (.int x1)] [(.int x0)])) _
      rw [show v2 = x0 from by rw [hv2, if_neg hc1]] at k
      exact k)
  obtain ⟨fs, hr, hrun, hended, hW, hsame⟩ := X0.leave (v := some (.int v2)) (fun h => by rw [Bd.returns] at h; cases h)
  refine ⟨_, _, pre3 _ ?_, hrun, hended, _, _, rfl, ?_, ⟨_, rfl⟩, hW, hsame.mono (by decide) (by decide)⟩
  · show Steps p.tables e below (s₁.setTop (mkF m 10 #[.val (.int x0), .val (.int x1)] [(.int v2)])) _
    exact retI X0 hx Bd.returns (hb hby d1_10) hr
  · show Q1 Z x0 x1 h0 n0 _ s₁.heap _
    rw [e0]
    exact ⟨_, rfl, N0, rfl, by subst hv2; rw [F1]⟩
theorem pn_0 : plainName "java/util/AbstractCollection" = true := by first | (simp [plainName, overriddenIn]; done) | decide +kernel
theorem d6_0 : decode jdk_22_method_1_code 0 = .ok (.aload_n 0, 1) := by decide +kernel
theorem d6_1 : decode jdk_22_method_1_code 1 = .ok (.invokespecial 1, 3) := by decide +kernel
theorem d6_4 : decode jdk_22_method_1_code 4 = .ok (.return_, 1) := by decide +kernel
theorem ef_6 (m : MethodId) (x0 : Addr) : entryFrame m #[(.ref x0)] 1 = mkF m 0 #[.val (.ref x0)] [] := by first | (simp [entryFrame, mkF, argsToLocals, Value.category]; done) | rfl
def Q6 (Z : State) (a : Addr) (h0 : Heap) (n0 : Nat) (v : Option Value) (h : Heap) (L : List Loc) : Prop := v = none ∧ Fr n0 L ∧ h = h0
set_option maxRecDepth 65536 in
set_option maxHeartbeats 40000000 in
theorem rm6 (l : Launch) (Z : State) (a0 : Array Value) (hw : ∀ d ∈ tables_1, d.before a0 Z = true) (ws : List Jvm.Cond) (a : Addr) (h0 : Heap) (n0 : Nat) (Z0 : n0 ≤ h0.size) :
    MetFree l (⟨"java/util/AbstractCollection", "<init>", "()V"⟩ : MethodName) (head1 (Jvm.Cond.code (⟨"java/util/AbstractCollection", "<init>", "()V"⟩ : MethodName) jdk_22_method_1_code 1 none :: ws) ({ frames := 1, cells := 0, slots := 0, locals := 12 } : Room)) (fun aa U => aa = #[(.ref a)] ∧ Z.Warmed39 U.vm ∧ U.heap = h0) (fun _ _ _ _ _ => True) (fun _ U o U' => ∃ v L, o = .returned v ∧ Q6 Z a h0 n0 v U'.heap L ∧ FrameEnd U o U' L ({ frames := 1, cells := 0, slots := 0, locals := 12 } : Room).cells ({ frames := 1, cells := 0, slots := 0, locals := 12 } : Room).slots) := by
  refine MetFree.of_bodySF (plainFor_of_name pn_0) hisR ?_
  intro p e s m args below meth c s₁ Bd hml0 hP hK
  obtain ⟨rfl, hZ, hh⟩ := hP
  have hx := Bd.exec
  have hby := Bd.bytes
  have hml : c.maxLocals = 1 := hml0
  have hown : s.vm.findClass "java/util/AbstractCollection" = some m.cls := findClass_of_methodNamed Bd.named
  have hnm := (name_of_methodNamed Bd.named Bd.method).1
  have X0 : Stand p l e ({ frames := 1, cells := 0, slots := 0, locals := 12 } : Room) s m #[(.ref a)] below meth c s₁ [] 0 0 := Stand.of_body Bd
  have e0 : s₁.heap = h0 := by rw [← hh, Bd.state]; rfl
  have N0 := Fr.nil n0
  have pre0 : ∀ t, Steps p.tables e below (s₁.setTop (mkF m 0 #[.val (.ref a)] [])) t → Steps p.tables e below (s₁.setTop (entryFrame m #[(.ref a)] 1)) t := fun t k => castTop (ef_6 m a) k
  have pre1 : ∀ t, Steps p.tables e below (s₁.setTop (mkF m 1 #[.val (.ref a)] [(.ref a)])) t → Steps p.tables e below (s₁.setTop (entryFrame m #[(.ref a)] 1)) t := fun t k => pre0 t (by
    show Steps p.tables e below (s₁.setTop (mkF m 0 #[.val (.ref a)] [])) _
    refine XS.aloadN X0.here hx rfl (hb hby d6_0) rfl rfl ?_
    show Steps p.tables e below (s₁.setTop (mkF m 1 #[.val (.ref a)] [(.ref a)])) _
    exact k)
  obtain ⟨T2, X2, e2, st2⟩ := initO X0 hx hZ hown (hw _ (List.mem_of_getElem? (i := 31) rfl)) (hw _ (List.mem_of_getElem? (i := 11) rfl)) (hw _ (List.mem_of_getElem? (i := 12) rfl)) e0 (g := (mkF m 1 #[.val (.ref a)] [(.ref a)])) rfl (by rw [hml]; rfl) rfl (hb hby d6_1) (by decide) (W := 0) (by show 2 * 0 + _ ≤ _; exact Nat.le_of_eq rfl) (by decide)
  have pre3 : ∀ t, Steps p.tables e below (T2.setTop (mkF m 4 #[.val (.ref a)] [])) t → Steps p.tables e below (s₁.setTop (entryFrame m #[(.ref a)] 1)) t := fun t k => pre1 t (st2 _ k)
  obtain ⟨fs, hr, hrun, hended, hW, hsame⟩ := X2.leave (v := none) (fun _ => rfl)
  refine ⟨_, _, pre3 _ ?_, hrun, hended, _, _, rfl, ?_, ⟨_, rfl⟩, hW, hsame.mono (by decide) (by decide)⟩
  · show Steps p.tables e below (T2.setTop (mkF m 4 #[.val (.ref a)] [])) _
    exact X2.returnOut hx Bd.returns (hb hby d6_4) hr
  · show Q6 Z a h0 n0 _ T2.heap _
    rw [e2]
    exact ⟨rfl, N0, rfl⟩
theorem pd_0 : parseMethodDescriptor "()V" = some ⟨[], none⟩ := by decide +kernel
theorem pn_1 : plainName "java/util/AbstractList" = true := by first | (simp [plainName, overriddenIn]; done) | decide +kernel
theorem d5_0 : decode jdk_39_method_1_code 0 = .ok (.aload_n 0, 1) := by decide +kernel
theorem d5_1 : decode jdk_39_method_1_code 1 = .ok (.invokespecial 1, 3) := by decide +kernel
theorem d5_4 : decode jdk_39_method_1_code 4 = .ok (.aload_n 0, 1) := by decide +kernel
theorem d5_5 : decode jdk_39_method_1_code 5 = .ok (.iconst 0, 1) := by decide +kernel
theorem d5_6 : decode jdk_39_method_1_code 6 = .ok (.putfield 7, 3) := by decide +kernel
theorem d5_9 : decode jdk_39_method_1_code 9 = .ok (.return_, 1) := by decide +kernel
theorem ef_5 (m : MethodId) (x0 : Addr) : entryFrame m #[(.ref x0)] 1 = mkF m 0 #[.val (.ref x0)] [] := by first | (simp [entryFrame, mkF, argsToLocals, Value.category]; done) | rfl
def Q5 (Z : State) (a : Addr) (h0 : Heap) (n0 : Nat) (v : Option Value) (h : Heap) (L : List Loc) : Prop := v = none ∧ Fr n0 L ∧ Keep h0 h [a] ∧ Exa Z h a "java/util/ArrayList" ∧ Fld Z h a "java/util/AbstractList" "modCount" "I" (.int (0 : Int32)) ∧ Fld Z h a "java/util/ArrayList" "elementData" "[Ljava/lang/Object;" .null
set_option maxRecDepth 65536 in
set_option maxHeartbeats 40000000 in
theorem rm5 (l : Launch) (Z : State) (a0 : Array Value) (hw : ∀ d ∈ tables_1, d.before a0 Z = true) (ws : List Jvm.Cond) (a : Addr) (h0 : Heap) (n0 : Nat) (Z0 : n0 ≤ h0.size) (Ea : Exa Z h0 a "java/util/ArrayList") (F_modCount : Fld Z h0 a "java/util/AbstractList" "modCount" "I" (.int (0 : Int32))) (F_elementData : Fld Z h0 a "java/util/ArrayList" "elementData" "[Ljava/lang/Object;" .null) (ga : n0 ≤ a) :
    MetFree l (⟨"java/util/AbstractList", "<init>", "()V"⟩ : MethodName) (head1 (Jvm.Cond.code (⟨"java/util/AbstractList", "<init>", "()V"⟩ : MethodName) jdk_39_method_1_code 1 none :: ws) ({ frames := 2, cells := 0, slots := 0, locals := 24 } : Room)) (fun aa U => aa = #[(.ref a)] ∧ Z.Warmed39 U.vm ∧ U.heap = h0) (fun _ _ _ _ _ => True) (fun _ U o U' => ∃ v L, o = .returned v ∧ Q5 Z a h0 n0 v U'.heap L ∧ FrameEnd U o U' L ({ frames := 2, cells := 0, slots := 0, locals := 24 } : Room).cells ({ frames := 2, cells := 0, slots := 0, locals := 24 } : Room).slots) := by
  refine MetFree.of_bodySF (plainFor_of_name pn_1) hisR ?_
  intro p e s m args below meth c s₁ Bd hml0 hP hK
  obtain ⟨rfl, hZ, hh⟩ := hP
  have hx := Bd.exec
  have hby := Bd.bytes
  have hml : c.maxLocals = 1 := hml0
  have hown : s.vm.findClass "java/util/AbstractList" = some m.cls := findClass_of_methodNamed Bd.named
  have hnm := (name_of_methodNamed Bd.named Bd.method).1
  have X0 : Stand p l e ({ frames := 2, cells := 0, slots := 0, locals := 24 } : Room) s m #[(.ref a)] below meth c s₁ [] 0 0 := Stand.of_body Bd
  have e0 : s₁.heap = h0 := by rw [← hh, Bd.state]; rfl
  have N0 := Fr.nil n0
  have pre0 : ∀ t, Steps p.tables e below (s₁.setTop (mkF m 0 #[.val (.ref a)] [])) t → Steps p.tables e below (s₁.setTop (entryFrame m #[(.ref a)] 1)) t := fun t k => castTop (ef_5 m a) k
  have pre1 : ∀ t, Steps p.tables e below (s₁.setTop (mkF m 1 #[.val (.ref a)] [(.ref a)])) t → Steps p.tables e below (s₁.setTop (entryFrame m #[(.ref a)] 1)) t := fun t k => pre0 t (by
    show Steps p.tables e below (s₁.setTop (mkF m 0 #[.val (.ref a)] [])) _
    refine XS.aloadN X0.here hx rfl (hb hby d5_0) rfl rfl ?_
    show Steps p.tables e below (s₁.setTop (mkF m 1 #[.val (.ref a)] [(.ref a)])) _
    exact k)
  obtain ⟨_, _, ⟨T3, L3, k3, n3⟩, -, X3, ⟨Lc3, hQ3, l3, y3, z3⟩, st3⟩ := X0.specialBack hx (y := (⟨"java/util/AbstractCollection", "<init>", "()V"⟩ : MethodName)) rfl hown (mvT hZ (hw _ (List.mem_of_getElem? (i := 25) rfl))) (mvT hZ (hw _ (List.mem_of_getElem? (i := 26) rfl))) (mvT hZ (hw _ (List.mem_of_getElem? (i := 30) rfl))) (by decide) (backOf (W := 0) (rm6 l Z a0 hw [] a  h0 n0 Z0 ) hZ (hw _ (List.mem_of_getElem? (i := 30) rfl)) (hw _ (List.mem_of_getElem? (i := 29) rfl)) (by decide) (by decide)) (g := (mkF m 1 #[.val (.ref a)] [(.ref a)])) rfl (by rw [hml]; rfl) (Steps.refl _) (a := a) (argsL := []) (rest := []) (lenOf pd_0 rfl) rfl (by show 2 * 0 + _ ≤ _; exact Nat.le_of_eq rfl) (hb hby d5_1) (fun _ _ => ⟨rfl, e0, (by decide : 0 + 0 ≤ _), (by decide : 0 + 0 ≤ _)⟩)
  dsimp only [Pt.U, Pt.locs, Pt.cells, Pt.slots] at X3 l3 y3 z3 st3 hQ3
  subst l3 y3 z3
  obtain ⟨rfl, N3q, e3⟩ := hQ3
  have N3 := Fr.app N0 N3q
  have pre4 : ∀ t, Steps p.tables e below (T3.setTop (mkF m 4 #[.val (.ref a)] [])) t → Steps p.tables e below (s₁.setTop (entryFrame m #[(.ref a)] 1)) t := fun t k => pre1 t (st3.trans k)
  have pre5 : ∀ t, Steps p.tables e below (T3.setTop (mkF m 6 #[.val (.ref a)] [(.int (0 : Int32)), (.ref a)])) t → Steps p.tables e below (s₁.setTop (entryFrame m #[(.ref a)] 1)) t := fun t k => pre4 t (by
    show Steps p.tables e below (T3.setTop (mkF m 4 #[.val (.ref a)] [])) _
    refine XS.aloadN X3.here hx rfl (hb hby d5_4) rfl rfl ?_
    show Steps p.tables e below (T3.setTop (mkF m 5 #[.val (.ref a)] [(.ref a)])) _
    refine XS.iconst X3.here hx rfl (hb hby d5_5) ?_
    show Steps p.tables e below (T3.setTop (mkF m 6 #[.val (.ref a)] [(.int (0 : Int32)), (.ref a)])) _
    exact k)
  obtain ⟨T6, h6, X6, e6, W6, st6⟩ := putF X3 hx hZ hown (host := "") (Or.inl (hw _ (List.mem_of_getElem? (i := 32) rfl))) Via.refl e3 F_modCount Ea (Or.inl (hw _ (List.mem_of_getElem? (i := 33) rfl))) (hw _ (List.mem_of_getElem? (i := 14) rfl)) (ty := .int) (by decide) rfl rfl (g := (mkF m 6 #[.val (.ref a)] [(.int (0 : Int32)), (.ref a)])) rfl rfl (hb hby d5_6)
  have Fw6 : Fld Z h6 a "java/util/AbstractList" "modCount" "I" (.int (0 : Int32)) := (F_modCount).same W6
  have c7 := (Ea).wr W6
  have c9 := (F_elementData).other W6 (Or.inr (slot_ne (Or.inl (hw _ (List.mem_of_getElem? (i := 36) rfl))) (Or.inl (hw _ (List.mem_of_getElem? (i := 33) rfl))) (by decide) (t := (.array (.object "java/lang/Object"))) (t' := .int) (by decide) (by decide)))
  have N6 := Fr.snoc X6 N3 ga
  have Zz6 : n0 ≤ h6.size := Nat.le_trans Z0 (Keep.of_wr W6).1
  have pre10 : ∀ t, Steps p.tables e below (T6.setTop (mkF m 9 #[.val (.ref a)] [])) t → Steps p.tables e below (s₁.setTop (entryFrame m #[(.ref a)] 1)) t := fun t k => pre5 t (st6 _ k)
  have Kp6 : Keep h0 h6 [a] := ((Keep.refl h0 [a])).wr W6 (Or.inl (List.mem_of_getElem? (i := 0) rfl))
  obtain ⟨fs, hr, hrun, hended, hW, hsame⟩ := X6.leave (v := none) (fun _ => rfl)
  refine ⟨_, _, pre10 _ ?_, hrun, hended, _, _, rfl, ?_, ⟨_, rfl⟩, hW, hsame.mono (by decide) (by decide)⟩
  · show Steps p.tables e below (T6.setTop (mkF m 9 #[.val (.ref a)] [])) _
    exact X6.returnOut hx Bd.returns (hb hby d5_9) hr
  · show Q5 Z a h0 n0 _ T6.heap _
    rw [e6]
    exact ⟨rfl, N6, Kp6, c7, Fw6, c9⟩
theorem pn_2 : plainName "java/util/ArrayList" = true := by first | (simp [plainName, overriddenIn]; done) | decide +kernel
theorem d4_0 : decode jdk_38_method_2_code 0 = .ok (.aload_n 0, 1) := by decide +kernel
theorem d4_1 : decode jdk_38_method_2_code 1 = .ok (.invokespecial 1, 3) := by decide +kernel
theorem d4_4 : decode jdk_38_method_2_code 4 = .ok (.aload_n 0, 1) := by decide +kernel
theorem d4_5 : decode jdk_38_method_2_code 5 = .ok (.getstatic 39, 3) := by decide +kernel
theorem d4_8 : decode jdk_38_method_2_code 8 = .ok (.putfield 9, 3) := by decide +kernel
theorem d4_11 : decode jdk_38_method_2_code 11 = .ok (.return_, 1) := by decide +kernel
theorem ef_4 (m : MethodId) (x0 : Addr) : entryFrame m #[(.ref x0)] 1 = mkF m 0 #[.val (.ref x0)] [] := by first | (simp [entryFrame, mkF, argsToLocals, Value.category]; done) | rfl
def Q4 (Z : State) (a : Addr) (w_DEFAULTCAPACITY_EMPTY_ELEMENTDATA : Addr) (h0 : Heap) (n0 : Nat) (v : Option Value) (h : Heap) (L : List Loc) : Prop := v = none ∧ Fr n0 L ∧ Keep h0 h [a] ∧ Exa Z h a "java/util/ArrayList"
set_option maxRecDepth 65536 in
set_option maxHeartbeats 40000000 in
theorem rm4 (l : Launch) (Z : State) (a0 : Array Value) (hw : ∀ d ∈ tables_1, d.before a0 Z = true) (ws : List Jvm.Cond) (a : Addr) (w_DEFAULTCAPACITY_EMPTY_ELEMENTDATA : Addr) (h0 : Heap) (n0 : Nat) (Z0 : n0 ≤ h0.size) (Ea : Exa Z h0 a "java/util/ArrayList") (F_modCount : Fld Z h0 a "java/util/AbstractList" "modCount" "I" (.int (0 : Int32))) (F_elementData : Fld Z h0 a "java/util/ArrayList" "elementData" "[Ljava/lang/Object;" .null) (S_DEFAULTCAPACITY_EMPTY_ELEMENTDATA : Sta Z h0 "java/util/ArrayList" "DEFAULTCAPACITY_EMPTY_ELEMENTDATA" "[Ljava/lang/Object;" (.ref w_DEFAULTCAPACITY_EMPTY_ELEMENTDATA)) (ga : n0 ≤ a) :
    MetFree l (⟨"java/util/ArrayList", "<init>", "()V"⟩ : MethodName) (head1 (Jvm.Cond.code (⟨"java/util/ArrayList", "<init>", "()V"⟩ : MethodName) jdk_38_method_2_code 1 none :: ws) ({ frames := 3, cells := 0, slots := 0, locals := 36 } : Room)) (fun aa U => aa = #[(.ref a)] ∧ Z.Warmed39 U.vm ∧ U.heap = h0) (fun _ _ _ _ _ => True) (fun _ U o U' => ∃ v L, o = .returned v ∧ Q4 Z a w_DEFAULTCAPACITY_EMPTY_ELEMENTDATA h0 n0 v U'.heap L ∧ FrameEnd U o U' L ({ frames := 3, cells := 0, slots := 0, locals := 36 } : Room).cells ({ frames := 3, cells := 0, slots := 0, locals := 36 } : Room).slots) := by
  refine MetFree.of_bodySF (plainFor_of_name pn_2) hisR ?_
  intro p e s m args below meth c s₁ Bd hml0 hP hK
  obtain ⟨rfl, hZ, hh⟩ := hP
  have hx := Bd.exec
  have hby := Bd.bytes
  have hml : c.maxLocals = 1 := hml0
  have hown : s.vm.findClass "java/util/ArrayList" = some m.cls := findClass_of_methodNamed Bd.named
  have hnm := (name_of_methodNamed Bd.named Bd.method).1
  have X0 : Stand p l e ({ frames := 3, cells := 0, slots := 0, locals := 36 } : Room) s m #[(.ref a)] below meth c s₁ [] 0 0 := Stand.of_body Bd
  have e0 : s₁.heap = h0 := by rw [← hh, Bd.state]; rfl
  have N0 := Fr.nil n0
  have pre0 : ∀ t, Steps p.tables e below (s₁.setTop (mkF m 0 #[.val (.ref a)] [])) t → Steps p.tables e below (s₁.setTop (entryFrame m #[(.ref a)] 1)) t := fun t k => castTop (ef_4 m a) k
  have pre1 : ∀ t, Steps p.tables e below (s₁.setTop (mkF m 1 #[.val (.ref a)] [(.ref a)])) t → Steps p.tables e below (s₁.setTop (entryFrame m #[(.ref a)] 1)) t := fun t k => pre0 t (by
    show Steps p.tables e below (s₁.setTop (mkF m 0 #[.val (.ref a)] [])) _
    refine XS.aloadN X0.here hx rfl (hb hby d4_0) rfl rfl ?_
    show Steps p.tables e below (s₁.setTop (mkF m 1 #[.val (.ref a)] [(.ref a)])) _
    exact k)
  obtain ⟨_, _, ⟨T3, L3, k3, n3⟩, -, X3, ⟨Lc3, hQ3, l3, y3, z3⟩, st3⟩ := X0.specialBack hx (y := (⟨"java/util/AbstractList", "<init>", "()V"⟩ : MethodName)) rfl hown (mvT hZ (hw _ (List.mem_of_getElem? (i := 19) rfl))) (mvT hZ (hw _ (List.mem_of_getElem? (i := 20) rfl))) (mvT hZ (hw _ (List.mem_of_getElem? (i := 24) rfl))) (by decide) (backOf (W := 0) (rm5 l Z a0 hw [] a   h0 n0 Z0 Ea F_modCount F_elementData ga) hZ (hw _ (List.mem_of_getElem? (i := 24) rfl)) (hw _ (List.mem_of_getElem? (i := 23) rfl)) (by decide) (by decide)) (g := (mkF m 1 #[.val (.ref a)] [(.ref a)])) rfl (by rw [hml]; rfl) (Steps.refl _) (a := a) (argsL := []) (rest := []) (lenOf pd_0 rfl) rfl (by show 2 * 0 + _ ≤ _; exact Nat.le_of_eq rfl) (hb hby d4_1) (fun _ _ => ⟨rfl, e0, (by decide : 0 + 0 ≤ _), (by decide : 0 + 0 ≤ _)⟩)
  dsimp only [Pt.U, Pt.locs, Pt.cells, Pt.slots] at X3 l3 y3 z3 st3 hQ3
  subst l3 y3 z3
  obtain ⟨rfl, N3q, K3, Ec3, Fc3_modCount, Fc3_elementData⟩ := hQ3
  have N3 := Fr.app N0 N3q
  have pre4 : ∀ t, Steps p.tables e below (T3.setTop (mkF m 4 #[.val (.ref a)] [])) t → Steps p.tables e below (s₁.setTop (entryFrame m #[(.ref a)] 1)) t := fun t k => pre1 t (st3.trans k)
  have Zz3 : n0 ≤ T3.heap.size := Nat.le_trans Z0 K3.1
  have c5 := (Ea).keep K3
  have c8 := own_sta S_DEFAULTCAPACITY_EMPTY_ELEMENTDATA K3 Ea
  have K3k : Keep h0 T3.heap [a] := ((Keep.refl h0 [a])).trans K3 (allS (Or.inl (List.mem_of_getElem? (i := 0) rfl)) (all0))
  have pre9 : ∀ t, Steps p.tables e below (T3.setTop (mkF m 5 #[.val (.ref a)] [(.ref a)])) t → Steps p.tables e below (s₁.setTop (entryFrame m #[(.ref a)] 1)) t := fun t k => pre4 t (by
    show Steps p.tables e below (T3.setTop (mkF m 4 #[.val (.ref a)] [])) _
    refine XS.aloadN X3.here hx rfl (hb hby d4_4) rfl rfl ?_
    show Steps p.tables e below (T3.setTop (mkF m 5 #[.val (.ref a)] [(.ref a)])) _
    exact k)
  obtain ⟨T10, X10, e10, st10⟩ := getS2 X3 hx hZ hown (host := "") (Or.inl (hw _ (List.mem_of_getElem? (i := 34) rfl))) Via.refl rfl c8 (g := (mkF m 5 #[.val (.ref a)] [(.ref a)])) rfl (hb hby d4_5)
  have pre11 : ∀ t, Steps p.tables e below (T10.setTop (mkF m 8 #[.val (.ref a)] [(.ref w_DEFAULTCAPACITY_EMPTY_ELEMENTDATA), (.ref a)])) t → Steps p.tables e below (s₁.setTop (entryFrame m #[(.ref a)] 1)) t := fun t k => pre9 t (st10 _ k)
  obtain ⟨T12, h12, X12, e12, W12, st12⟩ := putF X10 hx hZ hown (host := "") (Or.inl (hw _ (List.mem_of_getElem? (i := 35) rfl))) Via.refl e10 Fc3_elementData Ec3 (Or.inl (hw _ (List.mem_of_getElem? (i := 36) rfl))) (hw _ (List.mem_of_getElem? (i := 14) rfl)) (ty := (.array (.object "java/lang/Object"))) (by decide) rfl rfl (g := (mkF m 8 #[.val (.ref a)] [(.ref w_DEFAULTCAPACITY_EMPTY_ELEMENTDATA), (.ref a)])) rfl rfl (hb hby d4_8)
  have Fw12 : Fld Z h12 a "java/util/ArrayList" "elementData" "[Ljava/lang/Object;" (.ref w_DEFAULTCAPACITY_EMPTY_ELEMENTDATA) := (Fc3_elementData).same W12
  have c13 := (Ec3).wr W12
  have c14 := (c8).wr W12
  have c15 := (Fc3_modCount).other W12 (Or.inr (slot_ne (Or.inl (hw _ (List.mem_of_getElem? (i := 33) rfl))) (Or.inl (hw _ (List.mem_of_getElem? (i := 36) rfl))) (by decide) (t := .int) (t' := (.array (.object "java/lang/Object"))) (by decide) (by decide)))
  have N12 := Fr.snoc X12 N3 ga
  have Zz12 : n0 ≤ h12.size := Nat.le_trans Zz3 (Keep.of_wr W12).1
  have pre17 : ∀ t, Steps p.tables e below (T12.setTop (mkF m 11 #[.val (.ref a)] [])) t → Steps p.tables e below (s₁.setTop (entryFrame m #[(.ref a)] 1)) t := fun t k => pre11 t (st12 _ k)
  have Kp12 : Keep h0 h12 [a] := (K3k).wr W12 (Or.inl (List.mem_of_getElem? (i := 0) rfl))
  obtain ⟨fs, hr, hrun, hended, hW, hsame⟩ := X12.leave (v := none) (fun _ => rfl)
  refine ⟨_, _, pre17 _ ?_, hrun, hended, _, _, rfl, ?_, ⟨_, rfl⟩, hW, hsame.mono (by decide) (by decide)⟩
  · show Steps p.tables e below (T12.setTop (mkF m 11 #[.val (.ref a)] [])) _
    exact X12.returnOut hx Bd.returns (hb hby d4_11) hr
  · show Q4 Z a w_DEFAULTCAPACITY_EMPTY_ELEMENTDATA h0 n0 _ T12.heap _
    rw [e12]
    exact ⟨rfl, N12, Kp12, c13⟩
theorem pn_3 : plainName "java/util/AbstractMap" = true := by first | (simp [plainName, overriddenIn]; done) | decide +kernel
theorem d8_0 : decode jdk_71_method_1_code 0 = .ok (.aload_n 0, 1) := by decide +kernel
theorem d8_1 : decode jdk_71_method_1_code 1 = .ok (.invokespecial 1, 3) := by decide +kernel
theorem d8_4 : decode jdk_71_method_1_code 4 = .ok (.return_, 1) := by decide +kernel
theorem ef_8 (m : MethodId) (x0 : Addr) : entryFrame m #[(.ref x0)] 1 = mkF m 0 #[.val (.ref x0)] [] := by first | (simp [entryFrame, mkF, argsToLocals, Value.category]; done) | rfl
def Q8 (Z : State) (a : Addr) (h0 : Heap) (n0 : Nat) (v : Option Value) (h : Heap) (L : List Loc) : Prop := v = none ∧ Fr n0 L ∧ h = h0
set_option maxRecDepth 65536 in
set_option maxHeartbeats 40000000 in
theorem rm8 (l : Launch) (Z : State) (a0 : Array Value) (hw : ∀ d ∈ tables_1, d.before a0 Z = true) (ws : List Jvm.Cond) (a : Addr) (h0 : Heap) (n0 : Nat) (Z0 : n0 ≤ h0.size) :
    MetFree l (⟨"java/util/AbstractMap", "<init>", "()V"⟩ : MethodName) (head1 (Jvm.Cond.code (⟨"java/util/AbstractMap", "<init>", "()V"⟩ : MethodName) jdk_71_method_1_code 1 none :: ws) ({ frames := 1, cells := 0, slots := 0, locals := 12 } : Room)) (fun aa U => aa = #[(.ref a)] ∧ Z.Warmed39 U.vm ∧ U.heap = h0) (fun _ _ _ _ _ => True) (fun _ U o U' => ∃ v L, o = .returned v ∧ Q8 Z a h0 n0 v U'.heap L ∧ FrameEnd U o U' L ({ frames := 1, cells := 0, slots := 0, locals := 12 } : Room).cells ({ frames := 1, cells := 0, slots := 0, locals := 12 } : Room).slots) := by
  refine MetFree.of_bodySF (plainFor_of_name pn_3) hisR ?_
  intro p e s m args below meth c s₁ Bd hml0 hP hK
  obtain ⟨rfl, hZ, hh⟩ := hP
  have hx := Bd.exec
  have hby := Bd.bytes
  have hml : c.maxLocals = 1 := hml0
  have hown : s.vm.findClass "java/util/AbstractMap" = some m.cls := findClass_of_methodNamed Bd.named
  have hnm := (name_of_methodNamed Bd.named Bd.method).1
  have X0 : Stand p l e ({ frames := 1, cells := 0, slots := 0, locals := 12 } : Room) s m #[(.ref a)] below meth c s₁ [] 0 0 := Stand.of_body Bd
  have e0 : s₁.heap = h0 := by rw [← hh, Bd.state]; rfl
  have N0 := Fr.nil n0
  have pre0 : ∀ t, Steps p.tables e below (s₁.setTop (mkF m 0 #[.val (.ref a)] [])) t → Steps p.tables e below (s₁.setTop (entryFrame m #[(.ref a)] 1)) t := fun t k => castTop (ef_8 m a) k
  have pre1 : ∀ t, Steps p.tables e below (s₁.setTop (mkF m 1 #[.val (.ref a)] [(.ref a)])) t → Steps p.tables e below (s₁.setTop (entryFrame m #[(.ref a)] 1)) t := fun t k => pre0 t (by
    show Steps p.tables e below (s₁.setTop (mkF m 0 #[.val (.ref a)] [])) _
    refine XS.aloadN X0.here hx rfl (hb hby d8_0) rfl rfl ?_
    show Steps p.tables e below (s₁.setTop (mkF m 1 #[.val (.ref a)] [(.ref a)])) _
    exact k)
  obtain ⟨T2, X2, e2, st2⟩ := initO X0 hx hZ hown (hw _ (List.mem_of_getElem? (i := 51) rfl)) (hw _ (List.mem_of_getElem? (i := 11) rfl)) (hw _ (List.mem_of_getElem? (i := 12) rfl)) e0 (g := (mkF m 1 #[.val (.ref a)] [(.ref a)])) rfl (by rw [hml]; rfl) rfl (hb hby d8_1) (by decide) (W := 0) (by show 2 * 0 + _ ≤ _; exact Nat.le_of_eq rfl) (by decide)
  have pre3 : ∀ t, Steps p.tables e below (T2.setTop (mkF m 4 #[.val (.ref a)] [])) t → Steps p.tables e below (s₁.setTop (entryFrame m #[(.ref a)] 1)) t := fun t k => pre1 t (st2 _ k)
  obtain ⟨fs, hr, hrun, hended, hW, hsame⟩ := X2.leave (v := none) (fun _ => rfl)
  refine ⟨_, _, pre3 _ ?_, hrun, hended, _, _, rfl, ?_, ⟨_, rfl⟩, hW, hsame.mono (by decide) (by decide)⟩
  · show Steps p.tables e below (T2.setTop (mkF m 4 #[.val (.ref a)] [])) _
    exact X2.returnOut hx Bd.returns (hb hby d8_4) hr
  · show Q8 Z a h0 n0 _ T2.heap _
    rw [e2]
    exact ⟨rfl, N0, rfl⟩
theorem pn_4 : plainName "java/util/HashMap" = true := by first | (simp [plainName, overriddenIn]; done) | decide +kernel
theorem d7_0 : decode jdk_69_method_7_code 0 = .ok (.aload_n 0, 1) := by decide +kernel
theorem d7_1 : decode jdk_69_method_7_code 1 = .ok (.invokespecial 43, 3) := by decide +kernel
theorem d7_4 : decode jdk_69_method_7_code 4 = .ok (.aload_n 0, 1) := by decide +kernel
theorem d7_5 : decode jdk_69_method_7_code 5 = .ok (.ldc 92, 2) := by decide +kernel
theorem d7_7 : decode jdk_69_method_7_code 7 = .ok (.putfield 81, 3) := by decide +kernel
theorem d7_10 : decode jdk_69_method_7_code 10 = .ok (.return_, 1) := by decide +kernel
theorem ef_7 (m : MethodId) (x0 : Addr) : entryFrame m #[(.ref x0)] 1 = mkF m 0 #[.val (.ref x0)] [] := by first | (simp [entryFrame, mkF, argsToLocals, Value.category]; done) | rfl
def Q7 (Z : State) (a : Addr) (h0 : Heap) (n0 : Nat) (v : Option Value) (h : Heap) (L : List Loc) : Prop := v = none ∧ Fr n0 L ∧ Keep h0 h [a] ∧ Exa Z h a "java/util/HashMap"
set_option maxRecDepth 65536 in
set_option maxHeartbeats 40000000 in
theorem rm7 (l : Launch) (Z : State) (a0 : Array Value) (hw : ∀ d ∈ tables_1, d.before a0 Z = true) (ws : List Jvm.Cond) (a : Addr) (h0 : Heap) (n0 : Nat) (Z0 : n0 ≤ h0.size) (Ea : Exa Z h0 a "java/util/HashMap") (F_loadFactor : Fld Z h0 a "java/util/HashMap" "loadFactor" "F" (.float (0 : UInt32))) (ga : n0 ≤ a) :
    MetFree l (⟨"java/util/HashMap", "<init>", "()V"⟩ : MethodName) (head1 (Jvm.Cond.code (⟨"java/util/HashMap", "<init>", "()V"⟩ : MethodName) jdk_69_method_7_code 1 none :: ws) ({ frames := 2, cells := 0, slots := 0, locals := 24 } : Room)) (fun aa U => aa = #[(.ref a)] ∧ Z.Warmed39 U.vm ∧ U.heap = h0) (fun _ _ _ _ _ => True) (fun _ U o U' => ∃ v L, o = .returned v ∧ Q7 Z a h0 n0 v U'.heap L ∧ FrameEnd U o U' L ({ frames := 2, cells := 0, slots := 0, locals := 24 } : Room).cells ({ frames := 2, cells := 0, slots := 0, locals := 24 } : Room).slots) := by
  refine MetFree.of_bodySF (plainFor_of_name pn_4) hisR ?_
  intro p e s m args below meth c s₁ Bd hml0 hP hK
  obtain ⟨rfl, hZ, hh⟩ := hP
  have hx := Bd.exec
  have hby := Bd.bytes
  have hml : c.maxLocals = 1 := hml0
  have hown : s.vm.findClass "java/util/HashMap" = some m.cls := findClass_of_methodNamed Bd.named
  have hnm := (name_of_methodNamed Bd.named Bd.method).1
  have X0 : Stand p l e ({ frames := 2, cells := 0, slots := 0, locals := 24 } : Room) s m #[(.ref a)] below meth c s₁ [] 0 0 := Stand.of_body Bd
  have e0 : s₁.heap = h0 := by rw [← hh, Bd.state]; rfl
  have N0 := Fr.nil n0
  have pre0 : ∀ t, Steps p.tables e below (s₁.setTop (mkF m 0 #[.val (.ref a)] [])) t → Steps p.tables e below (s₁.setTop (entryFrame m #[(.ref a)] 1)) t := fun t k => castTop (ef_7 m a) k
  have pre1 : ∀ t, Steps p.tables e below (s₁.setTop (mkF m 1 #[.val (.ref a)] [(.ref a)])) t → Steps p.tables e below (s₁.setTop (entryFrame m #[(.ref a)] 1)) t := fun t k => pre0 t (by
    show Steps p.tables e below (s₁.setTop (mkF m 0 #[.val (.ref a)] [])) _
    refine XS.aloadN X0.here hx rfl (hb hby d7_0) rfl rfl ?_
    show Steps p.tables e below (s₁.setTop (mkF m 1 #[.val (.ref a)] [(.ref a)])) _
    exact k)
  obtain ⟨_, _, ⟨T3, L3, k3, n3⟩, -, X3, ⟨Lc3, hQ3, l3, y3, z3⟩, st3⟩ := X0.specialBack hx (y := (⟨"java/util/AbstractMap", "<init>", "()V"⟩ : MethodName)) rfl hown (mvT hZ (hw _ (List.mem_of_getElem? (i := 45) rfl))) (mvT hZ (hw _ (List.mem_of_getElem? (i := 46) rfl))) (mvT hZ (hw _ (List.mem_of_getElem? (i := 50) rfl))) (by decide) (backOf (W := 0) (rm8 l Z a0 hw [] a  h0 n0 Z0 ) hZ (hw _ (List.mem_of_getElem? (i := 50) rfl)) (hw _ (List.mem_of_getElem? (i := 49) rfl)) (by decide) (by decide)) (g := (mkF m 1 #[.val (.ref a)] [(.ref a)])) rfl (by rw [hml]; rfl) (Steps.refl _) (a := a) (argsL := []) (rest := []) (lenOf pd_0 rfl) rfl (by show 2 * 0 + _ ≤ _; exact Nat.le_of_eq rfl) (hb hby d7_1) (fun _ _ => ⟨rfl, e0, (by decide : 0 + 0 ≤ _), (by decide : 0 + 0 ≤ _)⟩)
  dsimp only [Pt.U, Pt.locs, Pt.cells, Pt.slots] at X3 l3 y3 z3 st3 hQ3
  subst l3 y3 z3
  obtain ⟨rfl, N3q, e3⟩ := hQ3
  have N3 := Fr.app N0 N3q
  have pre4 : ∀ t, Steps p.tables e below (T3.setTop (mkF m 4 #[.val (.ref a)] [])) t → Steps p.tables e below (s₁.setTop (entryFrame m #[(.ref a)] 1)) t := fun t k => pre1 t (st3.trans k)
  have pre5 : ∀ t, Steps p.tables e below (T3.setTop (mkF m 5 #[.val (.ref a)] [(.ref a)])) t → Steps p.tables e below (s₁.setTop (entryFrame m #[(.ref a)] 1)) t := fun t k => pre4 t (by
    show Steps p.tables e below (T3.setTop (mkF m 4 #[.val (.ref a)] [])) _
    refine XS.aloadN X3.here hx rfl (hb hby d7_4) rfl rfl ?_
    show Steps p.tables e below (T3.setTop (mkF m 5 #[.val (.ref a)] [(.ref a)])) _
    exact k)
  obtain ⟨kf6, cf6, qa6, qb6, qc6⟩ := Cond.constantFloat_spec (args := #[]) hown (mvT hZ (hw _ (List.mem_of_getElem? (i := 52) rfl)))
  have st6 := X3.ldcFloat hx qa6 qb6 qc6 (g := (mkF m 5 #[.val (.ref a)] [(.ref a)])) rfl (hb hby d7_5)
  have pre7 : ∀ t, Steps p.tables e below (T3.setTop (mkF m 7 #[.val (.ref a)] [(.float (1061158912 : UInt32)), (.ref a)])) t → Steps p.tables e below (s₁.setTop (entryFrame m #[(.ref a)] 1)) t := fun t k => pre5 t (st6 _ k)
  obtain ⟨T8, h8, X8, e8, W8, st8⟩ := putF X3 hx hZ hown (host := "") (Or.inl (hw _ (List.mem_of_getElem? (i := 53) rfl))) Via.refl e3 F_loadFactor Ea (Or.inr ⟨(hw _ (List.mem_of_getElem? (i := 54) rfl)), rfl, hnm⟩) (hw _ (List.mem_of_getElem? (i := 40) rfl)) (ty := .float) (by decide) rfl rfl (g := (mkF m 7 #[.val (.ref a)] [(.float (1061158912 : UInt32)), (.ref a)])) rfl rfl (hb hby d7_7)
  have Fw8 : Fld Z h8 a "java/util/HashMap" "loadFactor" "F" (.float (1061158912 : UInt32)) := (F_loadFactor).same W8
  have c9 := (Ea).wr W8
  have N8 := Fr.snoc X8 N3 ga
  have Zz8 : n0 ≤ h8.size := Nat.le_trans Z0 (Keep.of_wr W8).1
  have pre11 : ∀ t, Steps p.tables e below (T8.setTop (mkF m 10 #[.val (.ref a)] [])) t → Steps p.tables e below (s₁.setTop (entryFrame m #[(.ref a)] 1)) t := fun t k => pre7 t (st8 _ k)
  have Kp8 : Keep h0 h8 [a] := ((Keep.refl h0 [a])).wr W8 (Or.inl (List.mem_of_getElem? (i := 0) rfl))
  obtain ⟨fs, hr, hrun, hended, hW, hsame⟩ := X8.leave (v := none) (fun _ => rfl)
  refine ⟨_, _, pre11 _ ?_, hrun, hended, _, _, rfl, ?_, ⟨_, rfl⟩, hW, hsame.mono (by decide) (by decide)⟩
  · show Steps p.tables e below (T8.setTop (mkF m 10 #[.val (.ref a)] [])) _
    exact X8.returnOut hx Bd.returns (hb hby d7_10) hr
  · show Q7 Z a h0 n0 _ T8.heap _
    rw [e8]
    exact ⟨rfl, N8, Kp8, c9⟩
theorem pn_5 : plainName "com/example/lean_lifecycle/leanlifecycle/ActivityManager" = true := by first | (simp [plainName, overriddenIn]; done) | decide +kernel
theorem d2_0 : decode prog_4_method_1_code 0 = .ok (.aload_n 0, 1) := by decide +kernel
theorem d2_1 : decode prog_4_method_1_code 1 = .ok (.invokespecial 1, 3) := by decide +kernel
theorem d2_4 : decode prog_4_method_1_code 4 = .ok (.aload_n 0, 1) := by decide +kernel
theorem d2_5 : decode prog_4_method_1_code 5 = .ok (.new 7, 3) := by decide +kernel
theorem d2_8 : decode prog_4_method_1_code 8 = .ok (.dup, 1) := by decide +kernel
theorem d2_9 : decode prog_4_method_1_code 9 = .ok (.invokespecial 9, 3) := by decide +kernel
theorem d2_12 : decode prog_4_method_1_code 12 = .ok (.putfield 10, 3) := by decide +kernel
theorem d2_15 : decode prog_4_method_1_code 15 = .ok (.aload_n 0, 1) := by decide +kernel
theorem d2_16 : decode prog_4_method_1_code 16 = .ok (.new 16, 3) := by decide +kernel
theorem d2_19 : decode prog_4_method_1_code 19 = .ok (.dup, 1) := by decide +kernel
theorem d2_20 : decode prog_4_method_1_code 20 = .ok (.invokespecial 18, 3) := by decide +kernel
theorem d2_23 : decode prog_4_method_1_code 23 = .ok (.putfield 19, 3) := by decide +kernel
theorem d2_26 : decode prog_4_method_1_code 26 = .ok (.aload_n 0, 1) := by decide +kernel
theorem d2_27 : decode prog_4_method_1_code 27 = .ok (.new 16, 3) := by decide +kernel
theorem d2_30 : decode prog_4_method_1_code 30 = .ok (.dup, 1) := by decide +kernel
theorem d2_31 : decode prog_4_method_1_code 31 = .ok (.invokespecial 18, 3) := by decide +kernel
theorem d2_34 : decode prog_4_method_1_code 34 = .ok (.putfield 23, 3) := by decide +kernel
theorem d2_37 : decode prog_4_method_1_code 37 = .ok (.aload_n 0, 1) := by decide +kernel
theorem d2_38 : decode prog_4_method_1_code 38 = .ok (.iconst 1, 1) := by decide +kernel
theorem d2_39 : decode prog_4_method_1_code 39 = .ok (.putfield 26, 3) := by decide +kernel
theorem d2_42 : decode prog_4_method_1_code 42 = .ok (.return_, 1) := by decide +kernel
theorem ef_2 (m : MethodId) (x0 : Addr) : entryFrame m #[(.ref x0)] 1 = mkF m 0 #[.val (.ref x0)] [] := by first | (simp [entryFrame, mkF, argsToLocals, Value.category]; done) | rfl
def Q2 (Z : State) (a : Addr) (w_DEFAULTCAPACITY_EMPTY_ELEMENTDATA : Addr) (h0 : Heap) (n0 : Nat) (v : Option Value) (h : Heap) (L : List Loc) : Prop := v = none ∧ Fr n0 L ∧ Keep h0 h [a] ∧ Exa Z h a "com/example/lean_lifecycle/leanlifecycle/ActivityManager" ∧ Fld Z h a "com/example/lean_lifecycle/leanlifecycle/ActivityManager" "inFront" "Z" (.int (1 : Int32)) ∧ Fld Z h a "com/example/lean_lifecycle/leanlifecycle/ActivityManager" "frontMovesPosted" "I" (.int (0 : Int32)) ∧ Fld Z h a "com/example/lean_lifecycle/leanlifecycle/ActivityManager" "inFrontAsPosted" "Z" (.int (0 : Int32))
set_option maxRecDepth 65536 in
set_option maxHeartbeats 40000000 in
theorem rm2 (l : Launch) (Z : State) (a0 : Array Value) (hw : ∀ d ∈ tables_1, d.before a0 Z = true) (ws : List Jvm.Cond) (a : Addr) (w_DEFAULTCAPACITY_EMPTY_ELEMENTDATA : Addr) (h0 : Heap) (n0 : Nat) (Z0 : n0 ≤ h0.size) (Ea : Exa Z h0 a "com/example/lean_lifecycle/leanlifecycle/ActivityManager") (F_task : Fld Z h0 a "com/example/lean_lifecycle/leanlifecycle/ActivityManager" "task" "Ljava/util/List;" .null) (F_entries : Fld Z h0 a "com/example/lean_lifecycle/leanlifecycle/ActivityManager" "entries" "Ljava/util/Map;" .null) (F_toFinish : Fld Z h0 a "com/example/lean_lifecycle/leanlifecycle/ActivityManager" "toFinish" "Ljava/util/Map;" .null) (F_inFront : Fld Z h0 a "com/example/lean_lifecycle/leanlifecycle/ActivityManager" "inFront" "Z" (.int (0 : Int32))) (F_frontMovesPosted : Fld Z h0 a "com/example/lean_lifecycle/leanlifecycle/ActivityManager" "frontMovesPosted" "I" (.int (0 : Int32))) (F_inFrontAsPosted : Fld Z h0 a "com/example/lean_lifecycle/leanlifecycle/ActivityManager" "inFrontAsPosted" "Z" (.int (0 : Int32))) (S_DEFAULTCAPACITY_EMPTY_ELEMENTDATA : Sta Z h0 "java/util/ArrayList" "DEFAULTCAPACITY_EMPTY_ELEMENTDATA" "[Ljava/lang/Object;" (.ref w_DEFAULTCAPACITY_EMPTY_ELEMENTDATA)) (ga : n0 ≤ a) :
    MetFree l (⟨"com/example/lean_lifecycle/leanlifecycle/ActivityManager", "<init>", "()V"⟩ : MethodName) (head1 (Jvm.Cond.code (⟨"com/example/lean_lifecycle/leanlifecycle/ActivityManager", "<init>", "()V"⟩ : MethodName) prog_4_method_1_code 1 none :: ws) ({ frames := 4, cells := 3, slots := 19, locals := 50 } : Room)) (fun aa U => aa = #[(.ref a)] ∧ Z.Warmed39 U.vm ∧ U.heap = h0) (fun _ _ _ _ _ => True) (fun _ U o U' => ∃ v L, o = .returned v ∧ Q2 Z a w_DEFAULTCAPACITY_EMPTY_ELEMENTDATA h0 n0 v U'.heap L ∧ FrameEnd U o U' L ({ frames := 4, cells := 3, slots := 19, locals := 50 } : Room).cells ({ frames := 4, cells := 3, slots := 19, locals := 50 } : Room).slots) := by
  refine MetFree.of_bodySF (plainFor_of_name pn_5) hisR ?_
  intro p e s m args below meth c s₁ Bd hml0 hP hK
  obtain ⟨rfl, hZ, hh⟩ := hP
  have hx := Bd.exec
  have hby := Bd.bytes
  have hml : c.maxLocals = 1 := hml0
  have hown : s.vm.findClass "com/example/lean_lifecycle/leanlifecycle/ActivityManager" = some m.cls := findClass_of_methodNamed Bd.named
  have hnm := (name_of_methodNamed Bd.named Bd.method).1
  have X0 : Stand p l e ({ frames := 4, cells := 3, slots := 19, locals := 50 } : Room) s m #[(.ref a)] below meth c s₁ [] 0 0 := Stand.of_body Bd
  have e0 : s₁.heap = h0 := by rw [← hh, Bd.state]; rfl
  have N0 := Fr.nil n0
  have pre0 : ∀ t, Steps p.tables e below (s₁.setTop (mkF m 0 #[.val (.ref a)] [])) t → Steps p.tables e below (s₁.setTop (entryFrame m #[(.ref a)] 1)) t := fun t k => castTop (ef_2 m a) k
  have pre1 : ∀ t, Steps p.tables e below (s₁.setTop (mkF m 1 #[.val (.ref a)] [(.ref a)])) t → Steps p.tables e below (s₁.setTop (entryFrame m #[(.ref a)] 1)) t := fun t k => pre0 t (by
    show Steps p.tables e below (s₁.setTop (mkF m 0 #[.val (.ref a)] [])) _
    refine XS.aloadN X0.here hx rfl (hb hby d2_0) rfl rfl ?_
    show Steps p.tables e below (s₁.setTop (mkF m 1 #[.val (.ref a)] [(.ref a)])) _
    exact k)
  obtain ⟨T2, X2, e2, st2⟩ := initO X0 hx hZ hown (hw _ (List.mem_of_getElem? (i := 10) rfl)) (hw _ (List.mem_of_getElem? (i := 11) rfl)) (hw _ (List.mem_of_getElem? (i := 12) rfl)) e0 (g := (mkF m 1 #[.val (.ref a)] [(.ref a)])) rfl (by rw [hml]; rfl) rfl (hb hby d2_1) (by decide) (W := 0) (by show 2 * 0 + _ ≤ _; exact Nat.le_of_eq rfl) (by decide)
  have pre3 : ∀ t, Steps p.tables e below (T2.setTop (mkF m 4 #[.val (.ref a)] [])) t → Steps p.tables e below (s₁.setTop (entryFrame m #[(.ref a)] 1)) t := fun t k => pre1 t (st2 _ k)
  have pre4 : ∀ t, Steps p.tables e below (T2.setTop (mkF m 5 #[.val (.ref a)] [(.ref a)])) t → Steps p.tables e below (s₁.setTop (entryFrame m #[(.ref a)] 1)) t := fun t k => pre3 t (by
    show Steps p.tables e below (T2.setTop (mkF m 4 #[.val (.ref a)] [])) _
    refine XS.aloadN X2.here hx rfl (hb hby d2_4) rfl rfl ?_
    show Steps p.tables e below (T2.setTop (mkF m 5 #[.val (.ref a)] [(.ref a)])) _
    exact k)
  obtain ⟨T5, h5, X5, e5, E5, A5, D5, -, st5⟩ := newO X2 hx hZ hown (hw _ (List.mem_of_getElem? (i := 13) rfl)) (hw _ (List.mem_of_getElem? (i := 14) rfl)) (hw _ (List.mem_of_getElem? (i := 15) rfl)) e2 (g := (mkF m 5 #[.val (.ref a)] [(.ref a)])) rfl (hb hby d2_5) (by decide) (by decide)
  obtain ⟨b5, g5⟩ : ∃ z, z = h0.size := ⟨_, rfl⟩
  rw [← g5] at A5 D5 st5
  have sz_b5 : h0.size ≤ b5 := Nat.le_trans ((Keep.refl h0 [a])).1 (Nat.le_of_eq g5.symm)
  have ne_a_b5 : a ≠ b5 := Nat.ne_of_lt (Nat.lt_of_lt_of_le (Ea).lt (Nat.le_of_eq g5.symm))
  have g_b5 : n0 ≤ b5 := Nat.le_trans Z0 (Nat.le_of_eq g5.symm)
  have c6 := (Ea).ext E5
  have c7 := (F_task).ext E5
  have c8 := (F_entries).ext E5
  have c9 := (F_toFinish).ext E5
  have c10 := (F_inFront).ext E5
  have c11 := (F_frontMovesPosted).ext E5
  have c12 := (F_inFrontAsPosted).ext E5
  have c13 := (S_DEFAULTCAPACITY_EMPTY_ELEMENTDATA).ext E5
  have Zz5 : n0 ≤ h5.size := Nat.le_trans Z0 E5.1
  have F_modCount_b5 : Fld Z h5 b5 "java/util/AbstractList" "modCount" "I" (.int (0 : Int32)) := D5 (Or.inl (hw _ (List.mem_of_getElem? (i := 33) rfl))) (ty := .int) (by decide)
  have F_elementData_b5 : Fld Z h5 b5 "java/util/ArrayList" "elementData" "[Ljava/lang/Object;" .null := D5 (Or.inl (hw _ (List.mem_of_getElem? (i := 36) rfl))) (ty := (.array (.object "java/lang/Object"))) (by decide)
  have pre14 : ∀ t, Steps p.tables e below (T5.setTop (mkF m 8 #[.val (.ref a)] [(.ref b5), (.ref a)])) t → Steps p.tables e below (s₁.setTop (entryFrame m #[(.ref a)] 1)) t := fun t k => pre4 t (st5 _ k)
  have Ke5 : Keep h0 h5 [a] := ((Keep.refl h0 [a])).ext E5
  have pre15 : ∀ t, Steps p.tables e below (T5.setTop (mkF m 9 #[.val (.ref a)] [(.ref b5), (.ref b5), (.ref a)])) t → Steps p.tables e below (s₁.setTop (entryFrame m #[(.ref a)] 1)) t := fun t k => pre14 t (by
    show Steps p.tables e below (T5.setTop (mkF m 8 #[.val (.ref a)] [(.ref b5), (.ref a)])) _
    refine XS.dup X5.here hx rfl (hb hby d2_8) rfl rfl ?_
    show Steps p.tables e below (T5.setTop (mkF m 9 #[.val (.ref a)] [(.ref b5), (.ref b5), (.ref a)])) _
    exact k)
  obtain ⟨_, _, ⟨T17, L17, k17, n17⟩, -, X17, ⟨Lc17, hQ17, l17, y17, z17⟩, st17⟩ := X5.specialBack hx (y := (⟨"java/util/ArrayList", "<init>", "()V"⟩ : MethodName)) rfl hown (mvT hZ (hw _ (List.mem_of_getElem? (i := 16) rfl))) (mvT hZ (hw _ (List.mem_of_getElem? (i := 17) rfl))) (mvT hZ (hw _ (List.mem_of_getElem? (i := 18) rfl))) (by decide) (backOf (W := 2) (rm4 l Z a0 hw [] b5  w_DEFAULTCAPACITY_EMPTY_ELEMENTDATA h5 n0 Zz5 A5 F_modCount_b5 F_elementData_b5 c13 g_b5) hZ (hw _ (List.mem_of_getElem? (i := 18) rfl)) (hw _ (List.mem_of_getElem? (i := 15) rfl)) (by decide) (by decide)) (g := (mkF m 9 #[.val (.ref a)] [(.ref b5), (.ref b5), (.ref a)])) rfl (by rw [hml]; rfl) (Steps.refl _) (a := b5) (argsL := []) (rest := [(.ref b5), (.ref a)]) (lenOf pd_0 rfl) rfl (by show 2 * 0 + _ ≤ _; exact Nat.le_of_eq rfl) (hb hby d2_9) (fun _ _ => ⟨rfl, e5, (by decide : 1 + 0 ≤ _), (by decide : 3 + 0 ≤ _)⟩)
  dsimp only [Pt.U, Pt.locs, Pt.cells, Pt.slots] at X17 l17 y17 z17 st17 hQ17
  subst l17 y17 z17
  obtain ⟨rfl, N17q, K17, Ec17⟩ := hQ17
  have N17 := Fr.app N0 N17q
  have pre18 : ∀ t, Steps p.tables e below (T17.setTop (mkF m 12 #[.val (.ref a)] [(.ref b5), (.ref a)])) t → Steps p.tables e below (s₁.setTop (entryFrame m #[(.ref a)] 1)) t := fun t k => pre15 t (st17.trans k)
  have Zz17 : n0 ≤ T17.heap.size := Nat.le_trans Zz5 K17.1
  have c19 := (c6).keep K17
  have c20 := (c7).keep K17 (ninS ne_a_b5 (nin0))
  have c21 := (c8).keep K17 (ninS ne_a_b5 (nin0))
  have c22 := (c9).keep K17 (ninS ne_a_b5 (nin0))
  have c23 := (c10).keep K17 (ninS ne_a_b5 (nin0))
  have c24 := (c11).keep K17 (ninS ne_a_b5 (nin0))
  have c25 := (c12).keep K17 (ninS ne_a_b5 (nin0))
  have c26 := own_sta c13 K17 A5
  have c27 := (A5).keep K17
  have K17k : Keep h0 T17.heap [a] := (Ke5).trans K17 (allS (Or.inr sz_b5) (all0))
  obtain ⟨T30, h30, X30, e30, W30, st30⟩ := putF X17 hx hZ hown (host := "") (Or.inl (hw _ (List.mem_of_getElem? (i := 37) rfl))) Via.refl rfl c20 c19 (Or.inr ⟨(hw _ (List.mem_of_getElem? (i := 38) rfl)), rfl, hnm⟩) (hw _ (List.mem_of_getElem? (i := 5) rfl)) (ty := (.object "java/util/List")) (by decide) rfl rfl (g := (mkF m 12 #[.val (.ref a)] [(.ref b5), (.ref a)])) rfl rfl (hb hby d2_12)
  have Fw30 : Fld Z h30 a "com/example/lean_lifecycle/leanlifecycle/ActivityManager" "task" "Ljava/util/List;" (.ref b5) := (c20).same W30
  have c31 := (c19).wr W30
  have c33 := (c21).other W30 (Or.inr (slot_ne (Or.inr (hw _ (List.mem_of_getElem? (i := 56) rfl))) (Or.inr (hw _ (List.mem_of_getElem? (i := 38) rfl))) (by decide) (t := (.object "java/util/Map")) (t' := (.object "java/util/List")) (by decide) (by decide)))
  have c34 := (c22).other W30 (Or.inr (slot_ne (Or.inr (hw _ (List.mem_of_getElem? (i := 58) rfl))) (Or.inr (hw _ (List.mem_of_getElem? (i := 38) rfl))) (by decide) (t := (.object "java/util/Map")) (t' := (.object "java/util/List")) (by decide) (by decide)))
  have c35 := (c23).other W30 (Or.inr (slot_ne (Or.inl (hw _ (List.mem_of_getElem? (i := 60) rfl))) (Or.inr (hw _ (List.mem_of_getElem? (i := 38) rfl))) (by decide) (t := .boolean) (t' := (.object "java/util/List")) (by decide) (by decide)))
  have c36 := (c24).other W30 (Or.inr (slot_ne (Or.inl (hw _ (List.mem_of_getElem? (i := 67) rfl))) (Or.inr (hw _ (List.mem_of_getElem? (i := 38) rfl))) (by decide) (t := .int) (t' := (.object "java/util/List")) (by decide) (by decide)))
  have c37 := (c25).other W30 (Or.inr (slot_ne (Or.inl (hw _ (List.mem_of_getElem? (i := 69) rfl))) (Or.inr (hw _ (List.mem_of_getElem? (i := 38) rfl))) (by decide) (t := .boolean) (t' := (.object "java/util/List")) (by decide) (by decide)))
  have c38 := (c26).wr W30
  have c39 := (Ec17).wr W30
  have N30 := Fr.snoc X30 N17 ga
  have Zz30 : n0 ≤ h30.size := Nat.le_trans Zz17 (Keep.of_wr W30).1
  have pre40 : ∀ t, Steps p.tables e below (T30.setTop (mkF m 15 #[.val (.ref a)] [])) t → Steps p.tables e below (s₁.setTop (entryFrame m #[(.ref a)] 1)) t := fun t k => pre18 t (st30 _ k)
  have Kp30 : Keep h0 h30 [a] := (K17k).wr W30 (Or.inl (List.mem_of_getElem? (i := 0) rfl))
  have pre41 : ∀ t, Steps p.tables e below (T30.setTop (mkF m 16 #[.val (.ref a)] [(.ref a)])) t → Steps p.tables e below (s₁.setTop (entryFrame m #[(.ref a)] 1)) t := fun t k => pre40 t (by
    show Steps p.tables e below (T30.setTop (mkF m 15 #[.val (.ref a)] [])) _
    refine XS.aloadN X30.here hx rfl (hb hby d2_15) rfl rfl ?_
    show Steps p.tables e below (T30.setTop (mkF m 16 #[.val (.ref a)] [(.ref a)])) _
    exact k)
  obtain ⟨T42, h42, X42, e42, E42, A42, D42, -, st42⟩ := newO X30 hx hZ hown (hw _ (List.mem_of_getElem? (i := 39) rfl)) (hw _ (List.mem_of_getElem? (i := 40) rfl)) (hw _ (List.mem_of_getElem? (i := 41) rfl)) e30 (g := (mkF m 16 #[.val (.ref a)] [(.ref a)])) rfl (hb hby d2_16) (by decide) (by decide)
  obtain ⟨b42, g42⟩ : ∃ z, z = h30.size := ⟨_, rfl⟩
  rw [← g42] at A42 D42 st42
  have sz_b42 : h0.size ≤ b42 := Nat.le_trans (Kp30).1 (Nat.le_of_eq g42.symm)
  have ne_a_b42 : a ≠ b42 := Nat.ne_of_lt (Nat.lt_of_lt_of_le (c31).lt (Nat.le_of_eq g42.symm))
  have ne_b5_b42 : b5 ≠ b42 := Nat.ne_of_lt (Nat.lt_of_lt_of_le (c39).lt (Nat.le_of_eq g42.symm))
  have g_b42 : n0 ≤ b42 := Nat.le_trans Zz30 (Nat.le_of_eq g42.symm)
  have c43 := (c31).ext E42
  have c44 := (c33).ext E42
  have c45 := (c34).ext E42
  have c46 := (c35).ext E42
  have c47 := (c36).ext E42
  have c48 := (c37).ext E42
  have c49 := (c38).ext E42
  have c50 := (c39).ext E42
  have c51 := (Fw30).ext E42
  have Zz42 : n0 ≤ h42.size := Nat.le_trans Zz30 E42.1
  have F_loadFactor_b42 : Fld Z h42 b42 "java/util/HashMap" "loadFactor" "F" (.float (0 : UInt32)) := D42 (Or.inr (hw _ (List.mem_of_getElem? (i := 54) rfl))) (ty := .float) (by decide)
  have pre52 : ∀ t, Steps p.tables e below (T42.setTop (mkF m 19 #[.val (.ref a)] [(.ref b42), (.ref a)])) t → Steps p.tables e below (s₁.setTop (entryFrame m #[(.ref a)] 1)) t := fun t k => pre41 t (st42 _ k)
  have Ke42 : Keep h0 h42 [a] := (Kp30).ext E42
  have pre53 : ∀ t, Steps p.tables e below (T42.setTop (mkF m 20 #[.val (.ref a)] [(.ref b42), (.ref b42), (.ref a)])) t → Steps p.tables e below (s₁.setTop (entryFrame m #[(.ref a)] 1)) t := fun t k => pre52 t (by
    show Steps p.tables e below (T42.setTop (mkF m 19 #[.val (.ref a)] [(.ref b42), (.ref a)])) _
    refine XS.dup X42.here hx rfl (hb hby d2_19) rfl rfl ?_
    show Steps p.tables e below (T42.setTop (mkF m 20 #[.val (.ref a)] [(.ref b42), (.ref b42), (.ref a)])) _
    exact k)
  obtain ⟨_, _, ⟨T55, L55, k55, n55⟩, -, X55, ⟨Lc55, hQ55, l55, y55, z55⟩, st55⟩ := X42.specialBack hx (y := (⟨"java/util/HashMap", "<init>", "()V"⟩ : MethodName)) rfl hown (mvT hZ (hw _ (List.mem_of_getElem? (i := 42) rfl))) (mvT hZ (hw _ (List.mem_of_getElem? (i := 43) rfl))) (mvT hZ (hw _ (List.mem_of_getElem? (i := 44) rfl))) (by decide) (backOf (W := 2) (rm7 l Z a0 hw [] b42   h42 n0 Zz42 A42 F_loadFactor_b42 g_b42) hZ (hw _ (List.mem_of_getElem? (i := 44) rfl)) (hw _ (List.mem_of_getElem? (i := 41) rfl)) (by decide) (by decide)) (g := (mkF m 20 #[.val (.ref a)] [(.ref b42), (.ref b42), (.ref a)])) rfl (by rw [hml]; rfl) (Steps.refl _) (a := b42) (argsL := []) (rest := [(.ref b42), (.ref a)]) (lenOf pd_0 rfl) rfl (by show 2 * 0 + _ ≤ _; exact Nat.le_of_eq rfl) (hb hby d2_20) (fun _ _ => ⟨rfl, e42, (by decide : 2 + 0 ≤ _), (by decide : 11 + 0 ≤ _)⟩)
  dsimp only [Pt.U, Pt.locs, Pt.cells, Pt.slots] at X55 l55 y55 z55 st55 hQ55
  subst l55 y55 z55
  obtain ⟨rfl, N55q, K55, Ec55⟩ := hQ55
  have N55 := Fr.app N30 N55q
  have pre56 : ∀ t, Steps p.tables e below (T55.setTop (mkF m 23 #[.val (.ref a)] [(.ref b42), (.ref a)])) t → Steps p.tables e below (s₁.setTop (entryFrame m #[(.ref a)] 1)) t := fun t k => pre53 t (st55.trans k)
  have Zz55 : n0 ≤ T55.heap.size := Nat.le_trans Zz42 K55.1
  have c57 := (c43).keep K55
  have c58 := (c44).keep K55 (ninS ne_a_b42 (nin0))
  have c59 := (c45).keep K55 (ninS ne_a_b42 (nin0))
  have c60 := (c46).keep K55 (ninS ne_a_b42 (nin0))
  have c61 := (c47).keep K55 (ninS ne_a_b42 (nin0))
  have c62 := (c48).keep K55 (ninS ne_a_b42 (nin0))
  have c63 := own_sta c49 K55 A42
  have c64 := (c50).keep K55
  have c65 := (c51).keep K55 (ninS ne_a_b42 (nin0))
  have c66 := (A42).keep K55
  have K55k : Keep h0 T55.heap [a] := (Ke42).trans K55 (allS (Or.inr sz_b42) (all0))
  obtain ⟨T68, h68, X68, e68, W68, st68⟩ := putF X55 hx hZ hown (host := "") (Or.inl (hw _ (List.mem_of_getElem? (i := 55) rfl))) Via.refl rfl c58 c57 (Or.inr ⟨(hw _ (List.mem_of_getElem? (i := 56) rfl)), rfl, hnm⟩) (hw _ (List.mem_of_getElem? (i := 5) rfl)) (ty := (.object "java/util/Map")) (by decide) rfl rfl (g := (mkF m 23 #[.val (.ref a)] [(.ref b42), (.ref a)])) rfl rfl (hb hby d2_23)
  have Fw68 : Fld Z h68 a "com/example/lean_lifecycle/leanlifecycle/ActivityManager" "entries" "Ljava/util/Map;" (.ref b42) := (c58).same W68
  have c69 := (c57).wr W68
  have c71 := (c59).other W68 (Or.inr (slot_ne (Or.inr (hw _ (List.mem_of_getElem? (i := 58) rfl))) (Or.inr (hw _ (List.mem_of_getElem? (i := 56) rfl))) (by decide) (t := (.object "java/util/Map")) (t' := (.object "java/util/Map")) (by decide) (by decide)))
  have c72 := (c60).other W68 (Or.inr (slot_ne (Or.inl (hw _ (List.mem_of_getElem? (i := 60) rfl))) (Or.inr (hw _ (List.mem_of_getElem? (i := 56) rfl))) (by decide) (t := .boolean) (t' := (.object "java/util/Map")) (by decide) (by decide)))
  have c73 := (c61).other W68 (Or.inr (slot_ne (Or.inl (hw _ (List.mem_of_getElem? (i := 67) rfl))) (Or.inr (hw _ (List.mem_of_getElem? (i := 56) rfl))) (by decide) (t := .int) (t' := (.object "java/util/Map")) (by decide) (by decide)))
  have c74 := (c62).other W68 (Or.inr (slot_ne (Or.inl (hw _ (List.mem_of_getElem? (i := 69) rfl))) (Or.inr (hw _ (List.mem_of_getElem? (i := 56) rfl))) (by decide) (t := .boolean) (t' := (.object "java/util/Map")) (by decide) (by decide)))
  have c75 := (c63).wr W68
  have c76 := (c64).wr W68
  have c77 := (c65).other W68 (Or.inr (slot_ne (Or.inr (hw _ (List.mem_of_getElem? (i := 38) rfl))) (Or.inr (hw _ (List.mem_of_getElem? (i := 56) rfl))) (by decide) (t := (.object "java/util/List")) (t' := (.object "java/util/Map")) (by decide) (by decide)))
  have c78 := (Ec55).wr W68
  have N68 := Fr.snoc X68 N55 ga
  have Zz68 : n0 ≤ h68.size := Nat.le_trans Zz55 (Keep.of_wr W68).1
  have pre79 : ∀ t, Steps p.tables e below (T68.setTop (mkF m 26 #[.val (.ref a)] [])) t → Steps p.tables e below (s₁.setTop (entryFrame m #[(.ref a)] 1)) t := fun t k => pre56 t (st68 _ k)
  have Kp68 : Keep h0 h68 [a] := (K55k).wr W68 (Or.inl (List.mem_of_getElem? (i := 0) rfl))
  have pre80 : ∀ t, Steps p.tables e below (T68.setTop (mkF m 27 #[.val (.ref a)] [(.ref a)])) t → Steps p.tables e below (s₁.setTop (entryFrame m #[(.ref a)] 1)) t := fun t k => pre79 t (by
    show Steps p.tables e below (T68.setTop (mkF m 26 #[.val (.ref a)] [])) _
    refine XS.aloadN X68.here hx rfl (hb hby d2_26) rfl rfl ?_
    show Steps p.tables e below (T68.setTop (mkF m 27 #[.val (.ref a)] [(.ref a)])) _
    exact k)
  obtain ⟨T81, h81, X81, e81, E81, A81, D81, -, st81⟩ := newO X68 hx hZ hown (hw _ (List.mem_of_getElem? (i := 39) rfl)) (hw _ (List.mem_of_getElem? (i := 40) rfl)) (hw _ (List.mem_of_getElem? (i := 41) rfl)) e68 (g := (mkF m 27 #[.val (.ref a)] [(.ref a)])) rfl (hb hby d2_27) (by decide) (by decide)
  obtain ⟨b81, g81⟩ : ∃ z, z = h68.size := ⟨_, rfl⟩
  rw [← g81] at A81 D81 st81
  have sz_b81 : h0.size ≤ b81 := Nat.le_trans (Kp68).1 (Nat.le_of_eq g81.symm)
  have ne_a_b81 : a ≠ b81 := Nat.ne_of_lt (Nat.lt_of_lt_of_le (c69).lt (Nat.le_of_eq g81.symm))
  have ne_b5_b81 : b5 ≠ b81 := Nat.ne_of_lt (Nat.lt_of_lt_of_le (c76).lt (Nat.le_of_eq g81.symm))
  have ne_b42_b81 : b42 ≠ b81 := Nat.ne_of_lt (Nat.lt_of_lt_of_le (c78).lt (Nat.le_of_eq g81.symm))
  have g_b81 : n0 ≤ b81 := Nat.le_trans Zz68 (Nat.le_of_eq g81.symm)
  have c82 := (c69).ext E81
  have c83 := (c71).ext E81
  have c84 := (c72).ext E81
  have c85 := (c73).ext E81
  have c86 := (c74).ext E81
  have c87 := (c75).ext E81
  have c88 := (c76).ext E81
  have c89 := (c77).ext E81
  have c90 := (c78).ext E81
  have c91 := (Fw68).ext E81
  have Zz81 : n0 ≤ h81.size := Nat.le_trans Zz68 E81.1
  have F_loadFactor_b81 : Fld Z h81 b81 "java/util/HashMap" "loadFactor" "F" (.float (0 : UInt32)) := D81 (Or.inr (hw _ (List.mem_of_getElem? (i := 54) rfl))) (ty := .float) (by decide)
  have pre92 : ∀ t, Steps p.tables e below (T81.setTop (mkF m 30 #[.val (.ref a)] [(.ref b81), (.ref a)])) t → Steps p.tables e below (s₁.setTop (entryFrame m #[(.ref a)] 1)) t := fun t k => pre80 t (st81 _ k)
  have Ke81 : Keep h0 h81 [a] := (Kp68).ext E81
  have pre93 : ∀ t, Steps p.tables e below (T81.setTop (mkF m 31 #[.val (.ref a)] [(.ref b81), (.ref b81), (.ref a)])) t → Steps p.tables e below (s₁.setTop (entryFrame m #[(.ref a)] 1)) t := fun t k => pre92 t (by
    show Steps p.tables e below (T81.setTop (mkF m 30 #[.val (.ref a)] [(.ref b81), (.ref a)])) _
    refine XS.dup X81.here hx rfl (hb hby d2_30) rfl rfl ?_
    show Steps p.tables e below (T81.setTop (mkF m 31 #[.val (.ref a)] [(.ref b81), (.ref b81), (.ref a)])) _
    exact k)
  obtain ⟨_, _, ⟨T95, L95, k95, n95⟩, -, X95, ⟨Lc95, hQ95, l95, y95, z95⟩, st95⟩ := X81.specialBack hx (y := (⟨"java/util/HashMap", "<init>", "()V"⟩ : MethodName)) rfl hown (mvT hZ (hw _ (List.mem_of_getElem? (i := 42) rfl))) (mvT hZ (hw _ (List.mem_of_getElem? (i := 43) rfl))) (mvT hZ (hw _ (List.mem_of_getElem? (i := 44) rfl))) (by decide) (backOf (W := 2) (rm7 l Z a0 hw [] b81   h81 n0 Zz81 A81 F_loadFactor_b81 g_b81) hZ (hw _ (List.mem_of_getElem? (i := 44) rfl)) (hw _ (List.mem_of_getElem? (i := 41) rfl)) (by decide) (by decide)) (g := (mkF m 31 #[.val (.ref a)] [(.ref b81), (.ref b81), (.ref a)])) rfl (by rw [hml]; rfl) (Steps.refl _) (a := b81) (argsL := []) (rest := [(.ref b81), (.ref a)]) (lenOf pd_0 rfl) rfl (by show 2 * 0 + _ ≤ _; exact Nat.le_of_eq rfl) (hb hby d2_31) (fun _ _ => ⟨rfl, e81, (by decide : 3 + 0 ≤ _), (by decide : 19 + 0 ≤ _)⟩)
  dsimp only [Pt.U, Pt.locs, Pt.cells, Pt.slots] at X95 l95 y95 z95 st95 hQ95
  subst l95 y95 z95
  obtain ⟨rfl, N95q, K95, Ec95⟩ := hQ95
  have N95 := Fr.app N68 N95q
  have pre96 : ∀ t, Steps p.tables e below (T95.setTop (mkF m 34 #[.val (.ref a)] [(.ref b81), (.ref a)])) t → Steps p.tables e below (s₁.setTop (entryFrame m #[(.ref a)] 1)) t := fun t k => pre93 t (st95.trans k)
  have Zz95 : n0 ≤ T95.heap.size := Nat.le_trans Zz81 K95.1
  have c97 := (c82).keep K95
  have c98 := (c83).keep K95 (ninS ne_a_b81 (nin0))
  have c99 := (c84).keep K95 (ninS ne_a_b81 (nin0))
  have c100 := (c85).keep K95 (ninS ne_a_b81 (nin0))
  have c101 := (c86).keep K95 (ninS ne_a_b81 (nin0))
  have c102 := own_sta c87 K95 A81
  have c103 := (c88).keep K95
  have c104 := (c89).keep K95 (ninS ne_a_b81 (nin0))
  have c105 := (c90).keep K95
  have c106 := (c91).keep K95 (ninS ne_a_b81 (nin0))
  have c107 := (A81).keep K95
  have K95k : Keep h0 T95.heap [a] := (Ke81).trans K95 (allS (Or.inr sz_b81) (all0))
  obtain ⟨T109, h109, X109, e109, W109, st109⟩ := putF X95 hx hZ hown (host := "") (Or.inl (hw _ (List.mem_of_getElem? (i := 57) rfl))) Via.refl rfl c98 c97 (Or.inr ⟨(hw _ (List.mem_of_getElem? (i := 58) rfl)), rfl, hnm⟩) (hw _ (List.mem_of_getElem? (i := 5) rfl)) (ty := (.object "java/util/Map")) (by decide) rfl rfl (g := (mkF m 34 #[.val (.ref a)] [(.ref b81), (.ref a)])) rfl rfl (hb hby d2_34)
  have Fw109 : Fld Z h109 a "com/example/lean_lifecycle/leanlifecycle/ActivityManager" "toFinish" "Ljava/util/Map;" (.ref b81) := (c98).same W109
  have c110 := (c97).wr W109
  have c112 := (c99).other W109 (Or.inr (slot_ne (Or.inl (hw _ (List.mem_of_getElem? (i := 60) rfl))) (Or.inr (hw _ (List.mem_of_getElem? (i := 58) rfl))) (by decide) (t := .boolean) (t' := (.object "java/util/Map")) (by decide) (by decide)))
  have c113 := (c100).other W109 (Or.inr (slot_ne (Or.inl (hw _ (List.mem_of_getElem? (i := 67) rfl))) (Or.inr (hw _ (List.mem_of_getElem? (i := 58) rfl))) (by decide) (t := .int) (t' := (.object "java/util/Map")) (by decide) (by decide)))
  have c114 := (c101).other W109 (Or.inr (slot_ne (Or.inl (hw _ (List.mem_of_getElem? (i := 69) rfl))) (Or.inr (hw _ (List.mem_of_getElem? (i := 58) rfl))) (by decide) (t := .boolean) (t' := (.object "java/util/Map")) (by decide) (by decide)))
  have c115 := (c102).wr W109
  have c116 := (c103).wr W109
  have c117 := (c104).other W109 (Or.inr (slot_ne (Or.inr (hw _ (List.mem_of_getElem? (i := 38) rfl))) (Or.inr (hw _ (List.mem_of_getElem? (i := 58) rfl))) (by decide) (t := (.object "java/util/List")) (t' := (.object "java/util/Map")) (by decide) (by decide)))
  have c118 := (c105).wr W109
  have c119 := (c106).other W109 (Or.inr (slot_ne (Or.inr (hw _ (List.mem_of_getElem? (i := 56) rfl))) (Or.inr (hw _ (List.mem_of_getElem? (i := 58) rfl))) (by decide) (t := (.object "java/util/Map")) (t' := (.object "java/util/Map")) (by decide) (by decide)))
  have c120 := (Ec95).wr W109
  have N109 := Fr.snoc X109 N95 ga
  have Zz109 : n0 ≤ h109.size := Nat.le_trans Zz95 (Keep.of_wr W109).1
  have pre121 : ∀ t, Steps p.tables e below (T109.setTop (mkF m 37 #[.val (.ref a)] [])) t → Steps p.tables e below (s₁.setTop (entryFrame m #[(.ref a)] 1)) t := fun t k => pre96 t (st109 _ k)
  have Kp109 : Keep h0 h109 [a] := (K95k).wr W109 (Or.inl (List.mem_of_getElem? (i := 0) rfl))
  have pre122 : ∀ t, Steps p.tables e below (T109.setTop (mkF m 39 #[.val (.ref a)] [(.int (1 : Int32)), (.ref a)])) t → Steps p.tables e below (s₁.setTop (entryFrame m #[(.ref a)] 1)) t := fun t k => pre121 t (by
    show Steps p.tables e below (T109.setTop (mkF m 37 #[.val (.ref a)] [])) _
    refine XS.aloadN X109.here hx rfl (hb hby d2_37) rfl rfl ?_
    show Steps p.tables e below (T109.setTop (mkF m 38 #[.val (.ref a)] [(.ref a)])) _
    refine XS.iconst X109.here hx rfl (hb hby d2_38) ?_
    show Steps p.tables e below (T109.setTop (mkF m 39 #[.val (.ref a)] [(.int (1 : Int32)), (.ref a)])) _
    exact k)
  obtain ⟨T123, h123, X123, e123, W123, st123⟩ := putFN X109 hx hZ hown (hw _ (List.mem_of_getElem? (i := 59) rfl)) Via.refl e109 c112 c110 (Or.inl (hw _ (List.mem_of_getElem? (i := 60) rfl))) (hw _ (List.mem_of_getElem? (i := 5) rfl)) (ty := .boolean) (v' := (.int (1 : Int32))) (by decide) rfl (by decide) (g := (mkF m 39 #[.val (.ref a)] [(.int (1 : Int32)), (.ref a)])) rfl rfl (hb hby d2_39)
  have Fw123 : Fld Z h123 a "com/example/lean_lifecycle/leanlifecycle/ActivityManager" "inFront" "Z" (.int (1 : Int32)) := (c112).same W123
  have c124 := (c110).wr W123
  have c126 := (c113).other W123 (Or.inr (slot_ne (Or.inl (hw _ (List.mem_of_getElem? (i := 67) rfl))) (Or.inl (hw _ (List.mem_of_getElem? (i := 60) rfl))) (by decide) (t := .int) (t' := .boolean) (by decide) (by decide)))
  have c127 := (c114).other W123 (Or.inr (slot_ne (Or.inl (hw _ (List.mem_of_getElem? (i := 69) rfl))) (Or.inl (hw _ (List.mem_of_getElem? (i := 60) rfl))) (by decide) (t := .boolean) (t' := .boolean) (by decide) (by decide)))
  have c128 := (c115).wr W123
  have c129 := (c116).wr W123
  have c130 := (c117).other W123 (Or.inr (slot_ne (Or.inr (hw _ (List.mem_of_getElem? (i := 38) rfl))) (Or.inl (hw _ (List.mem_of_getElem? (i := 60) rfl))) (by decide) (t := (.object "java/util/List")) (t' := .boolean) (by decide) (by decide)))
  have c131 := (c118).wr W123
  have c132 := (c119).other W123 (Or.inr (slot_ne (Or.inr (hw _ (List.mem_of_getElem? (i := 56) rfl))) (Or.inl (hw _ (List.mem_of_getElem? (i := 60) rfl))) (by decide) (t := (.object "java/util/Map")) (t' := .boolean) (by decide) (by decide)))
  have c133 := (c120).wr W123
  have c134 := (Fw109).other W123 (Or.inr (slot_ne (Or.inr (hw _ (List.mem_of_getElem? (i := 58) rfl))) (Or.inl (hw _ (List.mem_of_getElem? (i := 60) rfl))) (by decide) (t := (.object "java/util/Map")) (t' := .boolean) (by decide) (by decide)))
  have N123 := Fr.snoc X123 N109 ga
  have Zz123 : n0 ≤ h123.size := Nat.le_trans Zz109 (Keep.of_wr W123).1
  have pre135 : ∀ t, Steps p.tables e below (T123.setTop (mkF m 42 #[.val (.ref a)] [])) t → Steps p.tables e below (s₁.setTop (entryFrame m #[(.ref a)] 1)) t := fun t k => pre122 t (st123 _ k)
  have Kp123 : Keep h0 h123 [a] := (Kp109).wr W123 (Or.inl (List.mem_of_getElem? (i := 0) rfl))
  obtain ⟨fs, hr, hrun, hended, hW, hsame⟩ := X123.leave (v := none) (fun _ => rfl)
  refine ⟨_, _, pre135 _ ?_, hrun, hended, _, _, rfl, ?_, ⟨_, rfl⟩, hW, hsame.mono (by decide) (by decide)⟩
  · show Steps p.tables e below (T123.setTop (mkF m 42 #[.val (.ref a)] [])) _
    exact X123.returnOut hx Bd.returns (hb hby d2_42) hr
  · show Q2 Z a w_DEFAULTCAPACITY_EMPTY_ELEMENTDATA h0 n0 _ T123.heap _
    rw [e123]
    exact ⟨rfl, N123, Kp123, c124, Fw123, c126, c127⟩
theorem d12_0 : decode prog_4_method_36_code 0 = .ok (.aload_n 0, 1) := by decide +kernel
theorem d12_1 : decode prog_4_method_36_code 1 = .ok (.iload_n 1, 1) := by decide +kernel
theorem d12_2 : decode prog_4_method_36_code 2 = .ok (.putfield 26, 3) := by decide +kernel
theorem d12_5 : decode prog_4_method_36_code 5 = .ok (.return_, 1) := by decide +kernel
theorem ef_12 (m : MethodId) (x0 : Addr) (x1 : Int32) : entryFrame m #[(.ref x0), (.int x1)] 2 = mkF m 0 #[.val (.ref x0), .val (.int x1)] [] := by first | (simp [entryFrame, mkF, argsToLocals, Value.category]; done) | rfl
def Q12 (Z : State) (a : Addr) (x1 : Int32) (u_inFront : Int32) (u_frontMovesPosted : Int32) (u_inFrontAsPosted : Int32) (h0 : Heap) (n0 : Nat) (v : Option Value) (h : Heap) (L : List Loc) : Prop := v = none ∧ Fr n0 L ∧ Keep h0 h [a] ∧ Exa Z h a "com/example/lean_lifecycle/leanlifecycle/ActivityManager" ∧ Fld Z h a "com/example/lean_lifecycle/leanlifecycle/ActivityManager" "inFront" "Z" (.int (nar .boolean x1)) ∧ Fld Z h a "com/example/lean_lifecycle/leanlifecycle/ActivityManager" "frontMovesPosted" "I" (.int u_frontMovesPosted) ∧ Fld Z h a "com/example/lean_lifecycle/leanlifecycle/ActivityManager" "inFrontAsPosted" "Z" (.int u_inFrontAsPosted)
set_option maxRecDepth 65536 in
set_option maxHeartbeats 40000000 in
theorem rm12 (l : Launch) (Z : State) (a0 : Array Value) (hw : ∀ d ∈ tables_1, d.before a0 Z = true) (ws : List Jvm.Cond) (a : Addr) (x1 : Int32) (u_inFront : Int32) (u_frontMovesPosted : Int32) (u_inFrontAsPosted : Int32) (h0 : Heap) (n0 : Nat) (Z0 : n0 ≤ h0.size) (Ea : Exa Z h0 a "com/example/lean_lifecycle/leanlifecycle/ActivityManager") (F_inFront : Fld Z h0 a "com/example/lean_lifecycle/leanlifecycle/ActivityManager" "inFront" "Z" (.int u_inFront)) (F_frontMovesPosted : Fld Z h0 a "com/example/lean_lifecycle/leanlifecycle/ActivityManager" "frontMovesPosted" "I" (.int u_frontMovesPosted)) (F_inFrontAsPosted : Fld Z h0 a "com/example/lean_lifecycle/leanlifecycle/ActivityManager" "inFrontAsPosted" "Z" (.int u_inFrontAsPosted)) (ga : n0 ≤ a) :
    MetFree l (⟨"com/example/lean_lifecycle/leanlifecycle/ActivityManager", "setInFront", "(Z)V"⟩ : MethodName) (head1 (Jvm.Cond.code (⟨"com/example/lean_lifecycle/leanlifecycle/ActivityManager", "setInFront", "(Z)V"⟩ : MethodName) prog_4_method_36_code 2 none :: ws) ({ frames := 0, cells := 0, slots := 0, locals := 0 } : Room)) (fun aa U => aa = #[(.ref a), (.int x1)] ∧ Z.Warmed39 U.vm ∧ U.heap = h0) (fun _ _ _ _ _ => True) (fun _ U o U' => ∃ v L, o = .returned v ∧ Q12 Z a x1 u_inFront u_frontMovesPosted u_inFrontAsPosted h0 n0 v U'.heap L ∧ FrameEnd U o U' L ({ frames := 0, cells := 0, slots := 0, locals := 0 } : Room).cells ({ frames := 0, cells := 0, slots := 0, locals := 0 } : Room).slots) := by
  refine MetFree.of_bodySF (plainFor_of_name pn_5) hisR ?_
  intro p e s m args below meth c s₁ Bd hml0 hP hK
  obtain ⟨rfl, hZ, hh⟩ := hP
  have hx := Bd.exec
  have hby := Bd.bytes
  have hml : c.maxLocals = 2 := hml0
  have hown : s.vm.findClass "com/example/lean_lifecycle/leanlifecycle/ActivityManager" = some m.cls := findClass_of_methodNamed Bd.named
  have hnm := (name_of_methodNamed Bd.named Bd.method).1
  have X0 : Stand p l e ({ frames := 0, cells := 0, slots := 0, locals := 0 } : Room) s m #[(.ref a), (.int x1)] below meth c s₁ [] 0 0 := Stand.of_body Bd
  have e0 : s₁.heap = h0 := by rw [← hh, Bd.state]; rfl
  have N0 := Fr.nil n0
  have pre0 : ∀ t, Steps p.tables e below (s₁.setTop (mkF m 0 #[.val (.ref a), .val (.int x1)] [])) t → Steps p.tables e below (s₁.setTop (entryFrame m #[(.ref a), (.int x1)] 2)) t := fun t k => castTop (ef_12 m a x1) k
  have pre1 : ∀ t, Steps p.tables e below (s₁.setTop (mkF m 2 #[.val (.ref a), .val (.int x1)] [(.int x1), (.ref a)])) t → Steps p.tables e below (s₁.setTop (entryFrame m #[(.ref a), (.int x1)] 2)) t := fun t k => pre0 t (by
    show Steps p.tables e below (s₁.setTop (mkF m 0 #[.val (.ref a), .val (.int x1)] [])) _
    refine XS.aloadN X0.here hx rfl (hb hby d12_0) rfl rfl ?_
    show Steps p.tables e below (s₁.setTop (mkF m 1 #[.val (.ref a), .val (.int x1)] [(.ref a)])) _
    refine XS.iloadN X0.here hx rfl (hb hby d12_1) rfl ?_
    show Steps p.tables e below (s₁.setTop (mkF m 2 #[.val (.ref a), .val (.int x1)] [(.int x1), (.ref a)])) _
    exact k)
  obtain ⟨T2, h2, X2, e2, W2, st2⟩ := putFN X0 hx hZ hown (hw _ (List.mem_of_getElem? (i := 59) rfl)) Via.refl e0 F_inFront Ea (Or.inl (hw _ (List.mem_of_getElem? (i := 60) rfl))) (hw _ (List.mem_of_getElem? (i := 5) rfl)) (ty := .boolean) (v' := (.int (nar .boolean x1))) (by decide) rfl (fits_nar_bool _) (g := (mkF m 2 #[.val (.ref a), .val (.int x1)] [(.int x1), (.ref a)])) rfl rfl (hb hby d12_2)
  have Fw2 : Fld Z h2 a "com/example/lean_lifecycle/leanlifecycle/ActivityManager" "inFront" "Z" (.int (nar .boolean x1)) := (F_inFront).same W2
  have c3 := (Ea).wr W2
  have c5 := (F_frontMovesPosted).other W2 (Or.inr (slot_ne (Or.inl (hw _ (List.mem_of_getElem? (i := 67) rfl))) (Or.inl (hw _ (List.mem_of_getElem? (i := 60) rfl))) (by decide) (t := .int) (t' := .boolean) (by decide) (by decide)))
  have c6 := (F_inFrontAsPosted).other W2 (Or.inr (slot_ne (Or.inl (hw _ (List.mem_of_getElem? (i := 69) rfl))) (Or.inl (hw _ (List.mem_of_getElem? (i := 60) rfl))) (by decide) (t := .boolean) (t' := .boolean) (by decide) (by decide)))
  have N2 := Fr.snoc X2 N0 ga
  have Zz2 : n0 ≤ h2.size := Nat.le_trans Z0 (Keep.of_wr W2).1
  have pre7 : ∀ t, Steps p.tables e below (T2.setTop (mkF m 5 #[.val (.ref a), .val (.int x1)] [])) t → Steps p.tables e below (s₁.setTop (entryFrame m #[(.ref a), (.int x1)] 2)) t := fun t k => pre1 t (st2 _ k)
  have Kp2 : Keep h0 h2 [a] := ((Keep.refl h0 [a])).wr W2 (Or.inl (List.mem_of_getElem? (i := 0) rfl))
  obtain ⟨fs, hr, hrun, hended, hW, hsame⟩ := X2.leave (v := none) (fun _ => rfl)
  refine ⟨_, _, pre7 _ ?_, hrun, hended, _, _, rfl, ?_, ⟨_, rfl⟩, hW, hsame.mono (by decide) (by decide)⟩
  · show Steps p.tables e below (T2.setTop (mkF m 5 #[.val (.ref a), .val (.int x1)] [])) _
    exact X2.returnOut hx Bd.returns (hb hby d12_5) hr
  · show Q12 Z a x1 u_inFront u_frontMovesPosted u_inFrontAsPosted h0 n0 _ T2.heap _
    rw [e2]
    exact ⟨rfl, N2, Kp2, c3, Fw2, c5, c6⟩
theorem d9_0 : decode prog_4_method_38_code 0 = .ok (.aload_n 0, 1) := by decide +kernel
theorem d9_1 : decode prog_4_method_38_code 1 = .ok (.dup, 1) := by decide +kernel
theorem d9_2 : decode prog_4_method_38_code 2 = .ok (.getfield 265, 3) := by decide +kernel
theorem d9_5 : decode prog_4_method_38_code 5 = .ok (.iconst 1, 1) := by decide +kernel
theorem d9_6 : decode prog_4_method_38_code 6 = .ok (.iadd, 1) := by decide +kernel
theorem d9_7 : decode prog_4_method_38_code 7 = .ok (.putfield 265, 3) := by decide +kernel
theorem d9_10 : decode prog_4_method_38_code 10 = .ok (.aload_n 0, 1) := by decide +kernel
theorem d9_11 : decode prog_4_method_38_code 11 = .ok (.iload_n 1, 1) := by decide +kernel
theorem d9_12 : decode prog_4_method_38_code 12 = .ok (.putfield 269, 3) := by decide +kernel
theorem d9_15 : decode prog_4_method_38_code 15 = .ok (.return_, 1) := by decide +kernel
theorem ef_9 (m : MethodId) (x0 : Addr) (x1 : Int32) : entryFrame m #[(.ref x0), (.int x1)] 2 = mkF m 0 #[.val (.ref x0), .val (.int x1)] [] := by first | (simp [entryFrame, mkF, argsToLocals, Value.category]; done) | rfl
def Q9 (Z : State) (a : Addr) (x1 : Int32) (u_inFront : Int32) (u_frontMovesPosted : Int32) (u_inFrontAsPosted : Int32) (h0 : Heap) (n0 : Nat) (v : Option Value) (h : Heap) (L : List Loc) : Prop := v = none ∧ Fr n0 L ∧ Keep h0 h [a] ∧ Exa Z h a "com/example/lean_lifecycle/leanlifecycle/ActivityManager" ∧ Fld Z h a "com/example/lean_lifecycle/leanlifecycle/ActivityManager" "inFront" "Z" (.int u_inFront) ∧ Fld Z h a "com/example/lean_lifecycle/leanlifecycle/ActivityManager" "frontMovesPosted" "I" (.int (u_frontMovesPosted + (1 : Int32))) ∧ Fld Z h a "com/example/lean_lifecycle/leanlifecycle/ActivityManager" "inFrontAsPosted" "Z" (.int (nar .boolean x1))
set_option maxRecDepth 65536 in
set_option maxHeartbeats 40000000 in
theorem rm9 (l : Launch) (Z : State) (a0 : Array Value) (hw : ∀ d ∈ tables_1, d.before a0 Z = true) (ws : List Jvm.Cond) (a : Addr) (x1 : Int32) (u_inFront : Int32) (u_frontMovesPosted : Int32) (u_inFrontAsPosted : Int32) (h0 : Heap) (n0 : Nat) (Z0 : n0 ≤ h0.size) (Ea : Exa Z h0 a "com/example/lean_lifecycle/leanlifecycle/ActivityManager") (F_inFront : Fld Z h0 a "com/example/lean_lifecycle/leanlifecycle/ActivityManager" "inFront" "Z" (.int u_inFront)) (F_frontMovesPosted : Fld Z h0 a "com/example/lean_lifecycle/leanlifecycle/ActivityManager" "frontMovesPosted" "I" (.int u_frontMovesPosted)) (F_inFrontAsPosted : Fld Z h0 a "com/example/lean_lifecycle/leanlifecycle/ActivityManager" "inFrontAsPosted" "Z" (.int u_inFrontAsPosted)) (ga : n0 ≤ a) :
    MetFree l (⟨"com/example/lean_lifecycle/leanlifecycle/ActivityManager", "postFrontMove", "(Z)V"⟩ : MethodName) (head1 (Jvm.Cond.code (⟨"com/example/lean_lifecycle/leanlifecycle/ActivityManager", "postFrontMove", "(Z)V"⟩ : MethodName) prog_4_method_38_code 2 none :: ws) ({ frames := 0, cells := 0, slots := 0, locals := 0 } : Room)) (fun aa U => aa = #[(.ref a), (.int x1)] ∧ Z.Warmed39 U.vm ∧ U.heap = h0) (fun _ _ _ _ _ => True) (fun _ U o U' => ∃ v L, o = .returned v ∧ Q9 Z a x1 u_inFront u_frontMovesPosted u_inFrontAsPosted h0 n0 v U'.heap L ∧ FrameEnd U o U' L ({ frames := 0, cells := 0, slots := 0, locals := 0 } : Room).cells ({ frames := 0, cells := 0, slots := 0, locals := 0 } : Room).slots) := by
  refine MetFree.of_bodySF (plainFor_of_name pn_5) hisR ?_
  intro p e s m args below meth c s₁ Bd hml0 hP hK
  obtain ⟨rfl, hZ, hh⟩ := hP
  have hx := Bd.exec
  have hby := Bd.bytes
  have hml : c.maxLocals = 2 := hml0
  have hown : s.vm.findClass "com/example/lean_lifecycle/leanlifecycle/ActivityManager" = some m.cls := findClass_of_methodNamed Bd.named
  have hnm := (name_of_methodNamed Bd.named Bd.method).1
  have X0 : Stand p l e ({ frames := 0, cells := 0, slots := 0, locals := 0 } : Room) s m #[(.ref a), (.int x1)] below meth c s₁ [] 0 0 := Stand.of_body Bd
  have e0 : s₁.heap = h0 := by rw [← hh, Bd.state]; rfl
  have N0 := Fr.nil n0
  have pre0 : ∀ t, Steps p.tables e below (s₁.setTop (mkF m 0 #[.val (.ref a), .val (.int x1)] [])) t → Steps p.tables e below (s₁.setTop (entryFrame m #[(.ref a), (.int x1)] 2)) t := fun t k => castTop (ef_9 m a x1) k
  have pre1 : ∀ t, Steps p.tables e below (s₁.setTop (mkF m 2 #[.val (.ref a), .val (.int x1)] [(.ref a), (.ref a)])) t → Steps p.tables e below (s₁.setTop (entryFrame m #[(.ref a), (.int x1)] 2)) t := fun t k => pre0 t (by
    show Steps p.tables e below (s₁.setTop (mkF m 0 #[.val (.ref a), .val (.int x1)] [])) _
    refine XS.aloadN X0.here hx rfl (hb hby d9_0) rfl rfl ?_
    show Steps p.tables e below (s₁.setTop (mkF m 1 #[.val (.ref a), .val (.int x1)] [(.ref a)])) _
    refine XS.dup X0.here hx rfl (hb hby d9_1) rfl rfl ?_
    show Steps p.tables e below (s₁.setTop (mkF m 2 #[.val (.ref a), .val (.int x1)] [(.ref a), (.ref a)])) _
    exact k)
  obtain ⟨T2, X2, e2, st2⟩ := getF X0 hx hZ hown (host := "") (Or.inl (hw _ (List.mem_of_getElem? (i := 66) rfl))) Via.refl e0 F_frontMovesPosted (g := (mkF m 2 #[.val (.ref a), .val (.int x1)] [(.ref a), (.ref a)])) rfl rfl (hb hby d9_2)
  have pre3 : ∀ t, Steps p.tables e below (T2.setTop (mkF m 5 #[.val (.ref a), .val (.int x1)] [(.int u_frontMovesPosted), (.ref a)])) t → Steps p.tables e below (s₁.setTop (entryFrame m #[(.ref a), (.int x1)] 2)) t := fun t k => pre1 t (st2 _ k)
  have pre4 : ∀ t, Steps p.tables e below (T2.setTop (mkF m 7 #[.val (.ref a), .val (.int x1)] [(.int (u_frontMovesPosted + (1 : Int32))), (.ref a)])) t → Steps p.tables e below (s₁.setTop (entryFrame m #[(.ref a), (.int x1)] 2)) t := fun t k => pre3 t (by
    show Steps p.tables e below (T2.setTop (mkF m 5 #[.val (.ref a), .val (.int x1)] [(.int u_frontMovesPosted), (.ref a)])) _
    refine XS.iconst X2.here hx rfl (hb hby d9_5) ?_
    show Steps p.tables e below (T2.setTop (mkF m 6 #[.val (.ref a), .val (.int x1)] [(.int (1 : Int32)), (.int u_frontMovesPosted), (.ref a)])) _
    refine XS.iadd X2.here hx rfl (hb hby d9_6) rfl ?_
    show Steps p.tables e below (T2.setTop (mkF m 7 #[.val (.ref a), .val (.int x1)] [(.int (u_frontMovesPosted + (1 : Int32))), (.ref a)])) _
    exact k)
  obtain ⟨T5, h5, X5, e5, W5, st5⟩ := putF X2 hx hZ hown (host := "") (Or.inl (hw _ (List.mem_of_getElem? (i := 66) rfl))) Via.refl e2 F_frontMovesPosted Ea (Or.inl (hw _ (List.mem_of_getElem? (i := 67) rfl))) (hw _ (List.mem_of_getElem? (i := 5) rfl)) (ty := .int) (by decide) rfl rfl (g := (mkF m 7 #[.val (.ref a), .val (.int x1)] [(.int (u_frontMovesPosted + (1 : Int32))), (.ref a)])) rfl rfl (hb hby d9_7)
  have Fw5 : Fld Z h5 a "com/example/lean_lifecycle/leanlifecycle/ActivityManager" "frontMovesPosted" "I" (.int (u_frontMovesPosted + (1 : Int32))) := (F_frontMovesPosted).same W5
  have c6 := (Ea).wr W5
  have c7 := (F_inFront).other W5 (Or.inr (slot_ne (Or.inl (hw _ (List.mem_of_getElem? (i := 60) rfl))) (Or.inl (hw _ (List.mem_of_getElem? (i := 67) rfl))) (by decide) (t := .boolean) (t' := .int) (by decide) (by decide)))
  have c9 := (F_inFrontAsPosted).other W5 (Or.inr (slot_ne (Or.inl (hw _ (List.mem_of_getElem? (i := 69) rfl))) (Or.inl (hw _ (List.mem_of_getElem? (i := 67) rfl))) (by decide) (t := .boolean) (t' := .int) (by decide) (by decide)))
  have N5 := Fr.snoc X5 N0 ga
  have Zz5 : n0 ≤ h5.size := Nat.le_trans Z0 (Keep.of_wr W5).1
  have pre10 : ∀ t, Steps p.tables e below (T5.setTop (mkF m 10 #[.val (.ref a), .val (.int x1)] [])) t → Steps p.tables e below (s₁.setTop (entryFrame m #[(.ref a), (.int x1)] 2)) t := fun t k => pre4 t (st5 _ k)
  have Kp5 : Keep h0 h5 [a] := ((Keep.refl h0 [a])).wr W5 (Or.inl (List.mem_of_getElem? (i := 0) rfl))
  have pre11 : ∀ t, Steps p.tables e below (T5.setTop (mkF m 12 #[.val (.ref a), .val (.int x1)] [(.int x1), (.ref a)])) t → Steps p.tables e below (s₁.setTop (entryFrame m #[(.ref a), (.int x1)] 2)) t := fun t k => pre10 t (by
    show Steps p.tables e below (T5.setTop (mkF m 10 #[.val (.ref a), .val (.int x1)] [])) _
    refine XS.aloadN X5.here hx rfl (hb hby d9_10) rfl rfl ?_
    show Steps p.tables e below (T5.setTop (mkF m 11 #[.val (.ref a), .val (.int x1)] [(.ref a)])) _
    refine XS.iloadN X5.here hx rfl (hb hby d9_11) rfl ?_
    show Steps p.tables e below (T5.setTop (mkF m 12 #[.val (.ref a), .val (.int x1)] [(.int x1), (.ref a)])) _
    exact k)
  obtain ⟨T12, h12, X12, e12, W12, st12⟩ := putFN X5 hx hZ hown (hw _ (List.mem_of_getElem? (i := 68) rfl)) Via.refl e5 c9 c6 (Or.inl (hw _ (List.mem_of_getElem? (i := 69) rfl))) (hw _ (List.mem_of_getElem? (i := 5) rfl)) (ty := .boolean) (v' := (.int (nar .boolean x1))) (by decide) rfl (fits_nar_bool _) (g := (mkF m 12 #[.val (.ref a), .val (.int x1)] [(.int x1), (.ref a)])) rfl rfl (hb hby d9_12)
  have Fw12 : Fld Z h12 a "com/example/lean_lifecycle/leanlifecycle/ActivityManager" "inFrontAsPosted" "Z" (.int (nar .boolean x1)) := (c9).same W12
  have c13 := (c6).wr W12
  have c14 := (c7).other W12 (Or.inr (slot_ne (Or.inl (hw _ (List.mem_of_getElem? (i := 60) rfl))) (Or.inl (hw _ (List.mem_of_getElem? (i := 69) rfl))) (by decide) (t := .boolean) (t' := .boolean) (by decide) (by decide)))
  have c16 := (Fw5).other W12 (Or.inr (slot_ne (Or.inl (hw _ (List.mem_of_getElem? (i := 67) rfl))) (Or.inl (hw _ (List.mem_of_getElem? (i := 69) rfl))) (by decide) (t := .int) (t' := .boolean) (by decide) (by decide)))
  have N12 := Fr.snoc X12 N5 ga
  have Zz12 : n0 ≤ h12.size := Nat.le_trans Zz5 (Keep.of_wr W12).1
  have pre17 : ∀ t, Steps p.tables e below (T12.setTop (mkF m 15 #[.val (.ref a), .val (.int x1)] [])) t → Steps p.tables e below (s₁.setTop (entryFrame m #[(.ref a), (.int x1)] 2)) t := fun t k => pre11 t (st12 _ k)
  have Kp12 : Keep h0 h12 [a] := (Kp5).wr W12 (Or.inl (List.mem_of_getElem? (i := 0) rfl))
  obtain ⟨fs, hr, hrun, hended, hW, hsame⟩ := X12.leave (v := none) (fun _ => rfl)
  refine ⟨_, _, pre17 _ ?_, hrun, hended, _, _, rfl, ?_, ⟨_, rfl⟩, hW, hsame.mono (by decide) (by decide)⟩
  · show Steps p.tables e below (T12.setTop (mkF m 15 #[.val (.ref a), .val (.int x1)] [])) _
    exact X12.returnOut hx Bd.returns (hb hby d9_15) hr
  · show Q9 Z a x1 u_inFront u_frontMovesPosted u_inFrontAsPosted h0 n0 _ T12.heap _
    rw [e12]
    exact ⟨rfl, N12, Kp12, c13, c14, c16, Fw12⟩
theorem d13_0 : decode prog_4_method_39_code 0 = .ok (.aload_n 0, 1) := by decide +kernel
theorem d13_1 : decode prog_4_method_39_code 1 = .ok (.dup, 1) := by decide +kernel
theorem d13_2 : decode prog_4_method_39_code 2 = .ok (.getfield 265, 3) := by decide +kernel
theorem d13_5 : decode prog_4_method_39_code 5 = .ok (.iconst 1, 1) := by decide +kernel
theorem d13_6 : decode prog_4_method_39_code 6 = .ok (.isub, 1) := by decide +kernel
theorem d13_7 : decode prog_4_method_39_code 7 = .ok (.putfield 265, 3) := by decide +kernel
theorem d13_10 : decode prog_4_method_39_code 10 = .ok (.return_, 1) := by decide +kernel
theorem ef_13 (m : MethodId) (x0 : Addr) : entryFrame m #[(.ref x0)] 1 = mkF m 0 #[.val (.ref x0)] [] := by first | (simp [entryFrame, mkF, argsToLocals, Value.category]; done) | rfl
def Q13 (Z : State) (a : Addr) (u_inFront : Int32) (u_frontMovesPosted : Int32) (u_inFrontAsPosted : Int32) (h0 : Heap) (n0 : Nat) (v : Option Value) (h : Heap) (L : List Loc) : Prop := v = none ∧ Fr n0 L ∧ Keep h0 h [a] ∧ Exa Z h a "com/example/lean_lifecycle/leanlifecycle/ActivityManager" ∧ Fld Z h a "com/example/lean_lifecycle/leanlifecycle/ActivityManager" "inFront" "Z" (.int u_inFront) ∧ Fld Z h a "com/example/lean_lifecycle/leanlifecycle/ActivityManager" "frontMovesPosted" "I" (.int (u_frontMovesPosted - (1 : Int32))) ∧ Fld Z h a "com/example/lean_lifecycle/leanlifecycle/ActivityManager" "inFrontAsPosted" "Z" (.int u_inFrontAsPosted)
set_option maxRecDepth 65536 in
set_option maxHeartbeats 40000000 in
theorem rm13 (l : Launch) (Z : State) (a0 : Array Value) (hw : ∀ d ∈ tables_1, d.before a0 Z = true) (ws : List Jvm.Cond) (a : Addr) (u_inFront : Int32) (u_frontMovesPosted : Int32) (u_inFrontAsPosted : Int32) (h0 : Heap) (n0 : Nat) (Z0 : n0 ≤ h0.size) (Ea : Exa Z h0 a "com/example/lean_lifecycle/leanlifecycle/ActivityManager") (F_inFront : Fld Z h0 a "com/example/lean_lifecycle/leanlifecycle/ActivityManager" "inFront" "Z" (.int u_inFront)) (F_frontMovesPosted : Fld Z h0 a "com/example/lean_lifecycle/leanlifecycle/ActivityManager" "frontMovesPosted" "I" (.int u_frontMovesPosted)) (F_inFrontAsPosted : Fld Z h0 a "com/example/lean_lifecycle/leanlifecycle/ActivityManager" "inFrontAsPosted" "Z" (.int u_inFrontAsPosted)) (ga : n0 ≤ a) :
    MetFree l (⟨"com/example/lean_lifecycle/leanlifecycle/ActivityManager", "endFrontMove", "()V"⟩ : MethodName) (head1 (Jvm.Cond.code (⟨"com/example/lean_lifecycle/leanlifecycle/ActivityManager", "endFrontMove", "()V"⟩ : MethodName) prog_4_method_39_code 1 none :: ws) ({ frames := 0, cells := 0, slots := 0, locals := 0 } : Room)) (fun aa U => aa = #[(.ref a)] ∧ Z.Warmed39 U.vm ∧ U.heap = h0) (fun _ _ _ _ _ => True) (fun _ U o U' => ∃ v L, o = .returned v ∧ Q13 Z a u_inFront u_frontMovesPosted u_inFrontAsPosted h0 n0 v U'.heap L ∧ FrameEnd U o U' L ({ frames := 0, cells := 0, slots := 0, locals := 0 } : Room).cells ({ frames := 0, cells := 0, slots := 0, locals := 0 } : Room).slots) := by
  refine MetFree.of_bodySF (plainFor_of_name pn_5) hisR ?_
  intro p e s m args below meth c s₁ Bd hml0 hP hK
  obtain ⟨rfl, hZ, hh⟩ := hP
  have hx := Bd.exec
  have hby := Bd.bytes
  have hml : c.maxLocals = 1 := hml0
  have hown : s.vm.findClass "com/example/lean_lifecycle/leanlifecycle/ActivityManager" = some m.cls := findClass_of_methodNamed Bd.named
  have hnm := (name_of_methodNamed Bd.named Bd.method).1
  have X0 : Stand p l e ({ frames := 0, cells := 0, slots := 0, locals := 0 } : Room) s m #[(.ref a)] below meth c s₁ [] 0 0 := Stand.of_body Bd
  have e0 : s₁.heap = h0 := by rw [← hh, Bd.state]; rfl
  have N0 := Fr.nil n0
  have pre0 : ∀ t, Steps p.tables e below (s₁.setTop (mkF m 0 #[.val (.ref a)] [])) t → Steps p.tables e below (s₁.setTop (entryFrame m #[(.ref a)] 1)) t := fun t k => castTop (ef_13 m a) k
  have pre1 : ∀ t, Steps p.tables e below (s₁.setTop (mkF m 2 #[.val (.ref a)] [(.ref a), (.ref a)])) t → Steps p.tables e below (s₁.setTop (entryFrame m #[(.ref a)] 1)) t := fun t k => pre0 t (by
    show Steps p.tables e below (s₁.setTop (mkF m 0 #[.val (.ref a)] [])) _
    refine XS.aloadN X0.here hx rfl (hb hby d13_0) rfl rfl ?_
    show Steps p.tables e below (s₁.setTop (mkF m 1 #[.val (.ref a)] [(.ref a)])) _
    refine XS.dup X0.here hx rfl (hb hby d13_1) rfl rfl ?_
    show Steps p.tables e below (s₁.setTop (mkF m 2 #[.val (.ref a)] [(.ref a), (.ref a)])) _
    exact k)
  obtain ⟨T2, X2, e2, st2⟩ := getF X0 hx hZ hown (host := "") (Or.inl (hw _ (List.mem_of_getElem? (i := 66) rfl))) Via.refl e0 F_frontMovesPosted (g := (mkF m 2 #[.val (.ref a)] [(.ref a), (.ref a)])) rfl rfl (hb hby d13_2)
  have pre3 : ∀ t, Steps p.tables e below (T2.setTop (mkF m 5 #[.val (.ref a)] [(.int u_frontMovesPosted), (.ref a)])) t → Steps p.tables e below (s₁.setTop (entryFrame m #[(.ref a)] 1)) t := fun t k => pre1 t (st2 _ k)
  have pre4 : ∀ t, Steps p.tables e below (T2.setTop (mkF m 7 #[.val (.ref a)] [(.int (u_frontMovesPosted - (1 : Int32))), (.ref a)])) t → Steps p.tables e below (s₁.setTop (entryFrame m #[(.ref a)] 1)) t := fun t k => pre3 t (by
    show Steps p.tables e below (T2.setTop (mkF m 5 #[.val (.ref a)] [(.int u_frontMovesPosted), (.ref a)])) _
    refine XS.iconst X2.here hx rfl (hb hby d13_5) ?_
    show Steps p.tables e below (T2.setTop (mkF m 6 #[.val (.ref a)] [(.int (1 : Int32)), (.int u_frontMovesPosted), (.ref a)])) _
    refine XS.isub X2.here hx rfl (hb hby d13_6) rfl ?_
    show Steps p.tables e below (T2.setTop (mkF m 7 #[.val (.ref a)] [(.int (u_frontMovesPosted - (1 : Int32))), (.ref a)])) _
    exact k)
  obtain ⟨T5, h5, X5, e5, W5, st5⟩ := putF X2 hx hZ hown (host := "") (Or.inl (hw _ (List.mem_of_getElem? (i := 66) rfl))) Via.refl e2 F_frontMovesPosted Ea (Or.inl (hw _ (List.mem_of_getElem? (i := 67) rfl))) (hw _ (List.mem_of_getElem? (i := 5) rfl)) (ty := .int) (by decide) rfl rfl (g := (mkF m 7 #[.val (.ref a)] [(.int (u_frontMovesPosted - (1 : Int32))), (.ref a)])) rfl rfl (hb hby d13_7)
  have Fw5 : Fld Z h5 a "com/example/lean_lifecycle/leanlifecycle/ActivityManager" "frontMovesPosted" "I" (.int (u_frontMovesPosted - (1 : Int32))) := (F_frontMovesPosted).same W5
  have c6 := (Ea).wr W5
  have c7 := (F_inFront).other W5 (Or.inr (slot_ne (Or.inl (hw _ (List.mem_of_getElem? (i := 60) rfl))) (Or.inl (hw _ (List.mem_of_getElem? (i := 67) rfl))) (by decide) (t := .boolean) (t' := .int) (by decide) (by decide)))
  have c9 := (F_inFrontAsPosted).other W5 (Or.inr (slot_ne (Or.inl (hw _ (List.mem_of_getElem? (i := 69) rfl))) (Or.inl (hw _ (List.mem_of_getElem? (i := 67) rfl))) (by decide) (t := .boolean) (t' := .int) (by decide) (by decide)))
  have N5 := Fr.snoc X5 N0 ga
  have Zz5 : n0 ≤ h5.size := Nat.le_trans Z0 (Keep.of_wr W5).1
  have pre10 : ∀ t, Steps p.tables e below (T5.setTop (mkF m 10 #[.val (.ref a)] [])) t → Steps p.tables e below (s₁.setTop (entryFrame m #[(.ref a)] 1)) t := fun t k => pre4 t (st5 _ k)
  have Kp5 : Keep h0 h5 [a] := ((Keep.refl h0 [a])).wr W5 (Or.inl (List.mem_of_getElem? (i := 0) rfl))
  obtain ⟨fs, hr, hrun, hended, hW, hsame⟩ := X5.leave (v := none) (fun _ => rfl)
  refine ⟨_, _, pre10 _ ?_, hrun, hended, _, _, rfl, ?_, ⟨_, rfl⟩, hW, hsame.mono (by decide) (by decide)⟩
  · show Steps p.tables e below (T5.setTop (mkF m 10 #[.val (.ref a)] [])) _
    exact X5.returnOut hx Bd.returns (hb hby d13_10) hr
  · show Q13 Z a u_inFront u_frontMovesPosted u_inFrontAsPosted h0 n0 _ T5.heap _
    rw [e5]
    exact ⟨rfl, N5, Kp5, c6, c7, Fw5, c9⟩
def F10 (u_inFront : Int32) (u_frontMovesPosted : Int32) (u_inFrontAsPosted : Int32) : Int32 := (if (0 : Int32) < u_frontMovesPosted then (nar .boolean u_inFrontAsPosted) else (nar .boolean u_inFront))
theorem d10_0 : decode prog_4_method_37_code 0 = .ok (.aload_n 0, 1) := by decide +kernel
theorem d10_1 : decode prog_4_method_37_code 1 = .ok (.getfield 265, 3) := by decide +kernel
theorem d10_4 : decode prog_4_method_37_code 4 = .ok (.ifCond .le 10, 3) := by decide +kernel
theorem d10_7 : decode prog_4_method_37_code 7 = .ok (.aload_n 0, 1) := by decide +kernel
theorem d10_8 : decode prog_4_method_37_code 8 = .ok (.getfield 269, 3) := by decide +kernel
theorem d10_11 : decode prog_4_method_37_code 11 = .ok (.goto 7, 3) := by decide +kernel
theorem d10_14 : decode prog_4_method_37_code 14 = .ok (.aload_n 0, 1) := by decide +kernel
theorem d10_15 : decode prog_4_method_37_code 15 = .ok (.getfield 26, 3) := by decide +kernel
theorem d10_18 : decode prog_4_method_37_code 18 = .ok (.ireturn, 1) := by decide +kernel
theorem ef_10 (m : MethodId) (x0 : Addr) : entryFrame m #[(.ref x0)] 1 = mkF m 0 #[.val (.ref x0)] [] := by first | (simp [entryFrame, mkF, argsToLocals, Value.category]; done) | rfl
def Q10 (Z : State) (a : Addr) (u_inFront : Int32) (u_frontMovesPosted : Int32) (u_inFrontAsPosted : Int32) (h0 : Heap) (n0 : Nat) (v : Option Value) (h : Heap) (L : List Loc) : Prop := ∃ z : Int32, v = some (.int z) ∧ Fr n0 L ∧ h = h0 ∧ (z = F10 u_inFront u_frontMovesPosted u_inFrontAsPosted)
set_option maxRecDepth 65536 in
set_option maxHeartbeats 40000000 in
theorem rm10 (l : Launch) (Z : State) (a0 : Array Value) (hw : ∀ d ∈ tables_1, d.before a0 Z = true) (ws : List Jvm.Cond) (a : Addr) (u_inFront : Int32) (u_frontMovesPosted : Int32) (u_inFrontAsPosted : Int32) (h0 : Heap) (n0 : Nat) (Z0 : n0 ≤ h0.size) (F_inFront : Fld Z h0 a "com/example/lean_lifecycle/leanlifecycle/ActivityManager" "inFront" "Z" (.int u_inFront)) (F_frontMovesPosted : Fld Z h0 a "com/example/lean_lifecycle/leanlifecycle/ActivityManager" "frontMovesPosted" "I" (.int u_frontMovesPosted)) (F_inFrontAsPosted : Fld Z h0 a "com/example/lean_lifecycle/leanlifecycle/ActivityManager" "inFrontAsPosted" "Z" (.int u_inFrontAsPosted)) :
    MetFree l (⟨"com/example/lean_lifecycle/leanlifecycle/ActivityManager", "isInFrontAsPosted", "()Z"⟩ : MethodName) (head1 (Jvm.Cond.code (⟨"com/example/lean_lifecycle/leanlifecycle/ActivityManager", "isInFrontAsPosted", "()Z"⟩ : MethodName) prog_4_method_37_code 1 (some .boolean) :: ws) ({ frames := 0, cells := 0, slots := 0, locals := 0 } : Room)) (fun aa U => aa = #[(.ref a)] ∧ Z.Warmed39 U.vm ∧ U.heap = h0) (fun _ _ _ _ _ => True) (fun _ U o U' => ∃ v L, o = .returned v ∧ Q10 Z a u_inFront u_frontMovesPosted u_inFrontAsPosted h0 n0 v U'.heap L ∧ FrameEnd U o U' L ({ frames := 0, cells := 0, slots := 0, locals := 0 } : Room).cells ({ frames := 0, cells := 0, slots := 0, locals := 0 } : Room).slots) := by
  refine MetFree.of_bodySF (plainFor_of_name pn_5) hisR ?_
  intro p e s m args below meth c s₁ Bd hml0 hP hK
  obtain ⟨rfl, hZ, hh⟩ := hP
  have hx := Bd.exec
  have hby := Bd.bytes
  have hml : c.maxLocals = 1 := hml0
  have hown : s.vm.findClass "com/example/lean_lifecycle/leanlifecycle/ActivityManager" = some m.cls := findClass_of_methodNamed Bd.named
  have hnm := (name_of_methodNamed Bd.named Bd.method).1
  have X0 : Stand p l e ({ frames := 0, cells := 0, slots := 0, locals := 0 } : Room) s m #[(.ref a)] below meth c s₁ [] 0 0 := Stand.of_body Bd
  have e0 : s₁.heap = h0 := by rw [← hh, Bd.state]; rfl
  have N0 := Fr.nil n0
  have pre0 : ∀ t, Steps p.tables e below (s₁.setTop (mkF m 0 #[.val (.ref a)] [])) t → Steps p.tables e below (s₁.setTop (entryFrame m #[(.ref a)] 1)) t := fun t k => castTop (ef_10 m a) k
  have pre1 : ∀ t, Steps p.tables e below (s₁.setTop (mkF m 1 #[.val (.ref a)] [(.ref a)])) t → Steps p.tables e below (s₁.setTop (entryFrame m #[(.ref a)] 1)) t := fun t k => pre0 t (by
    show Steps p.tables e below (s₁.setTop (mkF m 0 #[.val (.ref a)] [])) _
    refine XS.aloadN X0.here hx rfl (hb hby d10_0) rfl rfl ?_
    show Steps p.tables e below (s₁.setTop (mkF m 1 #[.val (.ref a)] [(.ref a)])) _
    exact k)
  obtain ⟨T2, X2, e2, st2⟩ := getF X0 hx hZ hown (host := "") (Or.inl (hw _ (List.mem_of_getElem? (i := 66) rfl))) Via.refl e0 F_frontMovesPosted (g := (mkF m 1 #[.val (.ref a)] [(.ref a)])) rfl rfl (hb hby d10_1)
  have pre3 : ∀ t, Steps p.tables e below (T2.setTop (mkF m 4 #[.val (.ref a)] [(.int u_frontMovesPosted)])) t → Steps p.tables e below (s₁.setTop (entryFrame m #[(.ref a)] 1)) t := fun t k => pre1 t (st2 _ k)
  by_cases hc4 : (0 : Int32) < u_frontMovesPosted
  · skip
    have pre5 : ∀ t, Steps p.tables e below (T2.setTop (mkF m 8 #[.val (.ref a)] [(.ref a)])) t → Steps p.tables e below (s₁.setTop (entryFrame m #[(.ref a)] 1)) t := fun t k => pre3 t (by
      show Steps p.tables e below (T2.setTop (mkF m 4 #[.val (.ref a)] [(.int u_frontMovesPosted)])) _
      refine XS.ifNo X2.here hx rfl (hb hby d10_4) rfl ((if0 _ _).trans (tlt hc4).2.2.2) ?_
      show Steps p.tables e below (T2.setTop (mkF m 7 #[.val (.ref a)] [])) _
      refine XS.aloadN X2.here hx rfl (hb hby d10_7) rfl rfl ?_
      show Steps p.tables e below (T2.setTop (mkF m 8 #[.val (.ref a)] [(.ref a)])) _
      exact k)
    obtain ⟨T6, X6, e6, st6⟩ := getF X2 hx hZ hown (host := "") (Or.inl (hw _ (List.mem_of_getElem? (i := 68) rfl))) Via.refl e2 F_inFrontAsPosted (g := (mkF m 8 #[.val (.ref a)] [(.ref a)])) rfl rfl (hb hby d10_8)
    have pre7 : ∀ t, Steps p.tables e below (T6.setTop (mkF m 11 #[.val (.ref a)] [(.int u_inFrontAsPosted)])) t → Steps p.tables e below (s₁.setTop (entryFrame m #[(.ref a)] 1)) t := fun t k => pre5 t (st6 _ k)
    have pre8 : ∀ t, Steps p.tables e below (T6.setTop (mkF m 18 #[.val (.ref a)] [(.int u_inFrontAsPosted)])) t → Steps p.tables e below (s₁.setTop (entryFrame m #[(.ref a)] 1)) t := fun t k => pre7 t (by
      show Steps p.tables e below (T6.setTop (mkF m 11 #[.val (.ref a)] [(.int u_inFrontAsPosted)])) _
      refine XS.goto X6.here hx rfl (pc0 := 11) (pc' := 18) rfl (hb hby d10_11) (by decide) (by decide) ?_
      show Steps p.tables e below (T6.setTop (mkF m 18 #[.val (.ref a)] [(.int u_inFrontAsPosted)])) _
      exact k)
    obtain ⟨fs, hr, hrun, hended, hW, hsame⟩ := X6.leave (v := some (.int (nar .boolean u_inFrontAsPosted))) (fun h => by rw [Bd.returns] at h; cases h)
    refine ⟨_, _, pre8 _ ?_, hrun, hended, _, _, rfl, ?_, ⟨_, rfl⟩, hW, hsame.mono (by decide) (by decide)⟩
    · show Steps p.tables e below (T6.setTop (mkF m 18 #[.val (.ref a)] [(.int u_inFrontAsPosted)])) _
      exact retN X6 hx (t := .boolean) Bd.returns (by simp) (hb hby d10_18) hr
    · show Q10 Z a u_inFront u_frontMovesPosted u_inFrontAsPosted h0 n0 _ T6.heap _
      rw [e6]
      exact ⟨_, rfl, N0, rfl, by rw [F10, if_pos hc4]⟩
  · skip
    have pre9 : ∀ t, Steps p.tables e below (T2.setTop (mkF m 15 #[.val (.ref a)] [(.ref a)])) t → Steps p.tables e below (s₁.setTop (entryFrame m #[(.ref a)] 1)) t := fun t k => pre3 t (by
      show Steps p.tables e below (T2.setTop (mkF m 4 #[.val (.ref a)] [(.int u_frontMovesPosted)])) _
      refine XS.ifYes X2.here hx rfl (pc0 := 4) (pc' := 14) rfl (hb hby d10_4) rfl ((if0 _ _).trans (flt hc4).2.2.2) (by decide) (by decide) ?_
      show Steps p.tables e below (T2.setTop (mkF m 14 #[.val (.ref a)] [])) _
      refine XS.aloadN X2.here hx rfl (hb hby d10_14) rfl rfl ?_
      show Steps p.tables e below (T2.setTop (mkF m 15 #[.val (.ref a)] [(.ref a)])) _
      exact k)
    obtain ⟨T10, X10, e10, st10⟩ := getF X2 hx hZ hown (host := "") (Or.inl (hw _ (List.mem_of_getElem? (i := 59) rfl))) Via.refl e2 F_inFront (g := (mkF m 15 #[.val (.ref a)] [(.ref a)])) rfl rfl (hb hby d10_15)
    have pre11 : ∀ t, Steps p.tables e below (T10.setTop (mkF m 18 #[.val (.ref a)] [(.int u_inFront)])) t → Steps p.tables e below (s₁.setTop (entryFrame m #[(.ref a)] 1)) t := fun t k => pre9 t (st10 _ k)
    obtain ⟨fs, hr, hrun, hended, hW, hsame⟩ := X10.leave (v := some (.int (nar .boolean u_inFront))) (fun h => by rw [Bd.returns] at h; cases h)
    refine ⟨_, _, pre11 _ ?_, hrun, hended, _, _, rfl, ?_, ⟨_, rfl⟩, hW, hsame.mono (by decide) (by decide)⟩
    · show Steps p.tables e below (T10.setTop (mkF m 18 #[.val (.ref a)] [(.int u_inFront)])) _
      exact retN X10 hx (t := .boolean) Bd.returns (by simp) (hb hby d10_18) hr
    · show Q10 Z a u_inFront u_frontMovesPosted u_inFrontAsPosted h0 n0 _ T10.heap _
      rw [e10]
      exact ⟨_, rfl, N0, rfl, by rw [F10, if_neg hc4]⟩
def F11 (u_inFront : Int32) : Int32 := (nar .boolean u_inFront)
theorem d11_0 : decode prog_4_method_35_code 0 = .ok (.aload_n 0, 1) := by decide +kernel
theorem d11_1 : decode prog_4_method_35_code 1 = .ok (.getfield 26, 3) := by decide +kernel
theorem d11_4 : decode prog_4_method_35_code 4 = .ok (.ireturn, 1) := by decide +kernel
theorem ef_11 (m : MethodId) (x0 : Addr) : entryFrame m #[(.ref x0)] 1 = mkF m 0 #[.val (.ref x0)] [] := by first | (simp [entryFrame, mkF, argsToLocals, Value.category]; done) | rfl
def Q11 (Z : State) (a : Addr) (u_inFront : Int32) (h0 : Heap) (n0 : Nat) (v : Option Value) (h : Heap) (L : List Loc) : Prop := ∃ z : Int32, v = some (.int z) ∧ Fr n0 L ∧ h = h0 ∧ (z = F11 u_inFront)
set_option maxRecDepth 65536 in
set_option maxHeartbeats 40000000 in
theorem rm11 (l : Launch) (Z : State) (a0 : Array Value) (hw : ∀ d ∈ tables_1, d.before a0 Z = true) (ws : List Jvm.Cond) (a : Addr) (u_inFront : Int32) (h0 : Heap) (n0 : Nat) (Z0 : n0 ≤ h0.size) (F_inFront : Fld Z h0 a "com/example/lean_lifecycle/leanlifecycle/ActivityManager" "inFront" "Z" (.int u_inFront)) :
    MetFree l (⟨"com/example/lean_lifecycle/leanlifecycle/ActivityManager", "isInFront", "()Z"⟩ : MethodName) (head1 (Jvm.Cond.code (⟨"com/example/lean_lifecycle/leanlifecycle/ActivityManager", "isInFront", "()Z"⟩ : MethodName) prog_4_method_35_code 1 (some .boolean) :: ws) ({ frames := 0, cells := 0, slots := 0, locals := 0 } : Room)) (fun aa U => aa = #[(.ref a)] ∧ Z.Warmed39 U.vm ∧ U.heap = h0) (fun _ _ _ _ _ => True) (fun _ U o U' => ∃ v L, o = .returned v ∧ Q11 Z a u_inFront h0 n0 v U'.heap L ∧ FrameEnd U o U' L ({ frames := 0, cells := 0, slots := 0, locals := 0 } : Room).cells ({ frames := 0, cells := 0, slots := 0, locals := 0 } : Room).slots) := by
  refine MetFree.of_bodySF (plainFor_of_name pn_5) hisR ?_
  intro p e s m args below meth c s₁ Bd hml0 hP hK
  obtain ⟨rfl, hZ, hh⟩ := hP
  have hx := Bd.exec
  have hby := Bd.bytes
  have hml : c.maxLocals = 1 := hml0
  have hown : s.vm.findClass "com/example/lean_lifecycle/leanlifecycle/ActivityManager" = some m.cls := findClass_of_methodNamed Bd.named
  have hnm := (name_of_methodNamed Bd.named Bd.method).1
  have X0 : Stand p l e ({ frames := 0, cells := 0, slots := 0, locals := 0 } : Room) s m #[(.ref a)] below meth c s₁ [] 0 0 := Stand.of_body Bd
  have e0 : s₁.heap = h0 := by rw [← hh, Bd.state]; rfl
  have N0 := Fr.nil n0
  have pre0 : ∀ t, Steps p.tables e below (s₁.setTop (mkF m 0 #[.val (.ref a)] [])) t → Steps p.tables e below (s₁.setTop (entryFrame m #[(.ref a)] 1)) t := fun t k => castTop (ef_11 m a) k
  have pre1 : ∀ t, Steps p.tables e below (s₁.setTop (mkF m 1 #[.val (.ref a)] [(.ref a)])) t → Steps p.tables e below (s₁.setTop (entryFrame m #[(.ref a)] 1)) t := fun t k => pre0 t (by
    show Steps p.tables e below (s₁.setTop (mkF m 0 #[.val (.ref a)] [])) _
    refine XS.aloadN X0.here hx rfl (hb hby d11_0) rfl rfl ?_
    show Steps p.tables e below (s₁.setTop (mkF m 1 #[.val (.ref a)] [(.ref a)])) _
    exact k)
  obtain ⟨T2, X2, e2, st2⟩ := getF X0 hx hZ hown (host := "") (Or.inl (hw _ (List.mem_of_getElem? (i := 59) rfl))) Via.refl e0 F_inFront (g := (mkF m 1 #[.val (.ref a)] [(.ref a)])) rfl rfl (hb hby d11_1)
  have pre3 : ∀ t, Steps p.tables e below (T2.setTop (mkF m 4 #[.val (.ref a)] [(.int u_inFront)])) t → Steps p.tables e below (s₁.setTop (entryFrame m #[(.ref a)] 1)) t := fun t k => pre1 t (st2 _ k)
  obtain ⟨fs, hr, hrun, hended, hW, hsame⟩ := X2.leave (v := some (.int (nar .boolean u_inFront))) (fun h => by rw [Bd.returns] at h; cases h)
  refine ⟨_, _, pre3 _ ?_, hrun, hended, _, _, rfl, ?_, ⟨_, rfl⟩, hW, hsame.mono (by decide) (by decide)⟩
  · show Steps p.tables e below (T2.setTop (mkF m 4 #[.val (.ref a)] [(.int u_inFront)])) _
    exact retN X2 hx (t := .boolean) Bd.returns (by simp) (hb hby d11_4) hr
  · show Q11 Z a u_inFront h0 n0 _ T2.heap _
    rw [e2]
    exact ⟨_, rfl, N0, rfl, by rw [F11]⟩
theorem own_min (y k r : Int32) (hy : y = 0 ∨ y = 1 ∨ y = 2 ∨ y = 3) (hk : k = 0 ∨ k = 1 ∨ k = 2 ∨ k = 3) (h : r = F1 y k) : (k = 0 ∧ r = 0) ∨ (k = 1 ∧ r = 0) ∨ (k = 1 ∧ r = 1) ∨ (k = 2 ∧ r = 0) ∨ (k = 2 ∧ r = 1) ∨ (k = 2 ∧ r = 2) ∨ (k = 3 ∧ r = 0) ∨ (k = 3 ∧ r = 1) ∨ (k = 3 ∧ r = 2) ∨ (k = 3 ∧ r = 3) := by
  subst h
  rcases hy with rfl | rfl | rfl | rfl <;> rcases hk with rfl | rfl | rfl | rfl <;> decide +kernel
theorem own_core (f a b c k r : Int32) (v72 v73 v87 v88 v102 v103 v117 v131 v145 v165 v167 v169 r173 v186 : Int32) (hf : f = 0 ∨ f = 1) (ha : a = 0 ∨ a = 1) (hb : b = 0 ∨ b = 1) (hc : c = 0 ∨ c = 1) (h45 : (k = 0 ∧ r = 0) ∨ (k = 1 ∧ r = 0) ∨ (k = 1 ∧ r = 1) ∨ (k = 2 ∧ r = 0) ∨ (k = 2 ∧ r = 1) ∨ (k = 2 ∧ r = 2) ∨ (k = 3 ∧ r = 0) ∨ (k = 3 ∧ r = 1) ∨ (k = 3 ∧ r = 2) ∨ (k = 3 ∧ r = 3))
    (hv72 : v72 = (if k < (1 : Int32) then (0 : Int32) else ((0 : Int32) + (1 : Int32)))) (hv73 : v73 = (if k < (1 : Int32) then (0 : Int32) else (nar .boolean a))) (hv87 : v87 = (if k < (2 : Int32) then v72 else (v72 + (1 : Int32)))) (hv88 : v88 = (if k < (2 : Int32) then v73 else (nar .boolean b))) (hv102 : v102 = (if k < (3 : Int32) then v87 else (v87 + (1 : Int32)))) (hv103 : v103 = (if k < (3 : Int32) then v88 else (nar .boolean c))) (hv117 : v117 = (if r < (1 : Int32) then v102 else (v102 - (1 : Int32)))) (hv131 : v131 = (if r < (2 : Int32) then v117 else (v117 - (1 : Int32)))) (hv145 : v145 = (if r < (3 : Int32) then v131 else (v131 - (1 : Int32)))) (hv165 : v165 = (if k = (3 : Int32) then c else (if k = (2 : Int32) then b else a))) (hv167 : v167 = (k - r)) (hv169 : v169 = (if (0 : Int32) < v167 then v165 else f)) (P173 : r173 = F10 (nar .boolean f) v145 v103) (hv186 : v186 = (if r173 = v169 then (if F11 (nar .boolean f) = f then (1 : Int32) else (0 : Int32)) else (0 : Int32))) : v186 = (1 : Int32) := by
  subst hv72 hv73 hv87 hv88 hv102 hv103 hv117 hv131 hv145 hv165 hv167 hv169 P173 hv186
  rcases hf with rfl | rfl <;> rcases ha with rfl | rfl <;> rcases hb with rfl | rfl <;> rcases hc with rfl | rfl <;> rcases h45 with ⟨rfl, rfl⟩ | ⟨rfl, rfl⟩ | ⟨rfl, rfl⟩ | ⟨rfl, rfl⟩ | ⟨rfl, rfl⟩ | ⟨rfl, rfl⟩ | ⟨rfl, rfl⟩ | ⟨rfl, rfl⟩ | ⟨rfl, rfl⟩ | ⟨rfl, rfl⟩ <;> decide +kernel

theorem pd_1 : parseMethodDescriptor "(II)I" = some ⟨[.int, .int], some .int⟩ := by decide +kernel
theorem pd_2 : parseMethodDescriptor "(Z)V" = some ⟨[.boolean], none⟩ := by decide +kernel
theorem pd_3 : parseMethodDescriptor "()Z" = some ⟨[], some .boolean⟩ := by decide +kernel
set_option maxHeartbeats 8000000 in
theorem own_fin (x0 : Int32) (x1 : Int32) (v2 : Int32) (v5 : Int32) (v8 : Int32) (v11 : Int32) (v14 : Int32) (v17 : Int32) (v20 : Int32) (v22 : Int32) (r25 : Int32) (v57 : Int32) (v58 : Int32) (v72 : Int32) (v73 : Int32) (v87 : Int32) (v88 : Int32) (v102 : Int32) (v103 : Int32) (v117 : Int32) (v131 : Int32) (v145 : Int32) (v160 : Int32) (v161 : Int32) (v165 : Int32) (v167 : Int32) (v169 : Int32) (r173 : Int32) (v186 : Int32) (hv2 : v2 = (if (x0 &&& (1 : Int32)) = (0 : Int32) then (0 : Int32) else (1 : Int32))) (hv5 : v5 = (if (x0 &&& (2 : Int32)) = (0 : Int32) then (0 : Int32) else (1 : Int32))) (hv8 : v8 = (if (x0 &&& (4 : Int32)) = (0 : Int32) then (0 : Int32) else (1 : Int32))) (hv11 : v11 = (if (x0 &&& (8 : Int32)) = (0 : Int32) then (0 : Int32) else (1 : Int32))) (hv14 : v14 = (if (x0 &&& (16 : Int32)) = (0 : Int32) then (0 : Int32) else (1 : Int32))) (hv17 : v17 = (if (x0 &&& (32 : Int32)) = (0 : Int32) then (0 : Int32) else (1 : Int32))) (hv20 : v20 = (if (x0 &&& (64 : Int32)) = (0 : Int32) then (0 : Int32) else (1 : Int32))) (hv22 : v22 = (x1 &&& (3 : Int32))) (P25 : r25 = F1 (((x1.toUInt32 >>> ((2 : Int32) &&& 31).toUInt32).toInt32) &&& (3 : Int32)) v22) (hv57 : v57 = (if v2 = (0 : Int32) then (1 : Int32) else v5)) (hv58 : v58 = (if v2 = (0 : Int32) then (1 : Int32) else (nar .boolean v5))) (hv72 : v72 = (if v22 < (1 : Int32) then (0 : Int32) else ((0 : Int32) + (1 : Int32)))) (hv73 : v73 = (if v22 < (1 : Int32) then (0 : Int32) else (nar .boolean v8))) (hv87 : v87 = (if v22 < (2 : Int32) then v72 else (v72 + (1 : Int32)))) (hv88 : v88 = (if v22 < (2 : Int32) then v73 else (nar .boolean v11))) (hv102 : v102 = (if v22 < (3 : Int32) then v87 else (v87 + (1 : Int32)))) (hv103 : v103 = (if v22 < (3 : Int32) then v88 else (nar .boolean v14))) (hv117 : v117 = (if r25 < (1 : Int32) then v102 else (v102 - (1 : Int32)))) (hv131 : v131 = (if r25 < (2 : Int32) then v117 else (v117 - (1 : Int32)))) (hv145 : v145 = (if r25 < (3 : Int32) then v131 else (v131 - (1 : Int32)))) (hv160 : v160 = (if v17 = (0 : Int32) then v57 else v20)) (hv161 : v161 = (if v17 = (0 : Int32) then v58 else (nar .boolean v20))) (hv165 : v165 = (if v22 = (3 : Int32) then v14 else (if v22 = (2 : Int32) then v11 else v8))) (hv167 : v167 = (v22 - r25)) (hv169 : v169 = (if (0 : Int32) < v167 then v165 else v160)) (P173 : r173 = F10 v161 v145 v103) (hv186 : v186 = (if r173 = v169 then (if F11 v161 = v160 then (1 : Int32) else (0 : Int32)) else (0 : Int32))) : v186 = (1 : Int32) := by
  have b5 := own_01 hv5
  have b20 := own_01 hv20
  have h57 : v57 = 0 ∨ v57 = 1 := by
    rw [hv57]; split
    · exact Or.inr rfl
    · exact b5
  have h160 : v160 = 0 ∨ v160 = 1 := by
    rw [hv160]; split
    · exact h57
    · exact b20
  have e1 : nar .boolean 1 = 1 := by decide +kernel
  have h58 : v58 = nar .boolean v57 := by
    rw [hv58, hv57]; split
    · exact e1.symm
    · rfl
  have h161 : v161 = nar .boolean v160 := by
    rw [hv161, hv160]; split
    · exact h58
    · rfl
  subst h161
  exact own_core v160 v8 v11 v14 v22 r25 v72 v73 v87 v88 v102 v103 v117 v131 v145 v165 v167 v169 r173 v186 h160 (own_01 hv8) (own_01 hv11) (own_01 hv14) (own_min _ _ _ (own_k _ _ rfl) (own_k _ _ hv22) P25) hv72 hv73 hv87 hv88 hv102 hv103 hv117 hv131 hv145 hv165 hv167 hv169 P173 hv186
theorem pn_6 : plainName "com/example/lean_lifecycle/leanlifecycle/ActivityManagerIsInFrontAsPostedPinLaw" = true := by first | (simp [plainName, overriddenIn]; done) | decide +kernel
theorem ef_0 (m : MethodId) (x0 : Int32) (x1 : Int32) : entryFrame m #[(.int x0), (.int x1)] maxLocals = mkF m 0 #[.val (.int x0), .val (.int x1), .unset, .unset, .unset, .unset, .unset, .unset, .unset, .unset, .unset, .unset, .unset, .unset, .unset, .unset] [] := by first | (simp [entryFrame, mkF, argsToLocals, Value.category, maxLocals]; done) | rfl
def Q0 (Z : State) (x0 : Int32) (x1 : Int32) (w_DEFAULTCAPACITY_EMPTY_ELEMENTDATA : Addr) (h0 : Heap) (n0 : Nat) (v : Option Value) (h : Heap) (L : List Loc) : Prop := v = some (.int 1) ∧ Fr n0 L
set_option maxRecDepth 65536 in
set_option maxHeartbeats 40000000 in
theorem rm0 (l : Launch) (Z : State) (a0 : Array Value) (hw : ∀ d ∈ tables_1, d.before a0 Z = true) (ws : List Jvm.Cond) (x0 : Int32) (x1 : Int32) (w_DEFAULTCAPACITY_EMPTY_ELEMENTDATA : Addr) (h0 : Heap) (n0 : Nat) (Z0 : n0 ≤ h0.size) (S_DEFAULTCAPACITY_EMPTY_ELEMENTDATA : Sta Z h0 "java/util/ArrayList" "DEFAULTCAPACITY_EMPTY_ELEMENTDATA" "[Ljava/lang/Object;" (.ref w_DEFAULTCAPACITY_EMPTY_ELEMENTDATA)) :
    MetFree l x (head1 (Jvm.Cond.code x code maxLocals ret :: ws) room_1) (fun aa U => aa = #[(.int x0), (.int x1)] ∧ Z.Warmed39 U.vm ∧ U.heap = h0) (fun _ _ _ _ _ => True) (fun _ U o U' => ∃ v L, o = .returned v ∧ Q0 Z x0 x1 w_DEFAULTCAPACITY_EMPTY_ELEMENTDATA h0 n0 v U'.heap L ∧ FrameEnd U o U' L room_1.cells room_1.slots) := by
  refine MetFree.of_bodySF (plainFor_of_name pn_6) hisR ?_
  intro p e s m args below meth c s₁ Bd hml0 hP hK
  obtain ⟨rfl, hZ, hh⟩ := hP
  have hx := Bd.exec
  have hby := Bd.bytes
  have hml : c.maxLocals = 16 := hml0
  have hown : s.vm.findClass "com/example/lean_lifecycle/leanlifecycle/ActivityManagerIsInFrontAsPostedPinLaw" = some m.cls := findClass_of_methodNamed Bd.named
  have hnm := (name_of_methodNamed Bd.named Bd.method).1
  have X0 : Stand p l e room_1 s m #[(.int x0), (.int x1)] below meth c s₁ [] 0 0 := Stand.of_body Bd
  have e0 : s₁.heap = h0 := by rw [← hh, Bd.state]; rfl
  have N0 := Fr.nil n0
  have pre0 : ∀ t, Steps p.tables e below (s₁.setTop (mkF m 0 #[.val (.int x0), .val (.int x1), .unset, .unset, .unset, .unset, .unset, .unset, .unset, .unset, .unset, .unset, .unset, .unset, .unset, .unset] [])) t → Steps p.tables e below (s₁.setTop (entryFrame m #[(.int x0), (.int x1)] maxLocals)) t := fun t k => castTop (ef_0 m x0 x1) k
  obtain ⟨v2, hv2⟩ : ∃ z : Int32, z = (if (x0 &&& (1 : Int32)) = (0 : Int32) then (0 : Int32) else (1 : Int32)) := ⟨_, rfl⟩
  have pre3 : ∀ t, Steps p.tables e below (s₁.setTop (mkF m 11 #[.val (.int x0), .val (.int x1), .unset, .unset, .unset, .unset, .unset, .unset, .unset, .unset, .unset, .unset, .unset, .unset, .unset, .unset] [(.int v2)])) t → Steps p.tables e below (s₁.setTop (entryFrame m #[(.int x0), (.int x1)] maxLocals)) t := fun t k => pre0 t (by
    show Steps p.tables e below (s₁.setTop (mkF m 0 #[.val (.int x0), .val (.int x1), .unset, .unset, .unset, .unset, .unset, .unset, .unset, .unset, .unset, .unset, .unset, .unset, .unset, .unset] [])) _
    refine XS.iloadN X0.here hx rfl (hb hby at_0) rfl ?_
    show Steps p.tables e below (s₁.setTop (mkF m 1 #[.val (.int x0), .val (.int x1), .unset, .unset, .unset, .unset, .unset, .unset, .unset, .unset, .unset, .unset, .unset, .unset, .unset, .unset] [(.int x0)])) _
    refine XS.iconst X0.here hx rfl (hb hby at_1) ?_
    show Steps p.tables e below (s₁.setTop (mkF m 2 #[.val (.int x0), .val (.int x1), .unset, .unset, .unset, .unset, .unset, .unset, .unset, .unset, .unset, .unset, .unset, .unset, .unset, .unset] [(.int (1 : Int32)), (.int x0)])) _
    refine XS.iand X0.here hx rfl (hb hby at_2) rfl ?_
    show Steps p.tables e below (s₁.setTop (mkF m 3 #[.val (.int x0), .val (.int x1), .unset, .unset, .unset, .unset, .unset, .unset, .unset, .unset, .unset, .unset, .unset, .unset, .unset, .unset] [(.int (x0 &&& (1 : Int32)))])) _
    by_cases hc1 : (x0 &&& (1 : Int32)) = (0 : Int32)
    · skip
      refine XS.ifYes X0.here hx rfl (pc0 := 3) (pc' := 10) rfl (hb hby at_3) rfl ((if0 _ _).trans (teq hc1).1) (by decide) (by decide) ?_
      show Steps p.tables e below (s₁.setTop (mkF m 10 #[.val (.int x0), .val (.int x1), .unset, .unset, .unset, .unset, .unset, .unset, .unset, .unset, .unset, .unset, .unset, .unset, .unset, .unset] [])) _
      refine XS.iconst X0.here hx rfl (hb hby at_10) ?_
      show Steps p.tables e below (s₁.setTop (mkF m 11 #[.val (.int x0), .val (.int x1), .unset, .unset, .unset, .unset, .unset, .unset, .unset, .unset, .unset, .unset, .unset, .unset, .unset, .unset] [(.int (0 : Int32))])) _
      rw [show v2 = (0 : Int32) from by rw [hv2, if_pos hc1]] at k
      exact k
    · skip
      refine XS.ifNo X0.here hx rfl (hb hby at_3) rfl ((if0 _ _).trans (feq hc1).1) ?_
      show Steps p.tables e below (s₁.setTop (mkF m 6 #[.val (.int x0), .val (.int x1), .unset, .unset, .unset, .unset, .unset, .unset, .unset, .unset, .unset, .unset, .unset, .unset, .unset, .unset] [])) _
      refine XS.iconst X0.here hx rfl (hb hby at_6) ?_
      show Steps p.tables e below (s₁.setTop (mkF m 7 #[.val (.int x0), .val (.int x1), .unset, .unset, .unset, .unset, .unset, .unset, .unset, .unset, .unset, .unset, .unset, .unset, .unset, .unset] [(.int (1 : Int32))])) _
      refine XS.goto X0.here hx rfl (pc0 := 7) (pc' := 11) rfl (hb hby at_7) (by decide) (by decide) ?_
      show Steps p.tables e below (s₁.setTop (mkF m 11 #[.val (.int x0), .val (.int x1), .unset, .unset, .unset, .unset, .unset, .unset, .unset, .unset, .unset, .unset, .unset, .unset, .unset, .unset] [(.int (1 : Int32))])) _
      rw [show v2 = (1 : Int32) from by rw [hv2, if_neg hc1]] at k
      exact k)
  obtain ⟨v5, hv5⟩ : ∃ z : Int32, z = (if (x0 &&& (2 : Int32)) = (0 : Int32) then (0 : Int32) else (1 : Int32)) := ⟨_, rfl⟩
  have pre6 : ∀ t, Steps p.tables e below (s₁.setTop (mkF m 23 #[.val (.int x0), .val (.int x1), .val (.int v2), .unset, .unset, .unset, .unset, .unset, .unset, .unset, .unset, .unset, .unset, .unset, .unset, .unset] [(.int v5)])) t → Steps p.tables e below (s₁.setTop (entryFrame m #[(.int x0), (.int x1)] maxLocals)) t := fun t k => pre3 t (by
    show Steps p.tables e below (s₁.setTop (mkF m 11 #[.val (.int x0), .val (.int x1), .unset, .unset, .unset, .unset, .unset, .unset, .unset, .unset, .unset, .unset, .unset, .unset, .unset, .unset] [(.int v2)])) _
    refine XS.istoreN X0.here hx rfl (hb hby at_11) rfl (l' := #[.val (.int x0), .val (.int x1), .val (.int v2), .unset, .unset, .unset, .unset, .unset, .unset, .unset, .unset, .unset, .unset, .unset, .unset, .unset]) rfl ?_
    show Steps p.tables e below (s₁.setTop (mkF m 12 #[.val (.int x0), .val (.int x1), .val (.int v2), .unset, .unset, .unset, .unset, .unset, .unset, .unset, .unset, .unset, .unset, .unset, .unset, .unset] [])) _
    refine XS.iloadN X0.here hx rfl (hb hby at_12) rfl ?_
    show Steps p.tables e below (s₁.setTop (mkF m 13 #[.val (.int x0), .val (.int x1), .val (.int v2), .unset, .unset, .unset, .unset, .unset, .unset, .unset, .unset, .unset, .unset, .unset, .unset, .unset] [(.int x0)])) _
    refine XS.iconst X0.here hx rfl (hb hby at_13) ?_
    show Steps p.tables e below (s₁.setTop (mkF m 14 #[.val (.int x0), .val (.int x1), .val (.int v2), .unset, .unset, .unset, .unset, .unset, .unset, .unset, .unset, .unset, .unset, .unset, .unset, .unset] [(.int (2 : Int32)), (.int x0)])) _
    refine XS.iand X0.here hx rfl (hb hby at_14) rfl ?_
    show Steps p.tables e below (s₁.setTop (mkF m 15 #[.val (.int x0), .val (.int x1), .val (.int v2), .unset, .unset, .unset, .unset, .unset, .unset, .unset, .unset, .unset, .unset, .unset, .unset, .unset] [(.int (x0 &&& (2 : Int32)))])) _
    by_cases hc4 : (x0 &&& (2 : Int32)) = (0 : Int32)
    · skip
      refine XS.ifYes X0.here hx rfl (pc0 := 15) (pc' := 22) rfl (hb hby at_15) rfl ((if0 _ _).trans (teq hc4).1) (by decide) (by decide) ?_
      show Steps p.tables e below (s₁.setTop (mkF m 22 #[.val (.int x0), .val (.int x1), .val (.int v2), .unset, .unset, .unset, .unset, .unset, .unset, .unset, .unset, .unset, .unset, .unset, .unset, .unset] [])) _
      refine XS.iconst X0.here hx rfl (hb hby at_22) ?_
      show Steps p.tables e below (s₁.setTop (mkF m 23 #[.val (.int x0), .val (.int x1), .val (.int v2), .unset, .unset, .unset, .unset, .unset, .unset, .unset, .unset, .unset, .unset, .unset, .unset, .unset] [(.int (0 : Int32))])) _
      rw [show v5 = (0 : Int32) from by rw [hv5, if_pos hc4]] at k
      exact k
    · skip
      refine XS.ifNo X0.here hx rfl (hb hby at_15) rfl ((if0 _ _).trans (feq hc4).1) ?_
      show Steps p.tables e below (s₁.setTop (mkF m 18 #[.val (.int x0), .val (.int x1), .val (.int v2), .unset, .unset, .unset, .unset, .unset, .unset, .unset, .unset, .unset, .unset, .unset, .unset, .unset] [])) _
      refine XS.iconst X0.here hx rfl (hb hby at_18) ?_
      show Steps p.tables e below (s₁.setTop (mkF m 19 #[.val (.int x0), .val (.int x1), .val (.int v2), .unset, .unset, .unset, .unset, .unset, .unset, .unset, .unset, .unset, .unset, .unset, .unset, .unset] [(.int (1 : Int32))])) _
      refine XS.goto X0.here hx rfl (pc0 := 19) (pc' := 23) rfl (hb hby at_19) (by decide) (by decide) ?_
      show Steps p.tables e below (s₁.setTop (mkF m 23 #[.val (.int x0), .val (.int x1), .val (.int v2), .unset, .unset, .unset, .unset, .unset, .unset, .unset, .unset, .unset, .unset, .unset, .unset, .unset] [(.int (1 : Int32))])) _
      rw [show v5 = (1 : Int32) from by rw [hv5, if_neg hc4]] at k
      exact k)
  obtain ⟨v8, hv8⟩ : ∃ z : Int32, z = (if (x0 &&& (4 : Int32)) = (0 : Int32) then (0 : Int32) else (1 : Int32)) := ⟨_, rfl⟩
  have pre9 : ∀ t, Steps p.tables e below (s₁.setTop (mkF m 35 #[.val (.int x0), .val (.int x1), .val (.int v2), .val (.int v5), .unset, .unset, .unset, .unset, .unset, .unset, .unset, .unset, .unset, .unset, .unset, .unset] [(.int v8)])) t → Steps p.tables e below (s₁.setTop (entryFrame m #[(.int x0), (.int x1)] maxLocals)) t := fun t k => pre6 t (by
    show Steps p.tables e below (s₁.setTop (mkF m 23 #[.val (.int x0), .val (.int x1), .val (.int v2), .unset, .unset, .unset, .unset, .unset, .unset, .unset, .unset, .unset, .unset, .unset, .unset, .unset] [(.int v5)])) _
    refine XS.istoreN X0.here hx rfl (hb hby at_23) rfl (l' := #[.val (.int x0), .val (.int x1), .val (.int v2), .val (.int v5), .unset, .unset, .unset, .unset, .unset, .unset, .unset, .unset, .unset, .unset, .unset, .unset]) rfl ?_
    show Steps p.tables e below (s₁.setTop (mkF m 24 #[.val (.int x0), .val (.int x1), .val (.int v2), .val (.int v5), .unset, .unset, .unset, .unset, .unset, .unset, .unset, .unset, .unset, .unset, .unset, .unset] [])) _
    refine XS.iloadN X0.here hx rfl (hb hby at_24) rfl ?_
    show Steps p.tables e below (s₁.setTop (mkF m 25 #[.val (.int x0), .val (.int x1), .val (.int v2), .val (.int v5), .unset, .unset, .unset, .unset, .unset, .unset, .unset, .unset, .unset, .unset, .unset, .unset] [(.int x0)])) _
    refine XS.iconst X0.here hx rfl (hb hby at_25) ?_
    show Steps p.tables e below (s₁.setTop (mkF m 26 #[.val (.int x0), .val (.int x1), .val (.int v2), .val (.int v5), .unset, .unset, .unset, .unset, .unset, .unset, .unset, .unset, .unset, .unset, .unset, .unset] [(.int (4 : Int32)), (.int x0)])) _
    refine XS.iand X0.here hx rfl (hb hby at_26) rfl ?_
    show Steps p.tables e below (s₁.setTop (mkF m 27 #[.val (.int x0), .val (.int x1), .val (.int v2), .val (.int v5), .unset, .unset, .unset, .unset, .unset, .unset, .unset, .unset, .unset, .unset, .unset, .unset] [(.int (x0 &&& (4 : Int32)))])) _
    by_cases hc7 : (x0 &&& (4 : Int32)) = (0 : Int32)
    · skip
      refine XS.ifYes X0.here hx rfl (pc0 := 27) (pc' := 34) rfl (hb hby at_27) rfl ((if0 _ _).trans (teq hc7).1) (by decide) (by decide) ?_
      show Steps p.tables e below (s₁.setTop (mkF m 34 #[.val (.int x0), .val (.int x1), .val (.int v2), .val (.int v5), .unset, .unset, .unset, .unset, .unset, .unset, .unset, .unset, .unset, .unset, .unset, .unset] [])) _
      refine XS.iconst X0.here hx rfl (hb hby at_34) ?_
      show Steps p.tables e below (s₁.setTop (mkF m 35 #[.val (.int x0), .val (.int x1), .val (.int v2), .val (.int v5), .unset, .unset, .unset, .unset, .unset, .unset, .unset, .unset, .unset, .unset, .unset, .unset] [(.int (0 : Int32))])) _
      rw [show v8 = (0 : Int32) from by rw [hv8, if_pos hc7]] at k
      exact k
    · skip
      refine XS.ifNo X0.here hx rfl (hb hby at_27) rfl ((if0 _ _).trans (feq hc7).1) ?_
      show Steps p.tables e below (s₁.setTop (mkF m 30 #[.val (.int x0), .val (.int x1), .val (.int v2), .val (.int v5), .unset, .unset, .unset, .unset, .unset, .unset, .unset, .unset, .unset, .unset, .unset, .unset] [])) _
      refine XS.iconst X0.here hx rfl (hb hby at_30) ?_
      show Steps p.tables e below (s₁.setTop (mkF m 31 #[.val (.int x0), .val (.int x1), .val (.int v2), .val (.int v5), .unset, .unset, .unset, .unset, .unset, .unset, .unset, .unset, .unset, .unset, .unset, .unset] [(.int (1 : Int32))])) _
      refine XS.goto X0.here hx rfl (pc0 := 31) (pc' := 35) rfl (hb hby at_31) (by decide) (by decide) ?_
      show Steps p.tables e below (s₁.setTop (mkF m 35 #[.val (.int x0), .val (.int x1), .val (.int v2), .val (.int v5), .unset, .unset, .unset, .unset, .unset, .unset, .unset, .unset, .unset, .unset, .unset, .unset] [(.int (1 : Int32))])) _
      rw [show v8 = (1 : Int32) from by rw [hv8, if_neg hc7]] at k
      exact k)
  obtain ⟨v11, hv11⟩ : ∃ z : Int32, z = (if (x0 &&& (8 : Int32)) = (0 : Int32) then (0 : Int32) else (1 : Int32)) := ⟨_, rfl⟩
  have pre12 : ∀ t, Steps p.tables e below (s₁.setTop (mkF m 49 #[.val (.int x0), .val (.int x1), .val (.int v2), .val (.int v5), .val (.int v8), .unset, .unset, .unset, .unset, .unset, .unset, .unset, .unset, .unset, .unset, .unset] [(.int v11)])) t → Steps p.tables e below (s₁.setTop (entryFrame m #[(.int x0), (.int x1)] maxLocals)) t := fun t k => pre9 t (by
    show Steps p.tables e below (s₁.setTop (mkF m 35 #[.val (.int x0), .val (.int x1), .val (.int v2), .val (.int v5), .unset, .unset, .unset, .unset, .unset, .unset, .unset, .unset, .unset, .unset, .unset, .unset] [(.int v8)])) _
    refine XS.istore X0.here hx rfl (hb hby at_35) rfl (l' := #[.val (.int x0), .val (.int x1), .val (.int v2), .val (.int v5), .val (.int v8), .unset, .unset, .unset, .unset, .unset, .unset, .unset, .unset, .unset, .unset, .unset]) rfl ?_
    show Steps p.tables e below (s₁.setTop (mkF m 37 #[.val (.int x0), .val (.int x1), .val (.int v2), .val (.int v5), .val (.int v8), .unset, .unset, .unset, .unset, .unset, .unset, .unset, .unset, .unset, .unset, .unset] [])) _
    refine XS.iloadN X0.here hx rfl (hb hby at_37) rfl ?_
    show Steps p.tables e below (s₁.setTop (mkF m 38 #[.val (.int x0), .val (.int x1), .val (.int v2), .val (.int v5), .val (.int v8), .unset, .unset, .unset, .unset, .unset, .unset, .unset, .unset, .unset, .unset, .unset] [(.int x0)])) _
    refine XS.bipush X0.here hx rfl (hb hby at_38) ?_
    show Steps p.tables e below (s₁.setTop (mkF m 40 #[.val (.int x0), .val (.int x1), .val (.int v2), .val (.int v5), .val (.int v8), .unset, .unset, .unset, .unset, .unset, .unset, .unset, .unset, .unset, .unset, .unset] [(.int (8 : Int32)), (.int x0)])) _
    refine XS.iand X0.here hx rfl (hb hby at_40) rfl ?_
    show Steps p.tables e below (s₁.setTop (mkF m 41 #[.val (.int x0), .val (.int x1), .val (.int v2), .val (.int v5), .val (.int v8), .unset, .unset, .unset, .unset, .unset, .unset, .unset, .unset, .unset, .unset, .unset] [(.int (x0 &&& (8 : Int32)))])) _
    by_cases hc10 : (x0 &&& (8 : Int32)) = (0 : Int32)
    · skip
      refine XS.ifYes X0.here hx rfl (pc0 := 41) (pc' := 48) rfl (hb hby at_41) rfl ((if0 _ _).trans (teq hc10).1) (by decide) (by decide) ?_
      show Steps p.tables e below (s₁.setTop (mkF m 48 #[.val (.int x0), .val (.int x1), .val (.int v2), .val (.int v5), .val (.int v8), .unset, .unset, .unset, .unset, .unset, .unset, .unset, .unset, .unset, .unset, .unset] [])) _
      refine XS.iconst X0.here hx rfl (hb hby at_48) ?_
      show Steps p.tables e below (s₁.setTop (mkF m 49 #[.val (.int x0), .val (.int x1), .val (.int v2), .val (.int v5), .val (.int v8), .unset, .unset, .unset, .unset, .unset, .unset, .unset, .unset, .unset, .unset, .unset] [(.int (0 : Int32))])) _
      rw [show v11 = (0 : Int32) from by rw [hv11, if_pos hc10]] at k
      exact k
    · skip
      refine XS.ifNo X0.here hx rfl (hb hby at_41) rfl ((if0 _ _).trans (feq hc10).1) ?_
      show Steps p.tables e below (s₁.setTop (mkF m 44 #[.val (.int x0), .val (.int x1), .val (.int v2), .val (.int v5), .val (.int v8), .unset, .unset, .unset, .unset, .unset, .unset, .unset, .unset, .unset, .unset, .unset] [])) _
      refine XS.iconst X0.here hx rfl (hb hby at_44) ?_
      show Steps p.tables e below (s₁.setTop (mkF m 45 #[.val (.int x0), .val (.int x1), .val (.int v2), .val (.int v5), .val (.int v8), .unset, .unset, .unset, .unset, .unset, .unset, .unset, .unset, .unset, .unset, .unset] [(.int (1 : Int32))])) _
      refine XS.goto X0.here hx rfl (pc0 := 45) (pc' := 49) rfl (hb hby at_45) (by decide) (by decide) ?_
      show Steps p.tables e below (s₁.setTop (mkF m 49 #[.val (.int x0), .val (.int x1), .val (.int v2), .val (.int v5), .val (.int v8), .unset, .unset, .unset, .unset, .unset, .unset, .unset, .unset, .unset, .unset, .unset] [(.int (1 : Int32))])) _
      rw [show v11 = (1 : Int32) from by rw [hv11, if_neg hc10]] at k
      exact k)
  obtain ⟨v14, hv14⟩ : ∃ z : Int32, z = (if (x0 &&& (16 : Int32)) = (0 : Int32) then (0 : Int32) else (1 : Int32)) := ⟨_, rfl⟩
  have pre15 : ∀ t, Steps p.tables e below (s₁.setTop (mkF m 63 #[.val (.int x0), .val (.int x1), .val (.int v2), .val (.int v5), .val (.int v8), .val (.int v11), .unset, .unset, .unset, .unset, .unset, .unset, .unset, .unset, .unset, .unset] [(.int v14)])) t → Steps p.tables e below (s₁.setTop (entryFrame m #[(.int x0), (.int x1)] maxLocals)) t := fun t k => pre12 t (by
    show Steps p.tables e below (s₁.setTop (mkF m 49 #[.val (.int x0), .val (.int x1), .val (.int v2), .val (.int v5), .val (.int v8), .unset, .unset, .unset, .unset, .unset, .unset, .unset, .unset, .unset, .unset, .unset] [(.int v11)])) _
    refine XS.istore X0.here hx rfl (hb hby at_49) rfl (l' := #[.val (.int x0), .val (.int x1), .val (.int v2), .val (.int v5), .val (.int v8), .val (.int v11), .unset, .unset, .unset, .unset, .unset, .unset, .unset, .unset, .unset, .unset]) rfl ?_
    show Steps p.tables e below (s₁.setTop (mkF m 51 #[.val (.int x0), .val (.int x1), .val (.int v2), .val (.int v5), .val (.int v8), .val (.int v11), .unset, .unset, .unset, .unset, .unset, .unset, .unset, .unset, .unset, .unset] [])) _
    refine XS.iloadN X0.here hx rfl (hb hby at_51) rfl ?_
    show Steps p.tables e below (s₁.setTop (mkF m 52 #[.val (.int x0), .val (.int x1), .val (.int v2), .val (.int v5), .val (.int v8), .val (.int v11), .unset, .unset, .unset, .unset, .unset, .unset, .unset, .unset, .unset, .unset] [(.int x0)])) _
    refine XS.bipush X0.here hx rfl (hb hby at_52) ?_
    show Steps p.tables e below (s₁.setTop (mkF m 54 #[.val (.int x0), .val (.int x1), .val (.int v2), .val (.int v5), .val (.int v8), .val (.int v11), .unset, .unset, .unset, .unset, .unset, .unset, .unset, .unset, .unset, .unset] [(.int (16 : Int32)), (.int x0)])) _
    refine XS.iand X0.here hx rfl (hb hby at_54) rfl ?_
    show Steps p.tables e below (s₁.setTop (mkF m 55 #[.val (.int x0), .val (.int x1), .val (.int v2), .val (.int v5), .val (.int v8), .val (.int v11), .unset, .unset, .unset, .unset, .unset, .unset, .unset, .unset, .unset, .unset] [(.int (x0 &&& (16 : Int32)))])) _
    by_cases hc13 : (x0 &&& (16 : Int32)) = (0 : Int32)
    · skip
      refine XS.ifYes X0.here hx rfl (pc0 := 55) (pc' := 62) rfl (hb hby at_55) rfl ((if0 _ _).trans (teq hc13).1) (by decide) (by decide) ?_
      show Steps p.tables e below (s₁.setTop (mkF m 62 #[.val (.int x0), .val (.int x1), .val (.int v2), .val (.int v5), .val (.int v8), .val (.int v11), .unset, .unset, .unset, .unset, .unset, .unset, .unset, .unset, .unset, .unset] [])) _
      refine XS.iconst X0.here hx rfl (hb hby at_62) ?_
      show Steps p.tables e below (s₁.setTop (mkF m 63 #[.val (.int x0), .val (.int x1), .val (.int v2), .val (.int v5), .val (.int v8), .val (.int v11), .unset, .unset, .unset, .unset, .unset, .unset, .unset, .unset, .unset, .unset] [(.int (0 : Int32))])) _
      rw [show v14 = (0 : Int32) from by rw [hv14, if_pos hc13]] at k
      exact k
    · skip
      refine XS.ifNo X0.here hx rfl (hb hby at_55) rfl ((if0 _ _).trans (feq hc13).1) ?_
      show Steps p.tables e below (s₁.setTop (mkF m 58 #[.val (.int x0), .val (.int x1), .val (.int v2), .val (.int v5), .val (.int v8), .val (.int v11), .unset, .unset, .unset, .unset, .unset, .unset, .unset, .unset, .unset, .unset] [])) _
      refine XS.iconst X0.here hx rfl (hb hby at_58) ?_
      show Steps p.tables e below (s₁.setTop (mkF m 59 #[.val (.int x0), .val (.int x1), .val (.int v2), .val (.int v5), .val (.int v8), .val (.int v11), .unset, .unset, .unset, .unset, .unset, .unset, .unset, .unset, .unset, .unset] [(.int (1 : Int32))])) _
      refine XS.goto X0.here hx rfl (pc0 := 59) (pc' := 63) rfl (hb hby at_59) (by decide) (by decide) ?_
      show Steps p.tables e below (s₁.setTop (mkF m 63 #[.val (.int x0), .val (.int x1), .val (.int v2), .val (.int v5), .val (.int v8), .val (.int v11), .unset, .unset, .unset, .unset, .unset, .unset, .unset, .unset, .unset, .unset] [(.int (1 : Int32))])) _
      rw [show v14 = (1 : Int32) from by rw [hv14, if_neg hc13]] at k
      exact k)
  obtain ⟨v17, hv17⟩ : ∃ z : Int32, z = (if (x0 &&& (32 : Int32)) = (0 : Int32) then (0 : Int32) else (1 : Int32)) := ⟨_, rfl⟩
  have pre18 : ∀ t, Steps p.tables e below (s₁.setTop (mkF m 77 #[.val (.int x0), .val (.int x1), .val (.int v2), .val (.int v5), .val (.int v8), .val (.int v11), .val (.int v14), .unset, .unset, .unset, .unset, .unset, .unset, .unset, .unset, .unset] [(.int v17)])) t → Steps p.tables e below (s₁.setTop (entryFrame m #[(.int x0), (.int x1)] maxLocals)) t := fun t k => pre15 t (by
    show Steps p.tables e below (s₁.setTop (mkF m 63 #[.val (.int x0), .val (.int x1), .val (.int v2), .val (.int v5), .val (.int v8), .val (.int v11), .unset, .unset, .unset, .unset, .unset, .unset, .unset, .unset, .unset, .unset] [(.int v14)])) _
    refine XS.istore X0.here hx rfl (hb hby at_63) rfl (l' := #[.val (.int x0), .val (.int x1), .val (.int v2), .val (.int v5), .val (.int v8), .val (.int v11), .val (.int v14), .unset, .unset, .unset, .unset, .unset, .unset, .unset, .unset, .unset]) rfl ?_
    show Steps p.tables e below (s₁.setTop (mkF m 65 #[.val (.int x0), .val (.int x1), .val (.int v2), .val (.int v5), .val (.int v8), .val (.int v11), .val (.int v14), .unset, .unset, .unset, .unset, .unset, .unset, .unset, .unset, .unset] [])) _
    refine XS.iloadN X0.here hx rfl (hb hby at_65) rfl ?_
    show Steps p.tables e below (s₁.setTop (mkF m 66 #[.val (.int x0), .val (.int x1), .val (.int v2), .val (.int v5), .val (.int v8), .val (.int v11), .val (.int v14), .unset, .unset, .unset, .unset, .unset, .unset, .unset, .unset, .unset] [(.int x0)])) _
    refine XS.bipush X0.here hx rfl (hb hby at_66) ?_
    show Steps p.tables e below (s₁.setTop (mkF m 68 #[.val (.int x0), .val (.int x1), .val (.int v2), .val (.int v5), .val (.int v8), .val (.int v11), .val (.int v14), .unset, .unset, .unset, .unset, .unset, .unset, .unset, .unset, .unset] [(.int (32 : Int32)), (.int x0)])) _
    refine XS.iand X0.here hx rfl (hb hby at_68) rfl ?_
    show Steps p.tables e below (s₁.setTop (mkF m 69 #[.val (.int x0), .val (.int x1), .val (.int v2), .val (.int v5), .val (.int v8), .val (.int v11), .val (.int v14), .unset, .unset, .unset, .unset, .unset, .unset, .unset, .unset, .unset] [(.int (x0 &&& (32 : Int32)))])) _
    by_cases hc16 : (x0 &&& (32 : Int32)) = (0 : Int32)
    · skip
      refine XS.ifYes X0.here hx rfl (pc0 := 69) (pc' := 76) rfl (hb hby at_69) rfl ((if0 _ _).trans (teq hc16).1) (by decide) (by decide) ?_
      show Steps p.tables e below (s₁.setTop (mkF m 76 #[.val (.int x0), .val (.int x1), .val (.int v2), .val (.int v5), .val (.int v8), .val (.int v11), .val (.int v14), .unset, .unset, .unset, .unset, .unset, .unset, .unset, .unset, .unset] [])) _
      refine XS.iconst X0.here hx rfl (hb hby at_76) ?_
      show Steps p.tables e below (s₁.setTop (mkF m 77 #[.val (.int x0), .val (.int x1), .val (.int v2), .val (.int v5), .val (.int v8), .val (.int v11), .val (.int v14), .unset, .unset, .unset, .unset, .unset, .unset, .unset, .unset, .unset] [(.int (0 : Int32))])) _
      rw [show v17 = (0 : Int32) from by rw [hv17, if_pos hc16]] at k
      exact k
    · skip
      refine XS.ifNo X0.here hx rfl (hb hby at_69) rfl ((if0 _ _).trans (feq hc16).1) ?_
      show Steps p.tables e below (s₁.setTop (mkF m 72 #[.val (.int x0), .val (.int x1), .val (.int v2), .val (.int v5), .val (.int v8), .val (.int v11), .val (.int v14), .unset, .unset, .unset, .unset, .unset, .unset, .unset, .unset, .unset] [])) _
      refine XS.iconst X0.here hx rfl (hb hby at_72) ?_
      show Steps p.tables e below (s₁.setTop (mkF m 73 #[.val (.int x0), .val (.int x1), .val (.int v2), .val (.int v5), .val (.int v8), .val (.int v11), .val (.int v14), .unset, .unset, .unset, .unset, .unset, .unset, .unset, .unset, .unset] [(.int (1 : Int32))])) _
      refine XS.goto X0.here hx rfl (pc0 := 73) (pc' := 77) rfl (hb hby at_73) (by decide) (by decide) ?_
      show Steps p.tables e below (s₁.setTop (mkF m 77 #[.val (.int x0), .val (.int x1), .val (.int v2), .val (.int v5), .val (.int v8), .val (.int v11), .val (.int v14), .unset, .unset, .unset, .unset, .unset, .unset, .unset, .unset, .unset] [(.int (1 : Int32))])) _
      rw [show v17 = (1 : Int32) from by rw [hv17, if_neg hc16]] at k
      exact k)
  obtain ⟨v20, hv20⟩ : ∃ z : Int32, z = (if (x0 &&& (64 : Int32)) = (0 : Int32) then (0 : Int32) else (1 : Int32)) := ⟨_, rfl⟩
  have pre21 : ∀ t, Steps p.tables e below (s₁.setTop (mkF m 91 #[.val (.int x0), .val (.int x1), .val (.int v2), .val (.int v5), .val (.int v8), .val (.int v11), .val (.int v14), .val (.int v17), .unset, .unset, .unset, .unset, .unset, .unset, .unset, .unset] [(.int v20)])) t → Steps p.tables e below (s₁.setTop (entryFrame m #[(.int x0), (.int x1)] maxLocals)) t := fun t k => pre18 t (by
    show Steps p.tables e below (s₁.setTop (mkF m 77 #[.val (.int x0), .val (.int x1), .val (.int v2), .val (.int v5), .val (.int v8), .val (.int v11), .val (.int v14), .unset, .unset, .unset, .unset, .unset, .unset, .unset, .unset, .unset] [(.int v17)])) _
    refine XS.istore X0.here hx rfl (hb hby at_77) rfl (l' := #[.val (.int x0), .val (.int x1), .val (.int v2), .val (.int v5), .val (.int v8), .val (.int v11), .val (.int v14), .val (.int v17), .unset, .unset, .unset, .unset, .unset, .unset, .unset, .unset]) rfl ?_
    show Steps p.tables e below (s₁.setTop (mkF m 79 #[.val (.int x0), .val (.int x1), .val (.int v2), .val (.int v5), .val (.int v8), .val (.int v11), .val (.int v14), .val (.int v17), .unset, .unset, .unset, .unset, .unset, .unset, .unset, .unset] [])) _
    refine XS.iloadN X0.here hx rfl (hb hby at_79) rfl ?_
    show Steps p.tables e below (s₁.setTop (mkF m 80 #[.val (.int x0), .val (.int x1), .val (.int v2), .val (.int v5), .val (.int v8), .val (.int v11), .val (.int v14), .val (.int v17), .unset, .unset, .unset, .unset, .unset, .unset, .unset, .unset] [(.int x0)])) _
    refine XS.bipush X0.here hx rfl (hb hby at_80) ?_
    show Steps p.tables e below (s₁.setTop (mkF m 82 #[.val (.int x0), .val (.int x1), .val (.int v2), .val (.int v5), .val (.int v8), .val (.int v11), .val (.int v14), .val (.int v17), .unset, .unset, .unset, .unset, .unset, .unset, .unset, .unset] [(.int (64 : Int32)), (.int x0)])) _
    refine XS.iand X0.here hx rfl (hb hby at_82) rfl ?_
    show Steps p.tables e below (s₁.setTop (mkF m 83 #[.val (.int x0), .val (.int x1), .val (.int v2), .val (.int v5), .val (.int v8), .val (.int v11), .val (.int v14), .val (.int v17), .unset, .unset, .unset, .unset, .unset, .unset, .unset, .unset] [(.int (x0 &&& (64 : Int32)))])) _
    by_cases hc19 : (x0 &&& (64 : Int32)) = (0 : Int32)
    · skip
      refine XS.ifYes X0.here hx rfl (pc0 := 83) (pc' := 90) rfl (hb hby at_83) rfl ((if0 _ _).trans (teq hc19).1) (by decide) (by decide) ?_
      show Steps p.tables e below (s₁.setTop (mkF m 90 #[.val (.int x0), .val (.int x1), .val (.int v2), .val (.int v5), .val (.int v8), .val (.int v11), .val (.int v14), .val (.int v17), .unset, .unset, .unset, .unset, .unset, .unset, .unset, .unset] [])) _
      refine XS.iconst X0.here hx rfl (hb hby at_90) ?_
      show Steps p.tables e below (s₁.setTop (mkF m 91 #[.val (.int x0), .val (.int x1), .val (.int v2), .val (.int v5), .val (.int v8), .val (.int v11), .val (.int v14), .val (.int v17), .unset, .unset, .unset, .unset, .unset, .unset, .unset, .unset] [(.int (0 : Int32))])) _
      rw [show v20 = (0 : Int32) from by rw [hv20, if_pos hc19]] at k
      exact k
    · skip
      refine XS.ifNo X0.here hx rfl (hb hby at_83) rfl ((if0 _ _).trans (feq hc19).1) ?_
      show Steps p.tables e below (s₁.setTop (mkF m 86 #[.val (.int x0), .val (.int x1), .val (.int v2), .val (.int v5), .val (.int v8), .val (.int v11), .val (.int v14), .val (.int v17), .unset, .unset, .unset, .unset, .unset, .unset, .unset, .unset] [])) _
      refine XS.iconst X0.here hx rfl (hb hby at_86) ?_
      show Steps p.tables e below (s₁.setTop (mkF m 87 #[.val (.int x0), .val (.int x1), .val (.int v2), .val (.int v5), .val (.int v8), .val (.int v11), .val (.int v14), .val (.int v17), .unset, .unset, .unset, .unset, .unset, .unset, .unset, .unset] [(.int (1 : Int32))])) _
      refine XS.goto X0.here hx rfl (pc0 := 87) (pc' := 91) rfl (hb hby at_87) (by decide) (by decide) ?_
      show Steps p.tables e below (s₁.setTop (mkF m 91 #[.val (.int x0), .val (.int x1), .val (.int v2), .val (.int v5), .val (.int v8), .val (.int v11), .val (.int v14), .val (.int v17), .unset, .unset, .unset, .unset, .unset, .unset, .unset, .unset] [(.int (1 : Int32))])) _
      rw [show v20 = (1 : Int32) from by rw [hv20, if_neg hc19]] at k
      exact k)
  obtain ⟨v22, hv22⟩ : ∃ z : Int32, z = (x1 &&& (3 : Int32)) := ⟨_, rfl⟩
  have pre23 : ∀ t, Steps p.tables e below (s₁.setTop (mkF m 105 #[.val (.int x0), .val (.int x1), .val (.int v2), .val (.int v5), .val (.int v8), .val (.int v11), .val (.int v14), .val (.int v17), .val (.int v20), .val (.int v22), .unset, .unset, .unset, .unset, .unset, .unset] [(.int v22), (.int (((x1.toUInt32 >>> ((2 : Int32) &&& 31).toUInt32).toInt32) &&& (3 : Int32)))])) t → Steps p.tables e below (s₁.setTop (entryFrame m #[(.int x0), (.int x1)] maxLocals)) t := fun t k => pre21 t (by
    subst hv22
    show Steps p.tables e below (s₁.setTop (mkF m 91 #[.val (.int x0), .val (.int x1), .val (.int v2), .val (.int v5), .val (.int v8), .val (.int v11), .val (.int v14), .val (.int v17), .unset, .unset, .unset, .unset, .unset, .unset, .unset, .unset] [(.int v20)])) _
    refine XS.istore X0.here hx rfl (hb hby at_91) rfl (l' := #[.val (.int x0), .val (.int x1), .val (.int v2), .val (.int v5), .val (.int v8), .val (.int v11), .val (.int v14), .val (.int v17), .val (.int v20), .unset, .unset, .unset, .unset, .unset, .unset, .unset]) rfl ?_
    show Steps p.tables e below (s₁.setTop (mkF m 93 #[.val (.int x0), .val (.int x1), .val (.int v2), .val (.int v5), .val (.int v8), .val (.int v11), .val (.int v14), .val (.int v17), .val (.int v20), .unset, .unset, .unset, .unset, .unset, .unset, .unset] [])) _
    refine XS.iloadN X0.here hx rfl (hb hby at_93) rfl ?_
    show Steps p.tables e below (s₁.setTop (mkF m 94 #[.val (.int x0), .val (.int x1), .val (.int v2), .val (.int v5), .val (.int v8), .val (.int v11), .val (.int v14), .val (.int v17), .val (.int v20), .unset, .unset, .unset, .unset, .unset, .unset, .unset] [(.int x1)])) _
    refine XS.iconst X0.here hx rfl (hb hby at_94) ?_
    show Steps p.tables e below (s₁.setTop (mkF m 95 #[.val (.int x0), .val (.int x1), .val (.int v2), .val (.int v5), .val (.int v8), .val (.int v11), .val (.int v14), .val (.int v17), .val (.int v20), .unset, .unset, .unset, .unset, .unset, .unset, .unset] [(.int (3 : Int32)), (.int x1)])) _
    refine XS.iand X0.here hx rfl (hb hby at_95) rfl ?_
    show Steps p.tables e below (s₁.setTop (mkF m 96 #[.val (.int x0), .val (.int x1), .val (.int v2), .val (.int v5), .val (.int v8), .val (.int v11), .val (.int v14), .val (.int v17), .val (.int v20), .unset, .unset, .unset, .unset, .unset, .unset, .unset] [(.int (x1 &&& (3 : Int32)))])) _
    refine XS.istore X0.here hx rfl (hb hby at_96) rfl (l' := #[.val (.int x0), .val (.int x1), .val (.int v2), .val (.int v5), .val (.int v8), .val (.int v11), .val (.int v14), .val (.int v17), .val (.int v20), .val (.int (x1 &&& (3 : Int32))), .unset, .unset, .unset, .unset, .unset, .unset]) rfl ?_
    show Steps p.tables e below (s₁.setTop (mkF m 98 #[.val (.int x0), .val (.int x1), .val (.int v2), .val (.int v5), .val (.int v8), .val (.int v11), .val (.int v14), .val (.int v17), .val (.int v20), .val (.int (x1 &&& (3 : Int32))), .unset, .unset, .unset, .unset, .unset, .unset] [])) _
    refine XS.iloadN X0.here hx rfl (hb hby at_98) rfl ?_
    show Steps p.tables e below (s₁.setTop (mkF m 99 #[.val (.int x0), .val (.int x1), .val (.int v2), .val (.int v5), .val (.int v8), .val (.int v11), .val (.int v14), .val (.int v17), .val (.int v20), .val (.int (x1 &&& (3 : Int32))), .unset, .unset, .unset, .unset, .unset, .unset] [(.int x1)])) _
    refine XS.iconst X0.here hx rfl (hb hby at_99) ?_
    show Steps p.tables e below (s₁.setTop (mkF m 100 #[.val (.int x0), .val (.int x1), .val (.int v2), .val (.int v5), .val (.int v8), .val (.int v11), .val (.int v14), .val (.int v17), .val (.int v20), .val (.int (x1 &&& (3 : Int32))), .unset, .unset, .unset, .unset, .unset, .unset] [(.int (2 : Int32)), (.int x1)])) _
    refine XS.iushr X0.here hx rfl (hb hby at_100) rfl ?_
    show Steps p.tables e below (s₁.setTop (mkF m 101 #[.val (.int x0), .val (.int x1), .val (.int v2), .val (.int v5), .val (.int v8), .val (.int v11), .val (.int v14), .val (.int v17), .val (.int v20), .val (.int (x1 &&& (3 : Int32))), .unset, .unset, .unset, .unset, .unset, .unset] [(.int ((x1.toUInt32 >>> ((2 : Int32) &&& 31).toUInt32).toInt32))])) _
    refine XS.iconst X0.here hx rfl (hb hby at_101) ?_
    show Steps p.tables e below (s₁.setTop (mkF m 102 #[.val (.int x0), .val (.int x1), .val (.int v2), .val (.int v5), .val (.int v8), .val (.int v11), .val (.int v14), .val (.int v17), .val (.int v20), .val (.int (x1 &&& (3 : Int32))), .unset, .unset, .unset, .unset, .unset, .unset] [(.int (3 : Int32)), (.int ((x1.toUInt32 >>> ((2 : Int32) &&& 31).toUInt32).toInt32))])) _
    refine XS.iand X0.here hx rfl (hb hby at_102) rfl ?_
    show Steps p.tables e below (s₁.setTop (mkF m 103 #[.val (.int x0), .val (.int x1), .val (.int v2), .val (.int v5), .val (.int v8), .val (.int v11), .val (.int v14), .val (.int v17), .val (.int v20), .val (.int (x1 &&& (3 : Int32))), .unset, .unset, .unset, .unset, .unset, .unset] [(.int (((x1.toUInt32 >>> ((2 : Int32) &&& 31).toUInt32).toInt32) &&& (3 : Int32)))])) _
    refine XS.iload X0.here hx rfl (hb hby at_103) rfl ?_
    show Steps p.tables e below (s₁.setTop (mkF m 105 #[.val (.int x0), .val (.int x1), .val (.int v2), .val (.int v5), .val (.int v8), .val (.int v11), .val (.int v14), .val (.int v17), .val (.int v20), .val (.int (x1 &&& (3 : Int32))), .unset, .unset, .unset, .unset, .unset, .unset] [(.int (x1 &&& (3 : Int32))), (.int (((x1.toUInt32 >>> ((2 : Int32) &&& 31).toUInt32).toInt32) &&& (3 : Int32)))])) _
    exact k)
  obtain ⟨_, _, ⟨T25, L25, k25, n25⟩, -, X25, ⟨Lc25, hQ25, l25, y25, z25⟩, st25⟩ := Jvm.LawKit.callS X0 hx (y := (⟨"java/lang/Math", "min", "(II)I"⟩ : MethodName)) hown (mvT hZ (hw _ (List.mem_of_getElem? (i := 0) rfl))) (mvT hZ (hw _ (List.mem_of_getElem? (i := 1) rfl))) (mvT hZ (hw _ (List.mem_of_getElem? (i := 2) rfl))) (mvT hZ (hw _ (List.mem_of_getElem? (i := 3) rfl))) (by decide) (backOf (W := 0) (rm1 l Z a0 hw [] (((x1.toUInt32 >>> ((2 : Int32) &&& 31).toUInt32).toInt32) &&& (3 : Int32)) v22  h0 n0 Z0 ) hZ (hw _ (List.mem_of_getElem? (i := 3) rfl)) (hw _ (List.mem_of_getElem? (i := 2) rfl)) (by decide) (by decide)) (g := (mkF m 105 #[.val (.int x0), .val (.int x1), .val (.int v2), .val (.int v5), .val (.int v8), .val (.int v11), .val (.int v14), .val (.int v17), .val (.int v20), .val (.int v22), .unset, .unset, .unset, .unset, .unset, .unset] [(.int v22), (.int (((x1.toUInt32 >>> ((2 : Int32) &&& 31).toUInt32).toInt32) &&& (3 : Int32)))])) rfl (by rw [hml]; rfl) (argsL := [(.int (((x1.toUInt32 >>> ((2 : Int32) &&& 31).toUInt32).toInt32) &&& (3 : Int32))), (.int v22)]) (rest := []) (lenOf pd_1 rfl) rfl (by show 2 * 0 + _ ≤ _; exact Nat.le_of_eq rfl) (hb hby at_105) (fun _ _ => ⟨rfl, e0, (by decide : 0 + 0 ≤ _), (by decide : 0 + 0 ≤ _)⟩)
  dsimp only [Pt.U, Pt.locs, Pt.cells, Pt.slots] at X25 l25 y25 z25 st25 hQ25
  subst l25 y25 z25
  obtain ⟨r25, rfl, N25q, e25, P25⟩ := hQ25
  have N25 := Fr.app N0 N25q
  have pre26 : ∀ t, Steps p.tables e below (T25.setTop (mkF m 108 #[.val (.int x0), .val (.int x1), .val (.int v2), .val (.int v5), .val (.int v8), .val (.int v11), .val (.int v14), .val (.int v17), .val (.int v20), .val (.int v22), .unset, .unset, .unset, .unset, .unset, .unset] [(.int r25)])) t → Steps p.tables e below (s₁.setTop (entryFrame m #[(.int x0), (.int x1)] maxLocals)) t := fun t k => pre23 t (st25 _ k)
  have pre27 : ∀ t, Steps p.tables e below (T25.setTop (mkF m 110 #[.val (.int x0), .val (.int x1), .val (.int v2), .val (.int v5), .val (.int v8), .val (.int v11), .val (.int v14), .val (.int v17), .val (.int v20), .val (.int v22), .val (.int r25), .unset, .unset, .unset, .unset, .unset] [])) t → Steps p.tables e below (s₁.setTop (entryFrame m #[(.int x0), (.int x1)] maxLocals)) t := fun t k => pre26 t (by
    show Steps p.tables e below (T25.setTop (mkF m 108 #[.val (.int x0), .val (.int x1), .val (.int v2), .val (.int v5), .val (.int v8), .val (.int v11), .val (.int v14), .val (.int v17), .val (.int v20), .val (.int v22), .unset, .unset, .unset, .unset, .unset, .unset] [(.int r25)])) _
    refine XS.istore X25.here hx rfl (hb hby at_108) rfl (l' := #[.val (.int x0), .val (.int x1), .val (.int v2), .val (.int v5), .val (.int v8), .val (.int v11), .val (.int v14), .val (.int v17), .val (.int v20), .val (.int v22), .val (.int r25), .unset, .unset, .unset, .unset, .unset]) rfl ?_
    show Steps p.tables e below (T25.setTop (mkF m 110 #[.val (.int x0), .val (.int x1), .val (.int v2), .val (.int v5), .val (.int v8), .val (.int v11), .val (.int v14), .val (.int v17), .val (.int v20), .val (.int v22), .val (.int r25), .unset, .unset, .unset, .unset, .unset] [])) _
    exact k)
  obtain ⟨T28, h28, X28, e28, E28, A28, D28, -, st28⟩ := newO X25 hx hZ hown (hw _ (List.mem_of_getElem? (i := 4) rfl)) (hw _ (List.mem_of_getElem? (i := 5) rfl)) (hw _ (List.mem_of_getElem? (i := 6) rfl)) e25 (g := (mkF m 110 #[.val (.int x0), .val (.int x1), .val (.int v2), .val (.int v5), .val (.int v8), .val (.int v11), .val (.int v14), .val (.int v17), .val (.int v20), .val (.int v22), .val (.int r25), .unset, .unset, .unset, .unset, .unset] [])) rfl (hb hby at_110) (by decide) (by decide)
  obtain ⟨b28, g28⟩ : ∃ z, z = h0.size := ⟨_, rfl⟩
  rw [← g28] at A28 D28 st28
  have g_b28 : n0 ≤ b28 := Nat.le_trans Z0 (Nat.le_of_eq g28.symm)
  have c29 := (S_DEFAULTCAPACITY_EMPTY_ELEMENTDATA).ext E28
  have Zz28 : n0 ≤ h28.size := Nat.le_trans Z0 E28.1
  have F_task_b28 : Fld Z h28 b28 "com/example/lean_lifecycle/leanlifecycle/ActivityManager" "task" "Ljava/util/List;" .null := D28 (Or.inr (hw _ (List.mem_of_getElem? (i := 38) rfl))) (ty := (.object "java/util/List")) (by decide)
  have F_entries_b28 : Fld Z h28 b28 "com/example/lean_lifecycle/leanlifecycle/ActivityManager" "entries" "Ljava/util/Map;" .null := D28 (Or.inr (hw _ (List.mem_of_getElem? (i := 56) rfl))) (ty := (.object "java/util/Map")) (by decide)
  have F_toFinish_b28 : Fld Z h28 b28 "com/example/lean_lifecycle/leanlifecycle/ActivityManager" "toFinish" "Ljava/util/Map;" .null := D28 (Or.inr (hw _ (List.mem_of_getElem? (i := 58) rfl))) (ty := (.object "java/util/Map")) (by decide)
  have F_inFront_b28 : Fld Z h28 b28 "com/example/lean_lifecycle/leanlifecycle/ActivityManager" "inFront" "Z" (.int (0 : Int32)) := D28 (Or.inl (hw _ (List.mem_of_getElem? (i := 60) rfl))) (ty := .boolean) (by decide)
  have F_frontMovesPosted_b28 : Fld Z h28 b28 "com/example/lean_lifecycle/leanlifecycle/ActivityManager" "frontMovesPosted" "I" (.int (0 : Int32)) := D28 (Or.inl (hw _ (List.mem_of_getElem? (i := 67) rfl))) (ty := .int) (by decide)
  have F_inFrontAsPosted_b28 : Fld Z h28 b28 "com/example/lean_lifecycle/leanlifecycle/ActivityManager" "inFrontAsPosted" "Z" (.int (0 : Int32)) := D28 (Or.inl (hw _ (List.mem_of_getElem? (i := 69) rfl))) (ty := .boolean) (by decide)
  have pre30 : ∀ t, Steps p.tables e below (T28.setTop (mkF m 113 #[.val (.int x0), .val (.int x1), .val (.int v2), .val (.int v5), .val (.int v8), .val (.int v11), .val (.int v14), .val (.int v17), .val (.int v20), .val (.int v22), .val (.int r25), .unset, .unset, .unset, .unset, .unset] [(.ref b28)])) t → Steps p.tables e below (s₁.setTop (entryFrame m #[(.int x0), (.int x1)] maxLocals)) t := fun t k => pre27 t (st28 _ k)
  have pre31 : ∀ t, Steps p.tables e below (T28.setTop (mkF m 114 #[.val (.int x0), .val (.int x1), .val (.int v2), .val (.int v5), .val (.int v8), .val (.int v11), .val (.int v14), .val (.int v17), .val (.int v20), .val (.int v22), .val (.int r25), .unset, .unset, .unset, .unset, .unset] [(.ref b28), (.ref b28)])) t → Steps p.tables e below (s₁.setTop (entryFrame m #[(.int x0), (.int x1)] maxLocals)) t := fun t k => pre30 t (by
    show Steps p.tables e below (T28.setTop (mkF m 113 #[.val (.int x0), .val (.int x1), .val (.int v2), .val (.int v5), .val (.int v8), .val (.int v11), .val (.int v14), .val (.int v17), .val (.int v20), .val (.int v22), .val (.int r25), .unset, .unset, .unset, .unset, .unset] [(.ref b28)])) _
    refine XS.dup X28.here hx rfl (hb hby at_113) rfl rfl ?_
    show Steps p.tables e below (T28.setTop (mkF m 114 #[.val (.int x0), .val (.int x1), .val (.int v2), .val (.int v5), .val (.int v8), .val (.int v11), .val (.int v14), .val (.int v17), .val (.int v20), .val (.int v22), .val (.int r25), .unset, .unset, .unset, .unset, .unset] [(.ref b28), (.ref b28)])) _
    exact k)
  obtain ⟨_, _, ⟨T33, L33, k33, n33⟩, -, X33, ⟨Lc33, hQ33, l33, y33, z33⟩, st33⟩ := X28.specialBack hx (y := (⟨"com/example/lean_lifecycle/leanlifecycle/ActivityManager", "<init>", "()V"⟩ : MethodName)) rfl hown (mvT hZ (hw _ (List.mem_of_getElem? (i := 7) rfl))) (mvT hZ (hw _ (List.mem_of_getElem? (i := 8) rfl))) (mvT hZ (hw _ (List.mem_of_getElem? (i := 9) rfl))) (by decide) (backOf (W := 1) (rm2 l Z a0 hw [] b28  w_DEFAULTCAPACITY_EMPTY_ELEMENTDATA h28 n0 Zz28 A28 F_task_b28 F_entries_b28 F_toFinish_b28 F_inFront_b28 F_frontMovesPosted_b28 F_inFrontAsPosted_b28 c29 g_b28) hZ (hw _ (List.mem_of_getElem? (i := 9) rfl)) (hw _ (List.mem_of_getElem? (i := 6) rfl)) (by decide) (by decide)) (g := (mkF m 114 #[.val (.int x0), .val (.int x1), .val (.int v2), .val (.int v5), .val (.int v8), .val (.int v11), .val (.int v14), .val (.int v17), .val (.int v20), .val (.int v22), .val (.int r25), .unset, .unset, .unset, .unset, .unset] [(.ref b28), (.ref b28)])) rfl (by rw [hml]; rfl) (Steps.refl _) (a := b28) (argsL := []) (rest := [(.ref b28)]) (lenOf pd_0 rfl) rfl (by show 2 * 0 + _ ≤ _; exact Nat.le_of_eq rfl) (hb hby at_114) (fun _ _ => ⟨rfl, e28, (by decide : 1 + 3 ≤ _), (by decide : 6 + 19 ≤ _)⟩)
  dsimp only [Pt.U, Pt.locs, Pt.cells, Pt.slots] at X33 l33 y33 z33 st33 hQ33
  subst l33 y33 z33
  obtain ⟨rfl, N33q, K33, Ec33, Fc33_inFront, Fc33_frontMovesPosted, Fc33_inFrontAsPosted⟩ := hQ33
  have N33 := Fr.app N25 N33q
  have pre34 : ∀ t, Steps p.tables e below (T33.setTop (mkF m 117 #[.val (.int x0), .val (.int x1), .val (.int v2), .val (.int v5), .val (.int v8), .val (.int v11), .val (.int v14), .val (.int v17), .val (.int v20), .val (.int v22), .val (.int r25), .unset, .unset, .unset, .unset, .unset] [(.ref b28)])) t → Steps p.tables e below (s₁.setTop (entryFrame m #[(.int x0), (.int x1)] maxLocals)) t := fun t k => pre31 t (st33.trans k)
  have Zz33 : n0 ≤ T33.heap.size := Nat.le_trans Zz28 K33.1
  have c35 := own_sta c29 K33 A28
  have c36 := (A28).keep K33
  have pre43 : ∀ t, Steps p.tables e below (T33.setTop (mkF m 123 #[.val (.int x0), .val (.int x1), .val (.int v2), .val (.int v5), .val (.int v8), .val (.int v11), .val (.int v14), .val (.int v17), .val (.int v20), .val (.int v22), .val (.int r25), .val (.ref b28), .val (.int (1 : Int32)), .unset, .unset, .unset] [(.int v2)])) t → Steps p.tables e below (s₁.setTop (entryFrame m #[(.int x0), (.int x1)] maxLocals)) t := fun t k => pre34 t (by
    show Steps p.tables e below (T33.setTop (mkF m 117 #[.val (.int x0), .val (.int x1), .val (.int v2), .val (.int v5), .val (.int v8), .val (.int v11), .val (.int v14), .val (.int v17), .val (.int v20), .val (.int v22), .val (.int r25), .unset, .unset, .unset, .unset, .unset] [(.ref b28)])) _
    refine XS.astore X33.here hx rfl (hb hby at_117) rfl rfl (l' := #[.val (.int x0), .val (.int x1), .val (.int v2), .val (.int v5), .val (.int v8), .val (.int v11), .val (.int v14), .val (.int v17), .val (.int v20), .val (.int v22), .val (.int r25), .val (.ref b28), .unset, .unset, .unset, .unset]) rfl ?_
    show Steps p.tables e below (T33.setTop (mkF m 119 #[.val (.int x0), .val (.int x1), .val (.int v2), .val (.int v5), .val (.int v8), .val (.int v11), .val (.int v14), .val (.int v17), .val (.int v20), .val (.int v22), .val (.int r25), .val (.ref b28), .unset, .unset, .unset, .unset] [])) _
    refine XS.iconst X33.here hx rfl (hb hby at_119) ?_
    show Steps p.tables e below (T33.setTop (mkF m 120 #[.val (.int x0), .val (.int x1), .val (.int v2), .val (.int v5), .val (.int v8), .val (.int v11), .val (.int v14), .val (.int v17), .val (.int v20), .val (.int v22), .val (.int r25), .val (.ref b28), .unset, .unset, .unset, .unset] [(.int (1 : Int32))])) _
    refine XS.istore X33.here hx rfl (hb hby at_120) rfl (l' := #[.val (.int x0), .val (.int x1), .val (.int v2), .val (.int v5), .val (.int v8), .val (.int v11), .val (.int v14), .val (.int v17), .val (.int v20), .val (.int v22), .val (.int r25), .val (.ref b28), .val (.int (1 : Int32)), .unset, .unset, .unset]) rfl ?_
    show Steps p.tables e below (T33.setTop (mkF m 122 #[.val (.int x0), .val (.int x1), .val (.int v2), .val (.int v5), .val (.int v8), .val (.int v11), .val (.int v14), .val (.int v17), .val (.int v20), .val (.int v22), .val (.int r25), .val (.ref b28), .val (.int (1 : Int32)), .unset, .unset, .unset] [])) _
    refine XS.iloadN X33.here hx rfl (hb hby at_122) rfl ?_
    show Steps p.tables e below (T33.setTop (mkF m 123 #[.val (.int x0), .val (.int x1), .val (.int v2), .val (.int v5), .val (.int v8), .val (.int v11), .val (.int v14), .val (.int v17), .val (.int v20), .val (.int v22), .val (.int r25), .val (.ref b28), .val (.int (1 : Int32)), .unset, .unset, .unset] [(.int v2)])) _
    exact k)
  obtain ⟨v57, hv57⟩ : ∃ z : Int32, z = (if v2 = (0 : Int32) then (1 : Int32) else v5) := ⟨_, rfl⟩
  obtain ⟨v58, hv58⟩ : ∃ z : Int32, z = (if v2 = (0 : Int32) then (1 : Int32) else (nar .boolean v5)) := ⟨_, rfl⟩
  obtain ⟨T56, L56, X56, N56, Zz56, f56_0, f56_1, f56_2, f56_3, pre59⟩ : ∃ (T56 : State) (L56 : List Loc), Stand p l e room_1 s m #[(.int x0), (.int x1)] below meth c T56 L56 4 25 ∧ Fr n0 L56 ∧ n0 ≤ T56.heap.size ∧ (Exa Z T56.heap b28 "com/example/lean_lifecycle/leanlifecycle/ActivityManager") ∧ (Fld Z T56.heap b28 "com/example/lean_lifecycle/leanlifecycle/ActivityManager" "inFront" "Z" (.int v58)) ∧ (Fld Z T56.heap b28 "com/example/lean_lifecycle/leanlifecycle/ActivityManager" "frontMovesPosted" "I" (.int (0 : Int32))) ∧ (Fld Z T56.heap b28 "com/example/lean_lifecycle/leanlifecycle/ActivityManager" "inFrontAsPosted" "Z" (.int (0 : Int32))) ∧ ∀ t, Steps p.tables e below (T56.setTop (mkF m 135 #[.val (.int x0), .val (.int x1), .val (.int v2), .val (.int v5), .val (.int v8), .val (.int v11), .val (.int v14), .val (.int v17), .val (.int v20), .val (.int v22), .val (.int r25), .val (.ref b28), .val (.int v57), .unset, .unset, .unset] [])) t → Steps p.tables e below (s₁.setTop (entryFrame m #[(.int x0), (.int x1)] maxLocals)) t := by
    by_cases hc44 : v2 = (0 : Int32)
    · skip
      have pre45 : ∀ t, Steps p.tables e below (T33.setTop (mkF m 135 #[.val (.int x0), .val (.int x1), .val (.int v2), .val (.int v5), .val (.int v8), .val (.int v11), .val (.int v14), .val (.int v17), .val (.int v20), .val (.int v22), .val (.int r25), .val (.ref b28), .val (.int (1 : Int32)), .unset, .unset, .unset] [])) t → Steps p.tables e below (s₁.setTop (entryFrame m #[(.int x0), (.int x1)] maxLocals)) t := fun t k => pre43 t (by
        show Steps p.tables e below (T33.setTop (mkF m 123 #[.val (.int x0), .val (.int x1), .val (.int v2), .val (.int v5), .val (.int v8), .val (.int v11), .val (.int v14), .val (.int v17), .val (.int v20), .val (.int v22), .val (.int r25), .val (.ref b28), .val (.int (1 : Int32)), .unset, .unset, .unset] [(.int v2)])) _
        refine XS.ifYes X33.here hx rfl (pc0 := 123) (pc' := 135) rfl (hb hby at_123) rfl ((if0 _ _).trans (teq hc44).1) (by decide) (by decide) ?_
        show Steps p.tables e below (T33.setTop (mkF m 135 #[.val (.int x0), .val (.int x1), .val (.int v2), .val (.int v5), .val (.int v8), .val (.int v11), .val (.int v14), .val (.int v17), .val (.int v20), .val (.int v22), .val (.int r25), .val (.ref b28), .val (.int (1 : Int32)), .unset, .unset, .unset] [])) _
        exact k)
      rw [if_pos hc44] at hv57
      rw [if_pos hc44] at hv58
      subst hv57 hv58
      exact ⟨_, _, X33, N33, Zz33, Ec33, Fc33_inFront, Fc33_frontMovesPosted, Fc33_inFrontAsPosted, pre45⟩
    · skip
      have pre46 : ∀ t, Steps p.tables e below (T33.setTop (mkF m 129 #[.val (.int x0), .val (.int x1), .val (.int v2), .val (.int v5), .val (.int v8), .val (.int v11), .val (.int v14), .val (.int v17), .val (.int v20), .val (.int v22), .val (.int r25), .val (.ref b28), .val (.int (1 : Int32)), .unset, .unset, .unset] [(.int v5), (.ref b28)])) t → Steps p.tables e below (s₁.setTop (entryFrame m #[(.int x0), (.int x1)] maxLocals)) t := fun t k => pre43 t (by
        show Steps p.tables e below (T33.setTop (mkF m 123 #[.val (.int x0), .val (.int x1), .val (.int v2), .val (.int v5), .val (.int v8), .val (.int v11), .val (.int v14), .val (.int v17), .val (.int v20), .val (.int v22), .val (.int r25), .val (.ref b28), .val (.int (1 : Int32)), .unset, .unset, .unset] [(.int v2)])) _
        refine XS.ifNo X33.here hx rfl (hb hby at_123) rfl ((if0 _ _).trans (feq hc44).1) ?_
        show Steps p.tables e below (T33.setTop (mkF m 126 #[.val (.int x0), .val (.int x1), .val (.int v2), .val (.int v5), .val (.int v8), .val (.int v11), .val (.int v14), .val (.int v17), .val (.int v20), .val (.int v22), .val (.int r25), .val (.ref b28), .val (.int (1 : Int32)), .unset, .unset, .unset] [])) _
        refine XS.aload X33.here hx rfl (hb hby at_126) rfl rfl ?_
        show Steps p.tables e below (T33.setTop (mkF m 128 #[.val (.int x0), .val (.int x1), .val (.int v2), .val (.int v5), .val (.int v8), .val (.int v11), .val (.int v14), .val (.int v17), .val (.int v20), .val (.int v22), .val (.int r25), .val (.ref b28), .val (.int (1 : Int32)), .unset, .unset, .unset] [(.ref b28)])) _
        refine XS.iloadN X33.here hx rfl (hb hby at_128) rfl ?_
        show Steps p.tables e below (T33.setTop (mkF m 129 #[.val (.int x0), .val (.int x1), .val (.int v2), .val (.int v5), .val (.int v8), .val (.int v11), .val (.int v14), .val (.int v17), .val (.int v20), .val (.int v22), .val (.int r25), .val (.ref b28), .val (.int (1 : Int32)), .unset, .unset, .unset] [(.int v5), (.ref b28)])) _
        exact k)
      obtain ⟨cq48, kq48, q48a, q48b, q48c⟩ := isOf hZ rfl Ec33
      obtain ⟨_, _, ⟨T48, L48, k48, n48⟩, -, X48, ⟨Lc48, hQ48, l48, y48, z48⟩, st48⟩ := X33.virtualBack hx (y := (⟨"com/example/lean_lifecycle/leanlifecycle/ActivityManager", "setInFront", "(Z)V"⟩ : MethodName)) (z := (⟨"com/example/lean_lifecycle/leanlifecycle/ActivityManager", "setInFront", "(Z)V"⟩ : MethodName)) hown (mvT hZ (hw _ (List.mem_of_getElem? (i := 80) rfl))) (mvT hZ (hw _ (List.mem_of_getElem? (i := 81) rfl))) (notFace_of_selects (args := #[]) (mvT hZ (hw _ (List.mem_of_getElem? (i := 83) rfl)))) (mvT hZ (hw _ (List.mem_of_getElem? (i := 83) rfl))) (mvT hZ (hw _ (List.mem_of_getElem? (i := 82) rfl))) (by decide) (backOf (W := 0) (rm12 l Z a0 hw [] b28 v5 (1 : Int32) (0 : Int32) (0 : Int32)  T33.heap n0 Zz33 Ec33 Fc33_inFront Fc33_frontMovesPosted Fc33_inFrontAsPosted g_b28) hZ (hw _ (List.mem_of_getElem? (i := 84) rfl)) (hw _ (List.mem_of_getElem? (i := 6) rfl)) (by decide) (by decide)) q48a q48c (g := (mkF m 129 #[.val (.int x0), .val (.int x1), .val (.int v2), .val (.int v5), .val (.int v8), .val (.int v11), .val (.int v14), .val (.int v17), .val (.int v20), .val (.int v22), .val (.int r25), .val (.ref b28), .val (.int (1 : Int32)), .unset, .unset, .unset] [(.int v5), (.ref b28)])) rfl (by rw [hml]; rfl) (Steps.refl _) (argsL := [(.int v5)]) (rest := []) (lenOf pd_2 rfl) rfl (by show 2 * 0 + _ ≤ _; exact Nat.le_of_eq rfl) (hb hby at_129) (fun _ _ => ⟨rfl, rfl, (by decide : 4 + 0 ≤ _), (by decide : 25 + 0 ≤ _)⟩)
      dsimp only [Pt.U, Pt.locs, Pt.cells, Pt.slots] at X48 l48 y48 z48 st48 hQ48
      subst l48 y48 z48
      obtain ⟨rfl, N48q, K48, Ec48, Fc48_inFront, Fc48_frontMovesPosted, Fc48_inFrontAsPosted⟩ := hQ48
      have N48 := Fr.app N33 N48q
      have pre49 : ∀ t, Steps p.tables e below (T48.setTop (mkF m 132 #[.val (.int x0), .val (.int x1), .val (.int v2), .val (.int v5), .val (.int v8), .val (.int v11), .val (.int v14), .val (.int v17), .val (.int v20), .val (.int v22), .val (.int r25), .val (.ref b28), .val (.int (1 : Int32)), .unset, .unset, .unset] [])) t → Steps p.tables e below (s₁.setTop (entryFrame m #[(.int x0), (.int x1)] maxLocals)) t := fun t k => pre46 t (st48.trans k)
      have Zz48 : n0 ≤ T48.heap.size := Nat.le_trans Zz33 K48.1
      have c50 := own_sta c35 K48 Ec33
      have c51 := (Ec33).keep K48
      have pre55 : ∀ t, Steps p.tables e below (T48.setTop (mkF m 135 #[.val (.int x0), .val (.int x1), .val (.int v2), .val (.int v5), .val (.int v8), .val (.int v11), .val (.int v14), .val (.int v17), .val (.int v20), .val (.int v22), .val (.int r25), .val (.ref b28), .val (.int v5), .unset, .unset, .unset] [])) t → Steps p.tables e below (s₁.setTop (entryFrame m #[(.int x0), (.int x1)] maxLocals)) t := fun t k => pre49 t (by
        show Steps p.tables e below (T48.setTop (mkF m 132 #[.val (.int x0), .val (.int x1), .val (.int v2), .val (.int v5), .val (.int v8), .val (.int v11), .val (.int v14), .val (.int v17), .val (.int v20), .val (.int v22), .val (.int r25), .val (.ref b28), .val (.int (1 : Int32)), .unset, .unset, .unset] [])) _
        refine XS.iloadN X48.here hx rfl (hb hby at_132) rfl ?_
        show Steps p.tables e below (T48.setTop (mkF m 133 #[.val (.int x0), .val (.int x1), .val (.int v2), .val (.int v5), .val (.int v8), .val (.int v11), .val (.int v14), .val (.int v17), .val (.int v20), .val (.int v22), .val (.int r25), .val (.ref b28), .val (.int (1 : Int32)), .unset, .unset, .unset] [(.int v5)])) _
        refine XS.istore X48.here hx rfl (hb hby at_133) rfl (l' := #[.val (.int x0), .val (.int x1), .val (.int v2), .val (.int v5), .val (.int v8), .val (.int v11), .val (.int v14), .val (.int v17), .val (.int v20), .val (.int v22), .val (.int r25), .val (.ref b28), .val (.int v5), .unset, .unset, .unset]) rfl ?_
        show Steps p.tables e below (T48.setTop (mkF m 135 #[.val (.int x0), .val (.int x1), .val (.int v2), .val (.int v5), .val (.int v8), .val (.int v11), .val (.int v14), .val (.int v17), .val (.int v20), .val (.int v22), .val (.int r25), .val (.ref b28), .val (.int v5), .unset, .unset, .unset] [])) _
        exact k)
      rw [if_neg hc44] at hv57
      rw [if_neg hc44] at hv58
      subst hv57 hv58
      exact ⟨_, _, X48, N48, Zz48, Ec48, Fc48_inFront, Fc48_frontMovesPosted, Fc48_inFrontAsPosted, pre55⟩
  have pre60 : ∀ t, Steps p.tables e below (T56.setTop (mkF m 138 #[.val (.int x0), .val (.int x1), .val (.int v2), .val (.int v5), .val (.int v8), .val (.int v11), .val (.int v14), .val (.int v17), .val (.int v20), .val (.int v22), .val (.int r25), .val (.ref b28), .val (.int v57), .unset, .unset, .unset] [(.int (1 : Int32)), (.int v22)])) t → Steps p.tables e below (s₁.setTop (entryFrame m #[(.int x0), (.int x1)] maxLocals)) t := fun t k => pre59 t (by
    show Steps p.tables e below (T56.setTop (mkF m 135 #[.val (.int x0), .val (.int x1), .val (.int v2), .val (.int v5), .val (.int v8), .val (.int v11), .val (.int v14), .val (.int v17), .val (.int v20), .val (.int v22), .val (.int r25), .val (.ref b28), .val (.int v57), .unset, .unset, .unset] [])) _
    refine XS.iload X56.here hx rfl (hb hby at_135) rfl ?_
    show Steps p.tables e below (T56.setTop (mkF m 137 #[.val (.int x0), .val (.int x1), .val (.int v2), .val (.int v5), .val (.int v8), .val (.int v11), .val (.int v14), .val (.int v17), .val (.int v20), .val (.int v22), .val (.int r25), .val (.ref b28), .val (.int v57), .unset, .unset, .unset] [(.int v22)])) _
    refine XS.iconst X56.here hx rfl (hb hby at_137) ?_
    show Steps p.tables e below (T56.setTop (mkF m 138 #[.val (.int x0), .val (.int x1), .val (.int v2), .val (.int v5), .val (.int v8), .val (.int v11), .val (.int v14), .val (.int v17), .val (.int v20), .val (.int v22), .val (.int r25), .val (.ref b28), .val (.int v57), .unset, .unset, .unset] [(.int (1 : Int32)), (.int v22)])) _
    exact k)
  obtain ⟨v72, hv72⟩ : ∃ z : Int32, z = (if v22 < (1 : Int32) then (0 : Int32) else ((0 : Int32) + (1 : Int32))) := ⟨_, rfl⟩
  obtain ⟨v73, hv73⟩ : ∃ z : Int32, z = (if v22 < (1 : Int32) then (0 : Int32) else (nar .boolean v8)) := ⟨_, rfl⟩
  obtain ⟨T71, L71, X71, N71, Zz71, f71_0, f71_1, f71_2, f71_3, pre74⟩ : ∃ (T71 : State) (L71 : List Loc), Stand p l e room_1 s m #[(.int x0), (.int x1)] below meth c T71 L71 4 25 ∧ Fr n0 L71 ∧ n0 ≤ T71.heap.size ∧ (Exa Z T71.heap b28 "com/example/lean_lifecycle/leanlifecycle/ActivityManager") ∧ (Fld Z T71.heap b28 "com/example/lean_lifecycle/leanlifecycle/ActivityManager" "inFront" "Z" (.int v58)) ∧ (Fld Z T71.heap b28 "com/example/lean_lifecycle/leanlifecycle/ActivityManager" "frontMovesPosted" "I" (.int v72)) ∧ (Fld Z T71.heap b28 "com/example/lean_lifecycle/leanlifecycle/ActivityManager" "inFrontAsPosted" "Z" (.int v73)) ∧ ∀ t, Steps p.tables e below (T71.setTop (mkF m 148 #[.val (.int x0), .val (.int x1), .val (.int v2), .val (.int v5), .val (.int v8), .val (.int v11), .val (.int v14), .val (.int v17), .val (.int v20), .val (.int v22), .val (.int r25), .val (.ref b28), .val (.int v57), .unset, .unset, .unset] [])) t → Steps p.tables e below (s₁.setTop (entryFrame m #[(.int x0), (.int x1)] maxLocals)) t := by
    by_cases hc61 : v22 < (1 : Int32)
    · skip
      have pre62 : ∀ t, Steps p.tables e below (T56.setTop (mkF m 148 #[.val (.int x0), .val (.int x1), .val (.int v2), .val (.int v5), .val (.int v8), .val (.int v11), .val (.int v14), .val (.int v17), .val (.int v20), .val (.int v22), .val (.int r25), .val (.ref b28), .val (.int v57), .unset, .unset, .unset] [])) t → Steps p.tables e below (s₁.setTop (entryFrame m #[(.int x0), (.int x1)] maxLocals)) t := fun t k => pre60 t (by
        show Steps p.tables e below (T56.setTop (mkF m 138 #[.val (.int x0), .val (.int x1), .val (.int v2), .val (.int v5), .val (.int v8), .val (.int v11), .val (.int v14), .val (.int v17), .val (.int v20), .val (.int v22), .val (.int r25), .val (.ref b28), .val (.int v57), .unset, .unset, .unset] [(.int (1 : Int32)), (.int v22)])) _
        refine XS.icmpYes X56.here hx rfl (pc0 := 138) (pc' := 148) rfl (hb hby at_138) rfl (tlt hc61).1 (by decide) (by decide) ?_
        show Steps p.tables e below (T56.setTop (mkF m 148 #[.val (.int x0), .val (.int x1), .val (.int v2), .val (.int v5), .val (.int v8), .val (.int v11), .val (.int v14), .val (.int v17), .val (.int v20), .val (.int v22), .val (.int r25), .val (.ref b28), .val (.int v57), .unset, .unset, .unset] [])) _
        exact k)
      rw [if_pos hc61] at hv72
      rw [if_pos hc61] at hv73
      subst hv72 hv73
      exact ⟨_, _, X56, N56, Zz56, f56_0, f56_1, f56_2, f56_3, pre62⟩
    · skip
      have pre63 : ∀ t, Steps p.tables e below (T56.setTop (mkF m 145 #[.val (.int x0), .val (.int x1), .val (.int v2), .val (.int v5), .val (.int v8), .val (.int v11), .val (.int v14), .val (.int v17), .val (.int v20), .val (.int v22), .val (.int r25), .val (.ref b28), .val (.int v57), .unset, .unset, .unset] [(.int v8), (.ref b28)])) t → Steps p.tables e below (s₁.setTop (entryFrame m #[(.int x0), (.int x1)] maxLocals)) t := fun t k => pre60 t (by
        show Steps p.tables e below (T56.setTop (mkF m 138 #[.val (.int x0), .val (.int x1), .val (.int v2), .val (.int v5), .val (.int v8), .val (.int v11), .val (.int v14), .val (.int v17), .val (.int v20), .val (.int v22), .val (.int r25), .val (.ref b28), .val (.int v57), .unset, .unset, .unset] [(.int (1 : Int32)), (.int v22)])) _
        refine XS.icmpNo X56.here hx rfl (hb hby at_138) rfl (flt hc61).1 ?_
        show Steps p.tables e below (T56.setTop (mkF m 141 #[.val (.int x0), .val (.int x1), .val (.int v2), .val (.int v5), .val (.int v8), .val (.int v11), .val (.int v14), .val (.int v17), .val (.int v20), .val (.int v22), .val (.int r25), .val (.ref b28), .val (.int v57), .unset, .unset, .unset] [])) _
        refine XS.aload X56.here hx rfl (hb hby at_141) rfl rfl ?_
        show Steps p.tables e below (T56.setTop (mkF m 143 #[.val (.int x0), .val (.int x1), .val (.int v2), .val (.int v5), .val (.int v8), .val (.int v11), .val (.int v14), .val (.int v17), .val (.int v20), .val (.int v22), .val (.int r25), .val (.ref b28), .val (.int v57), .unset, .unset, .unset] [(.ref b28)])) _
        refine XS.iload X56.here hx rfl (hb hby at_143) rfl ?_
        show Steps p.tables e below (T56.setTop (mkF m 145 #[.val (.int x0), .val (.int x1), .val (.int v2), .val (.int v5), .val (.int v8), .val (.int v11), .val (.int v14), .val (.int v17), .val (.int v20), .val (.int v22), .val (.int r25), .val (.ref b28), .val (.int v57), .unset, .unset, .unset] [(.int v8), (.ref b28)])) _
        exact k)
      obtain ⟨cq65, kq65, q65a, q65b, q65c⟩ := isOf hZ rfl f56_0
      obtain ⟨_, _, ⟨T65, L65, k65, n65⟩, -, X65, ⟨Lc65, hQ65, l65, y65, z65⟩, st65⟩ := X56.virtualBack hx (y := (⟨"com/example/lean_lifecycle/leanlifecycle/ActivityManager", "postFrontMove", "(Z)V"⟩ : MethodName)) (z := (⟨"com/example/lean_lifecycle/leanlifecycle/ActivityManager", "postFrontMove", "(Z)V"⟩ : MethodName)) hown (mvT hZ (hw _ (List.mem_of_getElem? (i := 61) rfl))) (mvT hZ (hw _ (List.mem_of_getElem? (i := 62) rfl))) (notFace_of_selects (args := #[]) (mvT hZ (hw _ (List.mem_of_getElem? (i := 64) rfl)))) (mvT hZ (hw _ (List.mem_of_getElem? (i := 64) rfl))) (mvT hZ (hw _ (List.mem_of_getElem? (i := 63) rfl))) (by decide) (backOf (W := 0) (rm9 l Z a0 hw [] b28 v8 v58 (0 : Int32) (0 : Int32)  T56.heap n0 Zz56 f56_0 f56_1 f56_2 f56_3 g_b28) hZ (hw _ (List.mem_of_getElem? (i := 65) rfl)) (hw _ (List.mem_of_getElem? (i := 6) rfl)) (by decide) (by decide)) q65a q65c (g := (mkF m 145 #[.val (.int x0), .val (.int x1), .val (.int v2), .val (.int v5), .val (.int v8), .val (.int v11), .val (.int v14), .val (.int v17), .val (.int v20), .val (.int v22), .val (.int r25), .val (.ref b28), .val (.int v57), .unset, .unset, .unset] [(.int v8), (.ref b28)])) rfl (by rw [hml]; rfl) (Steps.refl _) (argsL := [(.int v8)]) (rest := []) (lenOf pd_2 rfl) rfl (by show 2 * 0 + _ ≤ _; exact Nat.le_of_eq rfl) (hb hby at_145) (fun _ _ => ⟨rfl, rfl, (by decide : 4 + 0 ≤ _), (by decide : 25 + 0 ≤ _)⟩)
      dsimp only [Pt.U, Pt.locs, Pt.cells, Pt.slots] at X65 l65 y65 z65 st65 hQ65
      subst l65 y65 z65
      obtain ⟨rfl, N65q, K65, Ec65, Fc65_inFront, Fc65_frontMovesPosted, Fc65_inFrontAsPosted⟩ := hQ65
      have N65 := Fr.app N56 N65q
      have pre66 : ∀ t, Steps p.tables e below (T65.setTop (mkF m 148 #[.val (.int x0), .val (.int x1), .val (.int v2), .val (.int v5), .val (.int v8), .val (.int v11), .val (.int v14), .val (.int v17), .val (.int v20), .val (.int v22), .val (.int r25), .val (.ref b28), .val (.int v57), .unset, .unset, .unset] [])) t → Steps p.tables e below (s₁.setTop (entryFrame m #[(.int x0), (.int x1)] maxLocals)) t := fun t k => pre63 t (st65.trans k)
      have Zz65 : n0 ≤ T65.heap.size := Nat.le_trans Zz56 K65.1
      have c67 := (f56_0).keep K65
      rw [if_neg hc61] at hv72
      rw [if_neg hc61] at hv73
      subst hv72 hv73
      exact ⟨_, _, X65, N65, Zz65, Ec65, Fc65_inFront, Fc65_frontMovesPosted, Fc65_inFrontAsPosted, pre66⟩
  have pre75 : ∀ t, Steps p.tables e below (T71.setTop (mkF m 151 #[.val (.int x0), .val (.int x1), .val (.int v2), .val (.int v5), .val (.int v8), .val (.int v11), .val (.int v14), .val (.int v17), .val (.int v20), .val (.int v22), .val (.int r25), .val (.ref b28), .val (.int v57), .unset, .unset, .unset] [(.int (2 : Int32)), (.int v22)])) t → Steps p.tables e below (s₁.setTop (entryFrame m #[(.int x0), (.int x1)] maxLocals)) t := fun t k => pre74 t (by
    show Steps p.tables e below (T71.setTop (mkF m 148 #[.val (.int x0), .val (.int x1), .val (.int v2), .val (.int v5), .val (.int v8), .val (.int v11), .val (.int v14), .val (.int v17), .val (.int v20), .val (.int v22), .val (.int r25), .val (.ref b28), .val (.int v57), .unset, .unset, .unset] [])) _
    refine XS.iload X71.here hx rfl (hb hby at_148) rfl ?_
    show Steps p.tables e below (T71.setTop (mkF m 150 #[.val (.int x0), .val (.int x1), .val (.int v2), .val (.int v5), .val (.int v8), .val (.int v11), .val (.int v14), .val (.int v17), .val (.int v20), .val (.int v22), .val (.int r25), .val (.ref b28), .val (.int v57), .unset, .unset, .unset] [(.int v22)])) _
    refine XS.iconst X71.here hx rfl (hb hby at_150) ?_
    show Steps p.tables e below (T71.setTop (mkF m 151 #[.val (.int x0), .val (.int x1), .val (.int v2), .val (.int v5), .val (.int v8), .val (.int v11), .val (.int v14), .val (.int v17), .val (.int v20), .val (.int v22), .val (.int r25), .val (.ref b28), .val (.int v57), .unset, .unset, .unset] [(.int (2 : Int32)), (.int v22)])) _
    exact k)
  obtain ⟨v87, hv87⟩ : ∃ z : Int32, z = (if v22 < (2 : Int32) then v72 else (v72 + (1 : Int32))) := ⟨_, rfl⟩
  obtain ⟨v88, hv88⟩ : ∃ z : Int32, z = (if v22 < (2 : Int32) then v73 else (nar .boolean v11)) := ⟨_, rfl⟩
  obtain ⟨T86, L86, X86, N86, Zz86, f86_0, f86_1, f86_2, f86_3, pre89⟩ : ∃ (T86 : State) (L86 : List Loc), Stand p l e room_1 s m #[(.int x0), (.int x1)] below meth c T86 L86 4 25 ∧ Fr n0 L86 ∧ n0 ≤ T86.heap.size ∧ (Exa Z T86.heap b28 "com/example/lean_lifecycle/leanlifecycle/ActivityManager") ∧ (Fld Z T86.heap b28 "com/example/lean_lifecycle/leanlifecycle/ActivityManager" "inFront" "Z" (.int v58)) ∧ (Fld Z T86.heap b28 "com/example/lean_lifecycle/leanlifecycle/ActivityManager" "frontMovesPosted" "I" (.int v87)) ∧ (Fld Z T86.heap b28 "com/example/lean_lifecycle/leanlifecycle/ActivityManager" "inFrontAsPosted" "Z" (.int v88)) ∧ ∀ t, Steps p.tables e below (T86.setTop (mkF m 161 #[.val (.int x0), .val (.int x1), .val (.int v2), .val (.int v5), .val (.int v8), .val (.int v11), .val (.int v14), .val (.int v17), .val (.int v20), .val (.int v22), .val (.int r25), .val (.ref b28), .val (.int v57), .unset, .unset, .unset] [])) t → Steps p.tables e below (s₁.setTop (entryFrame m #[(.int x0), (.int x1)] maxLocals)) t := by
    by_cases hc76 : v22 < (2 : Int32)
    · skip
      have pre77 : ∀ t, Steps p.tables e below (T71.setTop (mkF m 161 #[.val (.int x0), .val (.int x1), .val (.int v2), .val (.int v5), .val (.int v8), .val (.int v11), .val (.int v14), .val (.int v17), .val (.int v20), .val (.int v22), .val (.int r25), .val (.ref b28), .val (.int v57), .unset, .unset, .unset] [])) t → Steps p.tables e below (s₁.setTop (entryFrame m #[(.int x0), (.int x1)] maxLocals)) t := fun t k => pre75 t (by
        show Steps p.tables e below (T71.setTop (mkF m 151 #[.val (.int x0), .val (.int x1), .val (.int v2), .val (.int v5), .val (.int v8), .val (.int v11), .val (.int v14), .val (.int v17), .val (.int v20), .val (.int v22), .val (.int r25), .val (.ref b28), .val (.int v57), .unset, .unset, .unset] [(.int (2 : Int32)), (.int v22)])) _
        refine XS.icmpYes X71.here hx rfl (pc0 := 151) (pc' := 161) rfl (hb hby at_151) rfl (tlt hc76).1 (by decide) (by decide) ?_
        show Steps p.tables e below (T71.setTop (mkF m 161 #[.val (.int x0), .val (.int x1), .val (.int v2), .val (.int v5), .val (.int v8), .val (.int v11), .val (.int v14), .val (.int v17), .val (.int v20), .val (.int v22), .val (.int r25), .val (.ref b28), .val (.int v57), .unset, .unset, .unset] [])) _
        exact k)
      rw [if_pos hc76] at hv87
      rw [if_pos hc76] at hv88
      subst hv87 hv88
      exact ⟨_, _, X71, N71, Zz71, f71_0, f71_1, f71_2, f71_3, pre77⟩
    · skip
      have pre78 : ∀ t, Steps p.tables e below (T71.setTop (mkF m 158 #[.val (.int x0), .val (.int x1), .val (.int v2), .val (.int v5), .val (.int v8), .val (.int v11), .val (.int v14), .val (.int v17), .val (.int v20), .val (.int v22), .val (.int r25), .val (.ref b28), .val (.int v57), .unset, .unset, .unset] [(.int v11), (.ref b28)])) t → Steps p.tables e below (s₁.setTop (entryFrame m #[(.int x0), (.int x1)] maxLocals)) t := fun t k => pre75 t (by
        show Steps p.tables e below (T71.setTop (mkF m 151 #[.val (.int x0), .val (.int x1), .val (.int v2), .val (.int v5), .val (.int v8), .val (.int v11), .val (.int v14), .val (.int v17), .val (.int v20), .val (.int v22), .val (.int r25), .val (.ref b28), .val (.int v57), .unset, .unset, .unset] [(.int (2 : Int32)), (.int v22)])) _
        refine XS.icmpNo X71.here hx rfl (hb hby at_151) rfl (flt hc76).1 ?_
        show Steps p.tables e below (T71.setTop (mkF m 154 #[.val (.int x0), .val (.int x1), .val (.int v2), .val (.int v5), .val (.int v8), .val (.int v11), .val (.int v14), .val (.int v17), .val (.int v20), .val (.int v22), .val (.int r25), .val (.ref b28), .val (.int v57), .unset, .unset, .unset] [])) _
        refine XS.aload X71.here hx rfl (hb hby at_154) rfl rfl ?_
        show Steps p.tables e below (T71.setTop (mkF m 156 #[.val (.int x0), .val (.int x1), .val (.int v2), .val (.int v5), .val (.int v8), .val (.int v11), .val (.int v14), .val (.int v17), .val (.int v20), .val (.int v22), .val (.int r25), .val (.ref b28), .val (.int v57), .unset, .unset, .unset] [(.ref b28)])) _
        refine XS.iload X71.here hx rfl (hb hby at_156) rfl ?_
        show Steps p.tables e below (T71.setTop (mkF m 158 #[.val (.int x0), .val (.int x1), .val (.int v2), .val (.int v5), .val (.int v8), .val (.int v11), .val (.int v14), .val (.int v17), .val (.int v20), .val (.int v22), .val (.int r25), .val (.ref b28), .val (.int v57), .unset, .unset, .unset] [(.int v11), (.ref b28)])) _
        exact k)
      obtain ⟨cq80, kq80, q80a, q80b, q80c⟩ := isOf hZ rfl f71_0
      obtain ⟨_, _, ⟨T80, L80, k80, n80⟩, -, X80, ⟨Lc80, hQ80, l80, y80, z80⟩, st80⟩ := X71.virtualBack hx (y := (⟨"com/example/lean_lifecycle/leanlifecycle/ActivityManager", "postFrontMove", "(Z)V"⟩ : MethodName)) (z := (⟨"com/example/lean_lifecycle/leanlifecycle/ActivityManager", "postFrontMove", "(Z)V"⟩ : MethodName)) hown (mvT hZ (hw _ (List.mem_of_getElem? (i := 61) rfl))) (mvT hZ (hw _ (List.mem_of_getElem? (i := 62) rfl))) (notFace_of_selects (args := #[]) (mvT hZ (hw _ (List.mem_of_getElem? (i := 64) rfl)))) (mvT hZ (hw _ (List.mem_of_getElem? (i := 64) rfl))) (mvT hZ (hw _ (List.mem_of_getElem? (i := 63) rfl))) (by decide) (backOf (W := 0) (rm9 l Z a0 hw [] b28 v11 v58 v72 v73  T71.heap n0 Zz71 f71_0 f71_1 f71_2 f71_3 g_b28) hZ (hw _ (List.mem_of_getElem? (i := 65) rfl)) (hw _ (List.mem_of_getElem? (i := 6) rfl)) (by decide) (by decide)) q80a q80c (g := (mkF m 158 #[.val (.int x0), .val (.int x1), .val (.int v2), .val (.int v5), .val (.int v8), .val (.int v11), .val (.int v14), .val (.int v17), .val (.int v20), .val (.int v22), .val (.int r25), .val (.ref b28), .val (.int v57), .unset, .unset, .unset] [(.int v11), (.ref b28)])) rfl (by rw [hml]; rfl) (Steps.refl _) (argsL := [(.int v11)]) (rest := []) (lenOf pd_2 rfl) rfl (by show 2 * 0 + _ ≤ _; exact Nat.le_of_eq rfl) (hb hby at_158) (fun _ _ => ⟨rfl, rfl, (by decide : 4 + 0 ≤ _), (by decide : 25 + 0 ≤ _)⟩)
      dsimp only [Pt.U, Pt.locs, Pt.cells, Pt.slots] at X80 l80 y80 z80 st80 hQ80
      subst l80 y80 z80
      obtain ⟨rfl, N80q, K80, Ec80, Fc80_inFront, Fc80_frontMovesPosted, Fc80_inFrontAsPosted⟩ := hQ80
      have N80 := Fr.app N71 N80q
      have pre81 : ∀ t, Steps p.tables e below (T80.setTop (mkF m 161 #[.val (.int x0), .val (.int x1), .val (.int v2), .val (.int v5), .val (.int v8), .val (.int v11), .val (.int v14), .val (.int v17), .val (.int v20), .val (.int v22), .val (.int r25), .val (.ref b28), .val (.int v57), .unset, .unset, .unset] [])) t → Steps p.tables e below (s₁.setTop (entryFrame m #[(.int x0), (.int x1)] maxLocals)) t := fun t k => pre78 t (st80.trans k)
      have Zz80 : n0 ≤ T80.heap.size := Nat.le_trans Zz71 K80.1
      have c82 := (f71_0).keep K80
      rw [if_neg hc76] at hv87
      rw [if_neg hc76] at hv88
      subst hv87 hv88
      exact ⟨_, _, X80, N80, Zz80, Ec80, Fc80_inFront, Fc80_frontMovesPosted, Fc80_inFrontAsPosted, pre81⟩
  have pre90 : ∀ t, Steps p.tables e below (T86.setTop (mkF m 164 #[.val (.int x0), .val (.int x1), .val (.int v2), .val (.int v5), .val (.int v8), .val (.int v11), .val (.int v14), .val (.int v17), .val (.int v20), .val (.int v22), .val (.int r25), .val (.ref b28), .val (.int v57), .unset, .unset, .unset] [(.int (3 : Int32)), (.int v22)])) t → Steps p.tables e below (s₁.setTop (entryFrame m #[(.int x0), (.int x1)] maxLocals)) t := fun t k => pre89 t (by
    show Steps p.tables e below (T86.setTop (mkF m 161 #[.val (.int x0), .val (.int x1), .val (.int v2), .val (.int v5), .val (.int v8), .val (.int v11), .val (.int v14), .val (.int v17), .val (.int v20), .val (.int v22), .val (.int r25), .val (.ref b28), .val (.int v57), .unset, .unset, .unset] [])) _
    refine XS.iload X86.here hx rfl (hb hby at_161) rfl ?_
    show Steps p.tables e below (T86.setTop (mkF m 163 #[.val (.int x0), .val (.int x1), .val (.int v2), .val (.int v5), .val (.int v8), .val (.int v11), .val (.int v14), .val (.int v17), .val (.int v20), .val (.int v22), .val (.int r25), .val (.ref b28), .val (.int v57), .unset, .unset, .unset] [(.int v22)])) _
    refine XS.iconst X86.here hx rfl (hb hby at_163) ?_
    show Steps p.tables e below (T86.setTop (mkF m 164 #[.val (.int x0), .val (.int x1), .val (.int v2), .val (.int v5), .val (.int v8), .val (.int v11), .val (.int v14), .val (.int v17), .val (.int v20), .val (.int v22), .val (.int r25), .val (.ref b28), .val (.int v57), .unset, .unset, .unset] [(.int (3 : Int32)), (.int v22)])) _
    exact k)
  obtain ⟨v102, hv102⟩ : ∃ z : Int32, z = (if v22 < (3 : Int32) then v87 else (v87 + (1 : Int32))) := ⟨_, rfl⟩
  obtain ⟨v103, hv103⟩ : ∃ z : Int32, z = (if v22 < (3 : Int32) then v88 else (nar .boolean v14)) := ⟨_, rfl⟩
  obtain ⟨T101, L101, X101, N101, Zz101, f101_0, f101_1, f101_2, f101_3, pre104⟩ : ∃ (T101 : State) (L101 : List Loc), Stand p l e room_1 s m #[(.int x0), (.int x1)] below meth c T101 L101 4 25 ∧ Fr n0 L101 ∧ n0 ≤ T101.heap.size ∧ (Exa Z T101.heap b28 "com/example/lean_lifecycle/leanlifecycle/ActivityManager") ∧ (Fld Z T101.heap b28 "com/example/lean_lifecycle/leanlifecycle/ActivityManager" "inFront" "Z" (.int v58)) ∧ (Fld Z T101.heap b28 "com/example/lean_lifecycle/leanlifecycle/ActivityManager" "frontMovesPosted" "I" (.int v102)) ∧ (Fld Z T101.heap b28 "com/example/lean_lifecycle/leanlifecycle/ActivityManager" "inFrontAsPosted" "Z" (.int v103)) ∧ ∀ t, Steps p.tables e below (T101.setTop (mkF m 174 #[.val (.int x0), .val (.int x1), .val (.int v2), .val (.int v5), .val (.int v8), .val (.int v11), .val (.int v14), .val (.int v17), .val (.int v20), .val (.int v22), .val (.int r25), .val (.ref b28), .val (.int v57), .unset, .unset, .unset] [])) t → Steps p.tables e below (s₁.setTop (entryFrame m #[(.int x0), (.int x1)] maxLocals)) t := by
    by_cases hc91 : v22 < (3 : Int32)
    · skip
      have pre92 : ∀ t, Steps p.tables e below (T86.setTop (mkF m 174 #[.val (.int x0), .val (.int x1), .val (.int v2), .val (.int v5), .val (.int v8), .val (.int v11), .val (.int v14), .val (.int v17), .val (.int v20), .val (.int v22), .val (.int r25), .val (.ref b28), .val (.int v57), .unset, .unset, .unset] [])) t → Steps p.tables e below (s₁.setTop (entryFrame m #[(.int x0), (.int x1)] maxLocals)) t := fun t k => pre90 t (by
        show Steps p.tables e below (T86.setTop (mkF m 164 #[.val (.int x0), .val (.int x1), .val (.int v2), .val (.int v5), .val (.int v8), .val (.int v11), .val (.int v14), .val (.int v17), .val (.int v20), .val (.int v22), .val (.int r25), .val (.ref b28), .val (.int v57), .unset, .unset, .unset] [(.int (3 : Int32)), (.int v22)])) _
        refine XS.icmpYes X86.here hx rfl (pc0 := 164) (pc' := 174) rfl (hb hby at_164) rfl (tlt hc91).1 (by decide) (by decide) ?_
        show Steps p.tables e below (T86.setTop (mkF m 174 #[.val (.int x0), .val (.int x1), .val (.int v2), .val (.int v5), .val (.int v8), .val (.int v11), .val (.int v14), .val (.int v17), .val (.int v20), .val (.int v22), .val (.int r25), .val (.ref b28), .val (.int v57), .unset, .unset, .unset] [])) _
        exact k)
      rw [if_pos hc91] at hv102
      rw [if_pos hc91] at hv103
      subst hv102 hv103
      exact ⟨_, _, X86, N86, Zz86, f86_0, f86_1, f86_2, f86_3, pre92⟩
    · skip
      have pre93 : ∀ t, Steps p.tables e below (T86.setTop (mkF m 171 #[.val (.int x0), .val (.int x1), .val (.int v2), .val (.int v5), .val (.int v8), .val (.int v11), .val (.int v14), .val (.int v17), .val (.int v20), .val (.int v22), .val (.int r25), .val (.ref b28), .val (.int v57), .unset, .unset, .unset] [(.int v14), (.ref b28)])) t → Steps p.tables e below (s₁.setTop (entryFrame m #[(.int x0), (.int x1)] maxLocals)) t := fun t k => pre90 t (by
        show Steps p.tables e below (T86.setTop (mkF m 164 #[.val (.int x0), .val (.int x1), .val (.int v2), .val (.int v5), .val (.int v8), .val (.int v11), .val (.int v14), .val (.int v17), .val (.int v20), .val (.int v22), .val (.int r25), .val (.ref b28), .val (.int v57), .unset, .unset, .unset] [(.int (3 : Int32)), (.int v22)])) _
        refine XS.icmpNo X86.here hx rfl (hb hby at_164) rfl (flt hc91).1 ?_
        show Steps p.tables e below (T86.setTop (mkF m 167 #[.val (.int x0), .val (.int x1), .val (.int v2), .val (.int v5), .val (.int v8), .val (.int v11), .val (.int v14), .val (.int v17), .val (.int v20), .val (.int v22), .val (.int r25), .val (.ref b28), .val (.int v57), .unset, .unset, .unset] [])) _
        refine XS.aload X86.here hx rfl (hb hby at_167) rfl rfl ?_
        show Steps p.tables e below (T86.setTop (mkF m 169 #[.val (.int x0), .val (.int x1), .val (.int v2), .val (.int v5), .val (.int v8), .val (.int v11), .val (.int v14), .val (.int v17), .val (.int v20), .val (.int v22), .val (.int r25), .val (.ref b28), .val (.int v57), .unset, .unset, .unset] [(.ref b28)])) _
        refine XS.iload X86.here hx rfl (hb hby at_169) rfl ?_
        show Steps p.tables e below (T86.setTop (mkF m 171 #[.val (.int x0), .val (.int x1), .val (.int v2), .val (.int v5), .val (.int v8), .val (.int v11), .val (.int v14), .val (.int v17), .val (.int v20), .val (.int v22), .val (.int r25), .val (.ref b28), .val (.int v57), .unset, .unset, .unset] [(.int v14), (.ref b28)])) _
        exact k)
      obtain ⟨cq95, kq95, q95a, q95b, q95c⟩ := isOf hZ rfl f86_0
      obtain ⟨_, _, ⟨T95, L95, k95, n95⟩, -, X95, ⟨Lc95, hQ95, l95, y95, z95⟩, st95⟩ := X86.virtualBack hx (y := (⟨"com/example/lean_lifecycle/leanlifecycle/ActivityManager", "postFrontMove", "(Z)V"⟩ : MethodName)) (z := (⟨"com/example/lean_lifecycle/leanlifecycle/ActivityManager", "postFrontMove", "(Z)V"⟩ : MethodName)) hown (mvT hZ (hw _ (List.mem_of_getElem? (i := 61) rfl))) (mvT hZ (hw _ (List.mem_of_getElem? (i := 62) rfl))) (notFace_of_selects (args := #[]) (mvT hZ (hw _ (List.mem_of_getElem? (i := 64) rfl)))) (mvT hZ (hw _ (List.mem_of_getElem? (i := 64) rfl))) (mvT hZ (hw _ (List.mem_of_getElem? (i := 63) rfl))) (by decide) (backOf (W := 0) (rm9 l Z a0 hw [] b28 v14 v58 v87 v88  T86.heap n0 Zz86 f86_0 f86_1 f86_2 f86_3 g_b28) hZ (hw _ (List.mem_of_getElem? (i := 65) rfl)) (hw _ (List.mem_of_getElem? (i := 6) rfl)) (by decide) (by decide)) q95a q95c (g := (mkF m 171 #[.val (.int x0), .val (.int x1), .val (.int v2), .val (.int v5), .val (.int v8), .val (.int v11), .val (.int v14), .val (.int v17), .val (.int v20), .val (.int v22), .val (.int r25), .val (.ref b28), .val (.int v57), .unset, .unset, .unset] [(.int v14), (.ref b28)])) rfl (by rw [hml]; rfl) (Steps.refl _) (argsL := [(.int v14)]) (rest := []) (lenOf pd_2 rfl) rfl (by show 2 * 0 + _ ≤ _; exact Nat.le_of_eq rfl) (hb hby at_171) (fun _ _ => ⟨rfl, rfl, (by decide : 4 + 0 ≤ _), (by decide : 25 + 0 ≤ _)⟩)
      dsimp only [Pt.U, Pt.locs, Pt.cells, Pt.slots] at X95 l95 y95 z95 st95 hQ95
      subst l95 y95 z95
      obtain ⟨rfl, N95q, K95, Ec95, Fc95_inFront, Fc95_frontMovesPosted, Fc95_inFrontAsPosted⟩ := hQ95
      have N95 := Fr.app N86 N95q
      have pre96 : ∀ t, Steps p.tables e below (T95.setTop (mkF m 174 #[.val (.int x0), .val (.int x1), .val (.int v2), .val (.int v5), .val (.int v8), .val (.int v11), .val (.int v14), .val (.int v17), .val (.int v20), .val (.int v22), .val (.int r25), .val (.ref b28), .val (.int v57), .unset, .unset, .unset] [])) t → Steps p.tables e below (s₁.setTop (entryFrame m #[(.int x0), (.int x1)] maxLocals)) t := fun t k => pre93 t (st95.trans k)
      have Zz95 : n0 ≤ T95.heap.size := Nat.le_trans Zz86 K95.1
      have c97 := (f86_0).keep K95
      rw [if_neg hc91] at hv102
      rw [if_neg hc91] at hv103
      subst hv102 hv103
      exact ⟨_, _, X95, N95, Zz95, Ec95, Fc95_inFront, Fc95_frontMovesPosted, Fc95_inFrontAsPosted, pre96⟩
  have pre105 : ∀ t, Steps p.tables e below (T101.setTop (mkF m 177 #[.val (.int x0), .val (.int x1), .val (.int v2), .val (.int v5), .val (.int v8), .val (.int v11), .val (.int v14), .val (.int v17), .val (.int v20), .val (.int v22), .val (.int r25), .val (.ref b28), .val (.int v57), .unset, .unset, .unset] [(.int (1 : Int32)), (.int r25)])) t → Steps p.tables e below (s₁.setTop (entryFrame m #[(.int x0), (.int x1)] maxLocals)) t := fun t k => pre104 t (by
    show Steps p.tables e below (T101.setTop (mkF m 174 #[.val (.int x0), .val (.int x1), .val (.int v2), .val (.int v5), .val (.int v8), .val (.int v11), .val (.int v14), .val (.int v17), .val (.int v20), .val (.int v22), .val (.int r25), .val (.ref b28), .val (.int v57), .unset, .unset, .unset] [])) _
    refine XS.iload X101.here hx rfl (hb hby at_174) rfl ?_
    show Steps p.tables e below (T101.setTop (mkF m 176 #[.val (.int x0), .val (.int x1), .val (.int v2), .val (.int v5), .val (.int v8), .val (.int v11), .val (.int v14), .val (.int v17), .val (.int v20), .val (.int v22), .val (.int r25), .val (.ref b28), .val (.int v57), .unset, .unset, .unset] [(.int r25)])) _
    refine XS.iconst X101.here hx rfl (hb hby at_176) ?_
    show Steps p.tables e below (T101.setTop (mkF m 177 #[.val (.int x0), .val (.int x1), .val (.int v2), .val (.int v5), .val (.int v8), .val (.int v11), .val (.int v14), .val (.int v17), .val (.int v20), .val (.int v22), .val (.int r25), .val (.ref b28), .val (.int v57), .unset, .unset, .unset] [(.int (1 : Int32)), (.int r25)])) _
    exact k)
  obtain ⟨v117, hv117⟩ : ∃ z : Int32, z = (if r25 < (1 : Int32) then v102 else (v102 - (1 : Int32))) := ⟨_, rfl⟩
  obtain ⟨T116, L116, X116, N116, Zz116, f116_0, f116_1, f116_2, f116_3, pre118⟩ : ∃ (T116 : State) (L116 : List Loc), Stand p l e room_1 s m #[(.int x0), (.int x1)] below meth c T116 L116 4 25 ∧ Fr n0 L116 ∧ n0 ≤ T116.heap.size ∧ (Exa Z T116.heap b28 "com/example/lean_lifecycle/leanlifecycle/ActivityManager") ∧ (Fld Z T116.heap b28 "com/example/lean_lifecycle/leanlifecycle/ActivityManager" "inFront" "Z" (.int v58)) ∧ (Fld Z T116.heap b28 "com/example/lean_lifecycle/leanlifecycle/ActivityManager" "frontMovesPosted" "I" (.int v117)) ∧ (Fld Z T116.heap b28 "com/example/lean_lifecycle/leanlifecycle/ActivityManager" "inFrontAsPosted" "Z" (.int v103)) ∧ ∀ t, Steps p.tables e below (T116.setTop (mkF m 185 #[.val (.int x0), .val (.int x1), .val (.int v2), .val (.int v5), .val (.int v8), .val (.int v11), .val (.int v14), .val (.int v17), .val (.int v20), .val (.int v22), .val (.int r25), .val (.ref b28), .val (.int v57), .unset, .unset, .unset] [])) t → Steps p.tables e below (s₁.setTop (entryFrame m #[(.int x0), (.int x1)] maxLocals)) t := by
    by_cases hc106 : r25 < (1 : Int32)
    · skip
      have pre107 : ∀ t, Steps p.tables e below (T101.setTop (mkF m 185 #[.val (.int x0), .val (.int x1), .val (.int v2), .val (.int v5), .val (.int v8), .val (.int v11), .val (.int v14), .val (.int v17), .val (.int v20), .val (.int v22), .val (.int r25), .val (.ref b28), .val (.int v57), .unset, .unset, .unset] [])) t → Steps p.tables e below (s₁.setTop (entryFrame m #[(.int x0), (.int x1)] maxLocals)) t := fun t k => pre105 t (by
        show Steps p.tables e below (T101.setTop (mkF m 177 #[.val (.int x0), .val (.int x1), .val (.int v2), .val (.int v5), .val (.int v8), .val (.int v11), .val (.int v14), .val (.int v17), .val (.int v20), .val (.int v22), .val (.int r25), .val (.ref b28), .val (.int v57), .unset, .unset, .unset] [(.int (1 : Int32)), (.int r25)])) _
        refine XS.icmpYes X101.here hx rfl (pc0 := 177) (pc' := 185) rfl (hb hby at_177) rfl (tlt hc106).1 (by decide) (by decide) ?_
        show Steps p.tables e below (T101.setTop (mkF m 185 #[.val (.int x0), .val (.int x1), .val (.int v2), .val (.int v5), .val (.int v8), .val (.int v11), .val (.int v14), .val (.int v17), .val (.int v20), .val (.int v22), .val (.int r25), .val (.ref b28), .val (.int v57), .unset, .unset, .unset] [])) _
        exact k)
      rw [if_pos hc106] at hv117
      subst hv117
      exact ⟨_, _, X101, N101, Zz101, f101_0, f101_1, f101_2, f101_3, pre107⟩
    · skip
      have pre108 : ∀ t, Steps p.tables e below (T101.setTop (mkF m 182 #[.val (.int x0), .val (.int x1), .val (.int v2), .val (.int v5), .val (.int v8), .val (.int v11), .val (.int v14), .val (.int v17), .val (.int v20), .val (.int v22), .val (.int r25), .val (.ref b28), .val (.int v57), .unset, .unset, .unset] [(.ref b28)])) t → Steps p.tables e below (s₁.setTop (entryFrame m #[(.int x0), (.int x1)] maxLocals)) t := fun t k => pre105 t (by
        show Steps p.tables e below (T101.setTop (mkF m 177 #[.val (.int x0), .val (.int x1), .val (.int v2), .val (.int v5), .val (.int v8), .val (.int v11), .val (.int v14), .val (.int v17), .val (.int v20), .val (.int v22), .val (.int r25), .val (.ref b28), .val (.int v57), .unset, .unset, .unset] [(.int (1 : Int32)), (.int r25)])) _
        refine XS.icmpNo X101.here hx rfl (hb hby at_177) rfl (flt hc106).1 ?_
        show Steps p.tables e below (T101.setTop (mkF m 180 #[.val (.int x0), .val (.int x1), .val (.int v2), .val (.int v5), .val (.int v8), .val (.int v11), .val (.int v14), .val (.int v17), .val (.int v20), .val (.int v22), .val (.int r25), .val (.ref b28), .val (.int v57), .unset, .unset, .unset] [])) _
        refine XS.aload X101.here hx rfl (hb hby at_180) rfl rfl ?_
        show Steps p.tables e below (T101.setTop (mkF m 182 #[.val (.int x0), .val (.int x1), .val (.int v2), .val (.int v5), .val (.int v8), .val (.int v11), .val (.int v14), .val (.int v17), .val (.int v20), .val (.int v22), .val (.int r25), .val (.ref b28), .val (.int v57), .unset, .unset, .unset] [(.ref b28)])) _
        exact k)
      obtain ⟨cq110, kq110, q110a, q110b, q110c⟩ := isOf hZ rfl f101_0
      obtain ⟨_, _, ⟨T110, L110, k110, n110⟩, -, X110, ⟨Lc110, hQ110, l110, y110, z110⟩, st110⟩ := X101.virtualBack hx (y := (⟨"com/example/lean_lifecycle/leanlifecycle/ActivityManager", "endFrontMove", "()V"⟩ : MethodName)) (z := (⟨"com/example/lean_lifecycle/leanlifecycle/ActivityManager", "endFrontMove", "()V"⟩ : MethodName)) hown (mvT hZ (hw _ (List.mem_of_getElem? (i := 85) rfl))) (mvT hZ (hw _ (List.mem_of_getElem? (i := 86) rfl))) (notFace_of_selects (args := #[]) (mvT hZ (hw _ (List.mem_of_getElem? (i := 88) rfl)))) (mvT hZ (hw _ (List.mem_of_getElem? (i := 88) rfl))) (mvT hZ (hw _ (List.mem_of_getElem? (i := 87) rfl))) (by decide) (backOf (W := 0) (rm13 l Z a0 hw [] b28 v58 v102 v103  T101.heap n0 Zz101 f101_0 f101_1 f101_2 f101_3 g_b28) hZ (hw _ (List.mem_of_getElem? (i := 89) rfl)) (hw _ (List.mem_of_getElem? (i := 6) rfl)) (by decide) (by decide)) q110a q110c (g := (mkF m 182 #[.val (.int x0), .val (.int x1), .val (.int v2), .val (.int v5), .val (.int v8), .val (.int v11), .val (.int v14), .val (.int v17), .val (.int v20), .val (.int v22), .val (.int r25), .val (.ref b28), .val (.int v57), .unset, .unset, .unset] [(.ref b28)])) rfl (by rw [hml]; rfl) (Steps.refl _) (argsL := []) (rest := []) (lenOf pd_0 rfl) rfl (by show 2 * 0 + _ ≤ _; exact Nat.le_of_eq rfl) (hb hby at_182) (fun _ _ => ⟨rfl, rfl, (by decide : 4 + 0 ≤ _), (by decide : 25 + 0 ≤ _)⟩)
      dsimp only [Pt.U, Pt.locs, Pt.cells, Pt.slots] at X110 l110 y110 z110 st110 hQ110
      subst l110 y110 z110
      obtain ⟨rfl, N110q, K110, Ec110, Fc110_inFront, Fc110_frontMovesPosted, Fc110_inFrontAsPosted⟩ := hQ110
      have N110 := Fr.app N101 N110q
      have pre111 : ∀ t, Steps p.tables e below (T110.setTop (mkF m 185 #[.val (.int x0), .val (.int x1), .val (.int v2), .val (.int v5), .val (.int v8), .val (.int v11), .val (.int v14), .val (.int v17), .val (.int v20), .val (.int v22), .val (.int r25), .val (.ref b28), .val (.int v57), .unset, .unset, .unset] [])) t → Steps p.tables e below (s₁.setTop (entryFrame m #[(.int x0), (.int x1)] maxLocals)) t := fun t k => pre108 t (st110.trans k)
      have Zz110 : n0 ≤ T110.heap.size := Nat.le_trans Zz101 K110.1
      have c112 := (f101_0).keep K110
      rw [if_neg hc106] at hv117
      subst hv117
      exact ⟨_, _, X110, N110, Zz110, Ec110, Fc110_inFront, Fc110_frontMovesPosted, Fc110_inFrontAsPosted, pre111⟩
  have pre119 : ∀ t, Steps p.tables e below (T116.setTop (mkF m 188 #[.val (.int x0), .val (.int x1), .val (.int v2), .val (.int v5), .val (.int v8), .val (.int v11), .val (.int v14), .val (.int v17), .val (.int v20), .val (.int v22), .val (.int r25), .val (.ref b28), .val (.int v57), .unset, .unset, .unset] [(.int (2 : Int32)), (.int r25)])) t → Steps p.tables e below (s₁.setTop (entryFrame m #[(.int x0), (.int x1)] maxLocals)) t := fun t k => pre118 t (by
    show Steps p.tables e below (T116.setTop (mkF m 185 #[.val (.int x0), .val (.int x1), .val (.int v2), .val (.int v5), .val (.int v8), .val (.int v11), .val (.int v14), .val (.int v17), .val (.int v20), .val (.int v22), .val (.int r25), .val (.ref b28), .val (.int v57), .unset, .unset, .unset] [])) _
    refine XS.iload X116.here hx rfl (hb hby at_185) rfl ?_
    show Steps p.tables e below (T116.setTop (mkF m 187 #[.val (.int x0), .val (.int x1), .val (.int v2), .val (.int v5), .val (.int v8), .val (.int v11), .val (.int v14), .val (.int v17), .val (.int v20), .val (.int v22), .val (.int r25), .val (.ref b28), .val (.int v57), .unset, .unset, .unset] [(.int r25)])) _
    refine XS.iconst X116.here hx rfl (hb hby at_187) ?_
    show Steps p.tables e below (T116.setTop (mkF m 188 #[.val (.int x0), .val (.int x1), .val (.int v2), .val (.int v5), .val (.int v8), .val (.int v11), .val (.int v14), .val (.int v17), .val (.int v20), .val (.int v22), .val (.int r25), .val (.ref b28), .val (.int v57), .unset, .unset, .unset] [(.int (2 : Int32)), (.int r25)])) _
    exact k)
  obtain ⟨v131, hv131⟩ : ∃ z : Int32, z = (if r25 < (2 : Int32) then v117 else (v117 - (1 : Int32))) := ⟨_, rfl⟩
  obtain ⟨T130, L130, X130, N130, Zz130, f130_0, f130_1, f130_2, f130_3, pre132⟩ : ∃ (T130 : State) (L130 : List Loc), Stand p l e room_1 s m #[(.int x0), (.int x1)] below meth c T130 L130 4 25 ∧ Fr n0 L130 ∧ n0 ≤ T130.heap.size ∧ (Exa Z T130.heap b28 "com/example/lean_lifecycle/leanlifecycle/ActivityManager") ∧ (Fld Z T130.heap b28 "com/example/lean_lifecycle/leanlifecycle/ActivityManager" "inFront" "Z" (.int v58)) ∧ (Fld Z T130.heap b28 "com/example/lean_lifecycle/leanlifecycle/ActivityManager" "frontMovesPosted" "I" (.int v131)) ∧ (Fld Z T130.heap b28 "com/example/lean_lifecycle/leanlifecycle/ActivityManager" "inFrontAsPosted" "Z" (.int v103)) ∧ ∀ t, Steps p.tables e below (T130.setTop (mkF m 196 #[.val (.int x0), .val (.int x1), .val (.int v2), .val (.int v5), .val (.int v8), .val (.int v11), .val (.int v14), .val (.int v17), .val (.int v20), .val (.int v22), .val (.int r25), .val (.ref b28), .val (.int v57), .unset, .unset, .unset] [])) t → Steps p.tables e below (s₁.setTop (entryFrame m #[(.int x0), (.int x1)] maxLocals)) t := by
    by_cases hc120 : r25 < (2 : Int32)
    · skip
      have pre121 : ∀ t, Steps p.tables e below (T116.setTop (mkF m 196 #[.val (.int x0), .val (.int x1), .val (.int v2), .val (.int v5), .val (.int v8), .val (.int v11), .val (.int v14), .val (.int v17), .val (.int v20), .val (.int v22), .val (.int r25), .val (.ref b28), .val (.int v57), .unset, .unset, .unset] [])) t → Steps p.tables e below (s₁.setTop (entryFrame m #[(.int x0), (.int x1)] maxLocals)) t := fun t k => pre119 t (by
        show Steps p.tables e below (T116.setTop (mkF m 188 #[.val (.int x0), .val (.int x1), .val (.int v2), .val (.int v5), .val (.int v8), .val (.int v11), .val (.int v14), .val (.int v17), .val (.int v20), .val (.int v22), .val (.int r25), .val (.ref b28), .val (.int v57), .unset, .unset, .unset] [(.int (2 : Int32)), (.int r25)])) _
        refine XS.icmpYes X116.here hx rfl (pc0 := 188) (pc' := 196) rfl (hb hby at_188) rfl (tlt hc120).1 (by decide) (by decide) ?_
        show Steps p.tables e below (T116.setTop (mkF m 196 #[.val (.int x0), .val (.int x1), .val (.int v2), .val (.int v5), .val (.int v8), .val (.int v11), .val (.int v14), .val (.int v17), .val (.int v20), .val (.int v22), .val (.int r25), .val (.ref b28), .val (.int v57), .unset, .unset, .unset] [])) _
        exact k)
      rw [if_pos hc120] at hv131
      subst hv131
      exact ⟨_, _, X116, N116, Zz116, f116_0, f116_1, f116_2, f116_3, pre121⟩
    · skip
      have pre122 : ∀ t, Steps p.tables e below (T116.setTop (mkF m 193 #[.val (.int x0), .val (.int x1), .val (.int v2), .val (.int v5), .val (.int v8), .val (.int v11), .val (.int v14), .val (.int v17), .val (.int v20), .val (.int v22), .val (.int r25), .val (.ref b28), .val (.int v57), .unset, .unset, .unset] [(.ref b28)])) t → Steps p.tables e below (s₁.setTop (entryFrame m #[(.int x0), (.int x1)] maxLocals)) t := fun t k => pre119 t (by
        show Steps p.tables e below (T116.setTop (mkF m 188 #[.val (.int x0), .val (.int x1), .val (.int v2), .val (.int v5), .val (.int v8), .val (.int v11), .val (.int v14), .val (.int v17), .val (.int v20), .val (.int v22), .val (.int r25), .val (.ref b28), .val (.int v57), .unset, .unset, .unset] [(.int (2 : Int32)), (.int r25)])) _
        refine XS.icmpNo X116.here hx rfl (hb hby at_188) rfl (flt hc120).1 ?_
        show Steps p.tables e below (T116.setTop (mkF m 191 #[.val (.int x0), .val (.int x1), .val (.int v2), .val (.int v5), .val (.int v8), .val (.int v11), .val (.int v14), .val (.int v17), .val (.int v20), .val (.int v22), .val (.int r25), .val (.ref b28), .val (.int v57), .unset, .unset, .unset] [])) _
        refine XS.aload X116.here hx rfl (hb hby at_191) rfl rfl ?_
        show Steps p.tables e below (T116.setTop (mkF m 193 #[.val (.int x0), .val (.int x1), .val (.int v2), .val (.int v5), .val (.int v8), .val (.int v11), .val (.int v14), .val (.int v17), .val (.int v20), .val (.int v22), .val (.int r25), .val (.ref b28), .val (.int v57), .unset, .unset, .unset] [(.ref b28)])) _
        exact k)
      obtain ⟨cq124, kq124, q124a, q124b, q124c⟩ := isOf hZ rfl f116_0
      obtain ⟨_, _, ⟨T124, L124, k124, n124⟩, -, X124, ⟨Lc124, hQ124, l124, y124, z124⟩, st124⟩ := X116.virtualBack hx (y := (⟨"com/example/lean_lifecycle/leanlifecycle/ActivityManager", "endFrontMove", "()V"⟩ : MethodName)) (z := (⟨"com/example/lean_lifecycle/leanlifecycle/ActivityManager", "endFrontMove", "()V"⟩ : MethodName)) hown (mvT hZ (hw _ (List.mem_of_getElem? (i := 85) rfl))) (mvT hZ (hw _ (List.mem_of_getElem? (i := 86) rfl))) (notFace_of_selects (args := #[]) (mvT hZ (hw _ (List.mem_of_getElem? (i := 88) rfl)))) (mvT hZ (hw _ (List.mem_of_getElem? (i := 88) rfl))) (mvT hZ (hw _ (List.mem_of_getElem? (i := 87) rfl))) (by decide) (backOf (W := 0) (rm13 l Z a0 hw [] b28 v58 v117 v103  T116.heap n0 Zz116 f116_0 f116_1 f116_2 f116_3 g_b28) hZ (hw _ (List.mem_of_getElem? (i := 89) rfl)) (hw _ (List.mem_of_getElem? (i := 6) rfl)) (by decide) (by decide)) q124a q124c (g := (mkF m 193 #[.val (.int x0), .val (.int x1), .val (.int v2), .val (.int v5), .val (.int v8), .val (.int v11), .val (.int v14), .val (.int v17), .val (.int v20), .val (.int v22), .val (.int r25), .val (.ref b28), .val (.int v57), .unset, .unset, .unset] [(.ref b28)])) rfl (by rw [hml]; rfl) (Steps.refl _) (argsL := []) (rest := []) (lenOf pd_0 rfl) rfl (by show 2 * 0 + _ ≤ _; exact Nat.le_of_eq rfl) (hb hby at_193) (fun _ _ => ⟨rfl, rfl, (by decide : 4 + 0 ≤ _), (by decide : 25 + 0 ≤ _)⟩)
      dsimp only [Pt.U, Pt.locs, Pt.cells, Pt.slots] at X124 l124 y124 z124 st124 hQ124
      subst l124 y124 z124
      obtain ⟨rfl, N124q, K124, Ec124, Fc124_inFront, Fc124_frontMovesPosted, Fc124_inFrontAsPosted⟩ := hQ124
      have N124 := Fr.app N116 N124q
      have pre125 : ∀ t, Steps p.tables e below (T124.setTop (mkF m 196 #[.val (.int x0), .val (.int x1), .val (.int v2), .val (.int v5), .val (.int v8), .val (.int v11), .val (.int v14), .val (.int v17), .val (.int v20), .val (.int v22), .val (.int r25), .val (.ref b28), .val (.int v57), .unset, .unset, .unset] [])) t → Steps p.tables e below (s₁.setTop (entryFrame m #[(.int x0), (.int x1)] maxLocals)) t := fun t k => pre122 t (st124.trans k)
      have Zz124 : n0 ≤ T124.heap.size := Nat.le_trans Zz116 K124.1
      have c126 := (f116_0).keep K124
      rw [if_neg hc120] at hv131
      subst hv131
      exact ⟨_, _, X124, N124, Zz124, Ec124, Fc124_inFront, Fc124_frontMovesPosted, Fc124_inFrontAsPosted, pre125⟩
  have pre133 : ∀ t, Steps p.tables e below (T130.setTop (mkF m 199 #[.val (.int x0), .val (.int x1), .val (.int v2), .val (.int v5), .val (.int v8), .val (.int v11), .val (.int v14), .val (.int v17), .val (.int v20), .val (.int v22), .val (.int r25), .val (.ref b28), .val (.int v57), .unset, .unset, .unset] [(.int (3 : Int32)), (.int r25)])) t → Steps p.tables e below (s₁.setTop (entryFrame m #[(.int x0), (.int x1)] maxLocals)) t := fun t k => pre132 t (by
    show Steps p.tables e below (T130.setTop (mkF m 196 #[.val (.int x0), .val (.int x1), .val (.int v2), .val (.int v5), .val (.int v8), .val (.int v11), .val (.int v14), .val (.int v17), .val (.int v20), .val (.int v22), .val (.int r25), .val (.ref b28), .val (.int v57), .unset, .unset, .unset] [])) _
    refine XS.iload X130.here hx rfl (hb hby at_196) rfl ?_
    show Steps p.tables e below (T130.setTop (mkF m 198 #[.val (.int x0), .val (.int x1), .val (.int v2), .val (.int v5), .val (.int v8), .val (.int v11), .val (.int v14), .val (.int v17), .val (.int v20), .val (.int v22), .val (.int r25), .val (.ref b28), .val (.int v57), .unset, .unset, .unset] [(.int r25)])) _
    refine XS.iconst X130.here hx rfl (hb hby at_198) ?_
    show Steps p.tables e below (T130.setTop (mkF m 199 #[.val (.int x0), .val (.int x1), .val (.int v2), .val (.int v5), .val (.int v8), .val (.int v11), .val (.int v14), .val (.int v17), .val (.int v20), .val (.int v22), .val (.int r25), .val (.ref b28), .val (.int v57), .unset, .unset, .unset] [(.int (3 : Int32)), (.int r25)])) _
    exact k)
  obtain ⟨v145, hv145⟩ : ∃ z : Int32, z = (if r25 < (3 : Int32) then v131 else (v131 - (1 : Int32))) := ⟨_, rfl⟩
  obtain ⟨T144, L144, X144, N144, Zz144, f144_0, f144_1, f144_2, f144_3, pre146⟩ : ∃ (T144 : State) (L144 : List Loc), Stand p l e room_1 s m #[(.int x0), (.int x1)] below meth c T144 L144 4 25 ∧ Fr n0 L144 ∧ n0 ≤ T144.heap.size ∧ (Exa Z T144.heap b28 "com/example/lean_lifecycle/leanlifecycle/ActivityManager") ∧ (Fld Z T144.heap b28 "com/example/lean_lifecycle/leanlifecycle/ActivityManager" "inFront" "Z" (.int v58)) ∧ (Fld Z T144.heap b28 "com/example/lean_lifecycle/leanlifecycle/ActivityManager" "frontMovesPosted" "I" (.int v145)) ∧ (Fld Z T144.heap b28 "com/example/lean_lifecycle/leanlifecycle/ActivityManager" "inFrontAsPosted" "Z" (.int v103)) ∧ ∀ t, Steps p.tables e below (T144.setTop (mkF m 207 #[.val (.int x0), .val (.int x1), .val (.int v2), .val (.int v5), .val (.int v8), .val (.int v11), .val (.int v14), .val (.int v17), .val (.int v20), .val (.int v22), .val (.int r25), .val (.ref b28), .val (.int v57), .unset, .unset, .unset] [])) t → Steps p.tables e below (s₁.setTop (entryFrame m #[(.int x0), (.int x1)] maxLocals)) t := by
    by_cases hc134 : r25 < (3 : Int32)
    · skip
      have pre135 : ∀ t, Steps p.tables e below (T130.setTop (mkF m 207 #[.val (.int x0), .val (.int x1), .val (.int v2), .val (.int v5), .val (.int v8), .val (.int v11), .val (.int v14), .val (.int v17), .val (.int v20), .val (.int v22), .val (.int r25), .val (.ref b28), .val (.int v57), .unset, .unset, .unset] [])) t → Steps p.tables e below (s₁.setTop (entryFrame m #[(.int x0), (.int x1)] maxLocals)) t := fun t k => pre133 t (by
        show Steps p.tables e below (T130.setTop (mkF m 199 #[.val (.int x0), .val (.int x1), .val (.int v2), .val (.int v5), .val (.int v8), .val (.int v11), .val (.int v14), .val (.int v17), .val (.int v20), .val (.int v22), .val (.int r25), .val (.ref b28), .val (.int v57), .unset, .unset, .unset] [(.int (3 : Int32)), (.int r25)])) _
        refine XS.icmpYes X130.here hx rfl (pc0 := 199) (pc' := 207) rfl (hb hby at_199) rfl (tlt hc134).1 (by decide) (by decide) ?_
        show Steps p.tables e below (T130.setTop (mkF m 207 #[.val (.int x0), .val (.int x1), .val (.int v2), .val (.int v5), .val (.int v8), .val (.int v11), .val (.int v14), .val (.int v17), .val (.int v20), .val (.int v22), .val (.int r25), .val (.ref b28), .val (.int v57), .unset, .unset, .unset] [])) _
        exact k)
      rw [if_pos hc134] at hv145
      subst hv145
      exact ⟨_, _, X130, N130, Zz130, f130_0, f130_1, f130_2, f130_3, pre135⟩
    · skip
      have pre136 : ∀ t, Steps p.tables e below (T130.setTop (mkF m 204 #[.val (.int x0), .val (.int x1), .val (.int v2), .val (.int v5), .val (.int v8), .val (.int v11), .val (.int v14), .val (.int v17), .val (.int v20), .val (.int v22), .val (.int r25), .val (.ref b28), .val (.int v57), .unset, .unset, .unset] [(.ref b28)])) t → Steps p.tables e below (s₁.setTop (entryFrame m #[(.int x0), (.int x1)] maxLocals)) t := fun t k => pre133 t (by
        show Steps p.tables e below (T130.setTop (mkF m 199 #[.val (.int x0), .val (.int x1), .val (.int v2), .val (.int v5), .val (.int v8), .val (.int v11), .val (.int v14), .val (.int v17), .val (.int v20), .val (.int v22), .val (.int r25), .val (.ref b28), .val (.int v57), .unset, .unset, .unset] [(.int (3 : Int32)), (.int r25)])) _
        refine XS.icmpNo X130.here hx rfl (hb hby at_199) rfl (flt hc134).1 ?_
        show Steps p.tables e below (T130.setTop (mkF m 202 #[.val (.int x0), .val (.int x1), .val (.int v2), .val (.int v5), .val (.int v8), .val (.int v11), .val (.int v14), .val (.int v17), .val (.int v20), .val (.int v22), .val (.int r25), .val (.ref b28), .val (.int v57), .unset, .unset, .unset] [])) _
        refine XS.aload X130.here hx rfl (hb hby at_202) rfl rfl ?_
        show Steps p.tables e below (T130.setTop (mkF m 204 #[.val (.int x0), .val (.int x1), .val (.int v2), .val (.int v5), .val (.int v8), .val (.int v11), .val (.int v14), .val (.int v17), .val (.int v20), .val (.int v22), .val (.int r25), .val (.ref b28), .val (.int v57), .unset, .unset, .unset] [(.ref b28)])) _
        exact k)
      obtain ⟨cq138, kq138, q138a, q138b, q138c⟩ := isOf hZ rfl f130_0
      obtain ⟨_, _, ⟨T138, L138, k138, n138⟩, -, X138, ⟨Lc138, hQ138, l138, y138, z138⟩, st138⟩ := X130.virtualBack hx (y := (⟨"com/example/lean_lifecycle/leanlifecycle/ActivityManager", "endFrontMove", "()V"⟩ : MethodName)) (z := (⟨"com/example/lean_lifecycle/leanlifecycle/ActivityManager", "endFrontMove", "()V"⟩ : MethodName)) hown (mvT hZ (hw _ (List.mem_of_getElem? (i := 85) rfl))) (mvT hZ (hw _ (List.mem_of_getElem? (i := 86) rfl))) (notFace_of_selects (args := #[]) (mvT hZ (hw _ (List.mem_of_getElem? (i := 88) rfl)))) (mvT hZ (hw _ (List.mem_of_getElem? (i := 88) rfl))) (mvT hZ (hw _ (List.mem_of_getElem? (i := 87) rfl))) (by decide) (backOf (W := 0) (rm13 l Z a0 hw [] b28 v58 v131 v103  T130.heap n0 Zz130 f130_0 f130_1 f130_2 f130_3 g_b28) hZ (hw _ (List.mem_of_getElem? (i := 89) rfl)) (hw _ (List.mem_of_getElem? (i := 6) rfl)) (by decide) (by decide)) q138a q138c (g := (mkF m 204 #[.val (.int x0), .val (.int x1), .val (.int v2), .val (.int v5), .val (.int v8), .val (.int v11), .val (.int v14), .val (.int v17), .val (.int v20), .val (.int v22), .val (.int r25), .val (.ref b28), .val (.int v57), .unset, .unset, .unset] [(.ref b28)])) rfl (by rw [hml]; rfl) (Steps.refl _) (argsL := []) (rest := []) (lenOf pd_0 rfl) rfl (by show 2 * 0 + _ ≤ _; exact Nat.le_of_eq rfl) (hb hby at_204) (fun _ _ => ⟨rfl, rfl, (by decide : 4 + 0 ≤ _), (by decide : 25 + 0 ≤ _)⟩)
      dsimp only [Pt.U, Pt.locs, Pt.cells, Pt.slots] at X138 l138 y138 z138 st138 hQ138
      subst l138 y138 z138
      obtain ⟨rfl, N138q, K138, Ec138, Fc138_inFront, Fc138_frontMovesPosted, Fc138_inFrontAsPosted⟩ := hQ138
      have N138 := Fr.app N130 N138q
      have pre139 : ∀ t, Steps p.tables e below (T138.setTop (mkF m 207 #[.val (.int x0), .val (.int x1), .val (.int v2), .val (.int v5), .val (.int v8), .val (.int v11), .val (.int v14), .val (.int v17), .val (.int v20), .val (.int v22), .val (.int r25), .val (.ref b28), .val (.int v57), .unset, .unset, .unset] [])) t → Steps p.tables e below (s₁.setTop (entryFrame m #[(.int x0), (.int x1)] maxLocals)) t := fun t k => pre136 t (st138.trans k)
      have Zz138 : n0 ≤ T138.heap.size := Nat.le_trans Zz130 K138.1
      have c140 := (f130_0).keep K138
      rw [if_neg hc134] at hv145
      subst hv145
      exact ⟨_, _, X138, N138, Zz138, Ec138, Fc138_inFront, Fc138_frontMovesPosted, Fc138_inFrontAsPosted, pre139⟩
  have pre147 : ∀ t, Steps p.tables e below (T144.setTop (mkF m 209 #[.val (.int x0), .val (.int x1), .val (.int v2), .val (.int v5), .val (.int v8), .val (.int v11), .val (.int v14), .val (.int v17), .val (.int v20), .val (.int v22), .val (.int r25), .val (.ref b28), .val (.int v57), .unset, .unset, .unset] [(.int v17)])) t → Steps p.tables e below (s₁.setTop (entryFrame m #[(.int x0), (.int x1)] maxLocals)) t := fun t k => pre146 t (by
    show Steps p.tables e below (T144.setTop (mkF m 207 #[.val (.int x0), .val (.int x1), .val (.int v2), .val (.int v5), .val (.int v8), .val (.int v11), .val (.int v14), .val (.int v17), .val (.int v20), .val (.int v22), .val (.int r25), .val (.ref b28), .val (.int v57), .unset, .unset, .unset] [])) _
    refine XS.iload X144.here hx rfl (hb hby at_207) rfl ?_
    show Steps p.tables e below (T144.setTop (mkF m 209 #[.val (.int x0), .val (.int x1), .val (.int v2), .val (.int v5), .val (.int v8), .val (.int v11), .val (.int v14), .val (.int v17), .val (.int v20), .val (.int v22), .val (.int r25), .val (.ref b28), .val (.int v57), .unset, .unset, .unset] [(.int v17)])) _
    exact k)
  obtain ⟨v160, hv160⟩ : ∃ z : Int32, z = (if v17 = (0 : Int32) then v57 else v20) := ⟨_, rfl⟩
  obtain ⟨v161, hv161⟩ : ∃ z : Int32, z = (if v17 = (0 : Int32) then v58 else (nar .boolean v20)) := ⟨_, rfl⟩
  obtain ⟨T159, L159, X159, N159, Zz159, f159_0, f159_1, f159_2, f159_3, pre162⟩ : ∃ (T159 : State) (L159 : List Loc), Stand p l e room_1 s m #[(.int x0), (.int x1)] below meth c T159 L159 4 25 ∧ Fr n0 L159 ∧ n0 ≤ T159.heap.size ∧ (Exa Z T159.heap b28 "com/example/lean_lifecycle/leanlifecycle/ActivityManager") ∧ (Fld Z T159.heap b28 "com/example/lean_lifecycle/leanlifecycle/ActivityManager" "inFront" "Z" (.int v161)) ∧ (Fld Z T159.heap b28 "com/example/lean_lifecycle/leanlifecycle/ActivityManager" "frontMovesPosted" "I" (.int v145)) ∧ (Fld Z T159.heap b28 "com/example/lean_lifecycle/leanlifecycle/ActivityManager" "inFrontAsPosted" "Z" (.int v103)) ∧ ∀ t, Steps p.tables e below (T159.setTop (mkF m 223 #[.val (.int x0), .val (.int x1), .val (.int v2), .val (.int v5), .val (.int v8), .val (.int v11), .val (.int v14), .val (.int v17), .val (.int v20), .val (.int v22), .val (.int r25), .val (.ref b28), .val (.int v160), .unset, .unset, .unset] [])) t → Steps p.tables e below (s₁.setTop (entryFrame m #[(.int x0), (.int x1)] maxLocals)) t := by
    by_cases hc148 : v17 = (0 : Int32)
    · skip
      have pre149 : ∀ t, Steps p.tables e below (T144.setTop (mkF m 223 #[.val (.int x0), .val (.int x1), .val (.int v2), .val (.int v5), .val (.int v8), .val (.int v11), .val (.int v14), .val (.int v17), .val (.int v20), .val (.int v22), .val (.int r25), .val (.ref b28), .val (.int v57), .unset, .unset, .unset] [])) t → Steps p.tables e below (s₁.setTop (entryFrame m #[(.int x0), (.int x1)] maxLocals)) t := fun t k => pre147 t (by
        show Steps p.tables e below (T144.setTop (mkF m 209 #[.val (.int x0), .val (.int x1), .val (.int v2), .val (.int v5), .val (.int v8), .val (.int v11), .val (.int v14), .val (.int v17), .val (.int v20), .val (.int v22), .val (.int r25), .val (.ref b28), .val (.int v57), .unset, .unset, .unset] [(.int v17)])) _
        refine XS.ifYes X144.here hx rfl (pc0 := 209) (pc' := 223) rfl (hb hby at_209) rfl ((if0 _ _).trans (teq hc148).1) (by decide) (by decide) ?_
        show Steps p.tables e below (T144.setTop (mkF m 223 #[.val (.int x0), .val (.int x1), .val (.int v2), .val (.int v5), .val (.int v8), .val (.int v11), .val (.int v14), .val (.int v17), .val (.int v20), .val (.int v22), .val (.int r25), .val (.ref b28), .val (.int v57), .unset, .unset, .unset] [])) _
        exact k)
      rw [if_pos hc148] at hv160
      rw [if_pos hc148] at hv161
      subst hv160 hv161
      exact ⟨_, _, X144, N144, Zz144, f144_0, f144_1, f144_2, f144_3, pre149⟩
    · skip
      have pre150 : ∀ t, Steps p.tables e below (T144.setTop (mkF m 216 #[.val (.int x0), .val (.int x1), .val (.int v2), .val (.int v5), .val (.int v8), .val (.int v11), .val (.int v14), .val (.int v17), .val (.int v20), .val (.int v22), .val (.int r25), .val (.ref b28), .val (.int v57), .unset, .unset, .unset] [(.int v20), (.ref b28)])) t → Steps p.tables e below (s₁.setTop (entryFrame m #[(.int x0), (.int x1)] maxLocals)) t := fun t k => pre147 t (by
        show Steps p.tables e below (T144.setTop (mkF m 209 #[.val (.int x0), .val (.int x1), .val (.int v2), .val (.int v5), .val (.int v8), .val (.int v11), .val (.int v14), .val (.int v17), .val (.int v20), .val (.int v22), .val (.int r25), .val (.ref b28), .val (.int v57), .unset, .unset, .unset] [(.int v17)])) _
        refine XS.ifNo X144.here hx rfl (hb hby at_209) rfl ((if0 _ _).trans (feq hc148).1) ?_
        show Steps p.tables e below (T144.setTop (mkF m 212 #[.val (.int x0), .val (.int x1), .val (.int v2), .val (.int v5), .val (.int v8), .val (.int v11), .val (.int v14), .val (.int v17), .val (.int v20), .val (.int v22), .val (.int r25), .val (.ref b28), .val (.int v57), .unset, .unset, .unset] [])) _
        refine XS.aload X144.here hx rfl (hb hby at_212) rfl rfl ?_
        show Steps p.tables e below (T144.setTop (mkF m 214 #[.val (.int x0), .val (.int x1), .val (.int v2), .val (.int v5), .val (.int v8), .val (.int v11), .val (.int v14), .val (.int v17), .val (.int v20), .val (.int v22), .val (.int r25), .val (.ref b28), .val (.int v57), .unset, .unset, .unset] [(.ref b28)])) _
        refine XS.iload X144.here hx rfl (hb hby at_214) rfl ?_
        show Steps p.tables e below (T144.setTop (mkF m 216 #[.val (.int x0), .val (.int x1), .val (.int v2), .val (.int v5), .val (.int v8), .val (.int v11), .val (.int v14), .val (.int v17), .val (.int v20), .val (.int v22), .val (.int r25), .val (.ref b28), .val (.int v57), .unset, .unset, .unset] [(.int v20), (.ref b28)])) _
        exact k)
      obtain ⟨cq152, kq152, q152a, q152b, q152c⟩ := isOf hZ rfl f144_0
      obtain ⟨_, _, ⟨T152, L152, k152, n152⟩, -, X152, ⟨Lc152, hQ152, l152, y152, z152⟩, st152⟩ := X144.virtualBack hx (y := (⟨"com/example/lean_lifecycle/leanlifecycle/ActivityManager", "setInFront", "(Z)V"⟩ : MethodName)) (z := (⟨"com/example/lean_lifecycle/leanlifecycle/ActivityManager", "setInFront", "(Z)V"⟩ : MethodName)) hown (mvT hZ (hw _ (List.mem_of_getElem? (i := 80) rfl))) (mvT hZ (hw _ (List.mem_of_getElem? (i := 81) rfl))) (notFace_of_selects (args := #[]) (mvT hZ (hw _ (List.mem_of_getElem? (i := 83) rfl)))) (mvT hZ (hw _ (List.mem_of_getElem? (i := 83) rfl))) (mvT hZ (hw _ (List.mem_of_getElem? (i := 82) rfl))) (by decide) (backOf (W := 0) (rm12 l Z a0 hw [] b28 v20 v58 v145 v103  T144.heap n0 Zz144 f144_0 f144_1 f144_2 f144_3 g_b28) hZ (hw _ (List.mem_of_getElem? (i := 84) rfl)) (hw _ (List.mem_of_getElem? (i := 6) rfl)) (by decide) (by decide)) q152a q152c (g := (mkF m 216 #[.val (.int x0), .val (.int x1), .val (.int v2), .val (.int v5), .val (.int v8), .val (.int v11), .val (.int v14), .val (.int v17), .val (.int v20), .val (.int v22), .val (.int r25), .val (.ref b28), .val (.int v57), .unset, .unset, .unset] [(.int v20), (.ref b28)])) rfl (by rw [hml]; rfl) (Steps.refl _) (argsL := [(.int v20)]) (rest := []) (lenOf pd_2 rfl) rfl (by show 2 * 0 + _ ≤ _; exact Nat.le_of_eq rfl) (hb hby at_216) (fun _ _ => ⟨rfl, rfl, (by decide : 4 + 0 ≤ _), (by decide : 25 + 0 ≤ _)⟩)
      dsimp only [Pt.U, Pt.locs, Pt.cells, Pt.slots] at X152 l152 y152 z152 st152 hQ152
      subst l152 y152 z152
      obtain ⟨rfl, N152q, K152, Ec152, Fc152_inFront, Fc152_frontMovesPosted, Fc152_inFrontAsPosted⟩ := hQ152
      have N152 := Fr.app N144 N152q
      have pre153 : ∀ t, Steps p.tables e below (T152.setTop (mkF m 219 #[.val (.int x0), .val (.int x1), .val (.int v2), .val (.int v5), .val (.int v8), .val (.int v11), .val (.int v14), .val (.int v17), .val (.int v20), .val (.int v22), .val (.int r25), .val (.ref b28), .val (.int v57), .unset, .unset, .unset] [])) t → Steps p.tables e below (s₁.setTop (entryFrame m #[(.int x0), (.int x1)] maxLocals)) t := fun t k => pre150 t (st152.trans k)
      have Zz152 : n0 ≤ T152.heap.size := Nat.le_trans Zz144 K152.1
      have c154 := (f144_0).keep K152
      have pre158 : ∀ t, Steps p.tables e below (T152.setTop (mkF m 223 #[.val (.int x0), .val (.int x1), .val (.int v2), .val (.int v5), .val (.int v8), .val (.int v11), .val (.int v14), .val (.int v17), .val (.int v20), .val (.int v22), .val (.int r25), .val (.ref b28), .val (.int v20), .unset, .unset, .unset] [])) t → Steps p.tables e below (s₁.setTop (entryFrame m #[(.int x0), (.int x1)] maxLocals)) t := fun t k => pre153 t (by
        show Steps p.tables e below (T152.setTop (mkF m 219 #[.val (.int x0), .val (.int x1), .val (.int v2), .val (.int v5), .val (.int v8), .val (.int v11), .val (.int v14), .val (.int v17), .val (.int v20), .val (.int v22), .val (.int r25), .val (.ref b28), .val (.int v57), .unset, .unset, .unset] [])) _
        refine XS.iload X152.here hx rfl (hb hby at_219) rfl ?_
        show Steps p.tables e below (T152.setTop (mkF m 221 #[.val (.int x0), .val (.int x1), .val (.int v2), .val (.int v5), .val (.int v8), .val (.int v11), .val (.int v14), .val (.int v17), .val (.int v20), .val (.int v22), .val (.int r25), .val (.ref b28), .val (.int v57), .unset, .unset, .unset] [(.int v20)])) _
        refine XS.istore X152.here hx rfl (hb hby at_221) rfl (l' := #[.val (.int x0), .val (.int x1), .val (.int v2), .val (.int v5), .val (.int v8), .val (.int v11), .val (.int v14), .val (.int v17), .val (.int v20), .val (.int v22), .val (.int r25), .val (.ref b28), .val (.int v20), .unset, .unset, .unset]) rfl ?_
        show Steps p.tables e below (T152.setTop (mkF m 223 #[.val (.int x0), .val (.int x1), .val (.int v2), .val (.int v5), .val (.int v8), .val (.int v11), .val (.int v14), .val (.int v17), .val (.int v20), .val (.int v22), .val (.int r25), .val (.ref b28), .val (.int v20), .unset, .unset, .unset] [])) _
        exact k)
      rw [if_neg hc148] at hv160
      rw [if_neg hc148] at hv161
      subst hv160 hv161
      exact ⟨_, _, X152, N152, Zz152, Ec152, Fc152_inFront, Fc152_frontMovesPosted, Fc152_inFrontAsPosted, pre158⟩
  obtain ⟨v165, hv165⟩ : ∃ z : Int32, z = (if v22 = (3 : Int32) then v14 else (if v22 = (2 : Int32) then v11 else v8)) := ⟨_, rfl⟩
  have pre166 : ∀ t, Steps p.tables e below (T159.setTop (mkF m 247 #[.val (.int x0), .val (.int x1), .val (.int v2), .val (.int v5), .val (.int v8), .val (.int v11), .val (.int v14), .val (.int v17), .val (.int v20), .val (.int v22), .val (.int r25), .val (.ref b28), .val (.int v160), .unset, .unset, .unset] [(.int v165)])) t → Steps p.tables e below (s₁.setTop (entryFrame m #[(.int x0), (.int x1)] maxLocals)) t := fun t k => pre162 t (by
    show Steps p.tables e below (T159.setTop (mkF m 223 #[.val (.int x0), .val (.int x1), .val (.int v2), .val (.int v5), .val (.int v8), .val (.int v11), .val (.int v14), .val (.int v17), .val (.int v20), .val (.int v22), .val (.int r25), .val (.ref b28), .val (.int v160), .unset, .unset, .unset] [])) _
    refine XS.iload X159.here hx rfl (hb hby at_223) rfl ?_
    show Steps p.tables e below (T159.setTop (mkF m 225 #[.val (.int x0), .val (.int x1), .val (.int v2), .val (.int v5), .val (.int v8), .val (.int v11), .val (.int v14), .val (.int v17), .val (.int v20), .val (.int v22), .val (.int r25), .val (.ref b28), .val (.int v160), .unset, .unset, .unset] [(.int v22)])) _
    refine XS.iconst X159.here hx rfl (hb hby at_225) ?_
    show Steps p.tables e below (T159.setTop (mkF m 226 #[.val (.int x0), .val (.int x1), .val (.int v2), .val (.int v5), .val (.int v8), .val (.int v11), .val (.int v14), .val (.int v17), .val (.int v20), .val (.int v22), .val (.int r25), .val (.ref b28), .val (.int v160), .unset, .unset, .unset] [(.int (3 : Int32)), (.int v22)])) _
    by_cases hc163 : v22 = (3 : Int32)
    · skip
      refine XS.icmpNo X159.here hx rfl (hb hby at_226) rfl (teq hc163).2 ?_
      show Steps p.tables e below (T159.setTop (mkF m 229 #[.val (.int x0), .val (.int x1), .val (.int v2), .val (.int v5), .val (.int v8), .val (.int v11), .val (.int v14), .val (.int v17), .val (.int v20), .val (.int v22), .val (.int r25), .val (.ref b28), .val (.int v160), .unset, .unset, .unset] [])) _
      refine XS.iload X159.here hx rfl (hb hby at_229) rfl ?_
      show Steps p.tables e below (T159.setTop (mkF m 231 #[.val (.int x0), .val (.int x1), .val (.int v2), .val (.int v5), .val (.int v8), .val (.int v11), .val (.int v14), .val (.int v17), .val (.int v20), .val (.int v22), .val (.int r25), .val (.ref b28), .val (.int v160), .unset, .unset, .unset] [(.int v14)])) _
      refine XS.goto X159.here hx rfl (pc0 := 231) (pc' := 247) rfl (hb hby at_231) (by decide) (by decide) ?_
      show Steps p.tables e below (T159.setTop (mkF m 247 #[.val (.int x0), .val (.int x1), .val (.int v2), .val (.int v5), .val (.int v8), .val (.int v11), .val (.int v14), .val (.int v17), .val (.int v20), .val (.int v22), .val (.int r25), .val (.ref b28), .val (.int v160), .unset, .unset, .unset] [(.int v14)])) _
      rw [show v165 = v14 from by rw [hv165, if_pos hc163]] at k
      exact k
    · skip
      refine XS.icmpYes X159.here hx rfl (pc0 := 226) (pc' := 234) rfl (hb hby at_226) rfl (feq hc163).2 (by decide) (by decide) ?_
      show Steps p.tables e below (T159.setTop (mkF m 234 #[.val (.int x0), .val (.int x1), .val (.int v2), .val (.int v5), .val (.int v8), .val (.int v11), .val (.int v14), .val (.int v17), .val (.int v20), .val (.int v22), .val (.int r25), .val (.ref b28), .val (.int v160), .unset, .unset, .unset] [])) _
      refine XS.iload X159.here hx rfl (hb hby at_234) rfl ?_
      show Steps p.tables e below (T159.setTop (mkF m 236 #[.val (.int x0), .val (.int x1), .val (.int v2), .val (.int v5), .val (.int v8), .val (.int v11), .val (.int v14), .val (.int v17), .val (.int v20), .val (.int v22), .val (.int r25), .val (.ref b28), .val (.int v160), .unset, .unset, .unset] [(.int v22)])) _
      refine XS.iconst X159.here hx rfl (hb hby at_236) ?_
      show Steps p.tables e below (T159.setTop (mkF m 237 #[.val (.int x0), .val (.int x1), .val (.int v2), .val (.int v5), .val (.int v8), .val (.int v11), .val (.int v14), .val (.int v17), .val (.int v20), .val (.int v22), .val (.int r25), .val (.ref b28), .val (.int v160), .unset, .unset, .unset] [(.int (2 : Int32)), (.int v22)])) _
      by_cases hc164 : v22 = (2 : Int32)
      · skip
        refine XS.icmpNo X159.here hx rfl (hb hby at_237) rfl (teq hc164).2 ?_
        show Steps p.tables e below (T159.setTop (mkF m 240 #[.val (.int x0), .val (.int x1), .val (.int v2), .val (.int v5), .val (.int v8), .val (.int v11), .val (.int v14), .val (.int v17), .val (.int v20), .val (.int v22), .val (.int r25), .val (.ref b28), .val (.int v160), .unset, .unset, .unset] [])) _
        refine XS.iload X159.here hx rfl (hb hby at_240) rfl ?_
        show Steps p.tables e below (T159.setTop (mkF m 242 #[.val (.int x0), .val (.int x1), .val (.int v2), .val (.int v5), .val (.int v8), .val (.int v11), .val (.int v14), .val (.int v17), .val (.int v20), .val (.int v22), .val (.int r25), .val (.ref b28), .val (.int v160), .unset, .unset, .unset] [(.int v11)])) _
        refine XS.goto X159.here hx rfl (pc0 := 242) (pc' := 247) rfl (hb hby at_242) (by decide) (by decide) ?_
        show Steps p.tables e below (T159.setTop (mkF m 247 #[.val (.int x0), .val (.int x1), .val (.int v2), .val (.int v5), .val (.int v8), .val (.int v11), .val (.int v14), .val (.int v17), .val (.int v20), .val (.int v22), .val (.int r25), .val (.ref b28), .val (.int v160), .unset, .unset, .unset] [(.int v11)])) _
        rw [show v165 = v11 from by rw [hv165, if_neg hc163, if_pos hc164]] at k
        exact k
      · skip
        refine XS.icmpYes X159.here hx rfl (pc0 := 237) (pc' := 245) rfl (hb hby at_237) rfl (feq hc164).2 (by decide) (by decide) ?_
        show Steps p.tables e below (T159.setTop (mkF m 245 #[.val (.int x0), .val (.int x1), .val (.int v2), .val (.int v5), .val (.int v8), .val (.int v11), .val (.int v14), .val (.int v17), .val (.int v20), .val (.int v22), .val (.int r25), .val (.ref b28), .val (.int v160), .unset, .unset, .unset] [])) _
        refine XS.iload X159.here hx rfl (hb hby at_245) rfl ?_
        show Steps p.tables e below (T159.setTop (mkF m 247 #[.val (.int x0), .val (.int x1), .val (.int v2), .val (.int v5), .val (.int v8), .val (.int v11), .val (.int v14), .val (.int v17), .val (.int v20), .val (.int v22), .val (.int r25), .val (.ref b28), .val (.int v160), .unset, .unset, .unset] [(.int v8)])) _
        rw [show v165 = v8 from by rw [hv165, if_neg hc163, if_neg hc164]] at k
        exact k)
  obtain ⟨v167, hv167⟩ : ∃ z : Int32, z = (v22 - r25) := ⟨_, rfl⟩
  obtain ⟨v169, hv169⟩ : ∃ z : Int32, z = (if (0 : Int32) < v167 then v165 else v160) := ⟨_, rfl⟩
  have pre170 : ∀ t, Steps p.tables e below (T159.setTop (mkF m 268 #[.val (.int x0), .val (.int x1), .val (.int v2), .val (.int v5), .val (.int v8), .val (.int v11), .val (.int v14), .val (.int v17), .val (.int v20), .val (.int v22), .val (.int r25), .val (.ref b28), .val (.int v160), .val (.int v165), .val (.int v167), .unset] [(.int v169)])) t → Steps p.tables e below (s₁.setTop (entryFrame m #[(.int x0), (.int x1)] maxLocals)) t := fun t k => pre166 t (by
    subst hv167
    show Steps p.tables e below (T159.setTop (mkF m 247 #[.val (.int x0), .val (.int x1), .val (.int v2), .val (.int v5), .val (.int v8), .val (.int v11), .val (.int v14), .val (.int v17), .val (.int v20), .val (.int v22), .val (.int r25), .val (.ref b28), .val (.int v160), .unset, .unset, .unset] [(.int v165)])) _
    refine XS.istore X159.here hx rfl (hb hby at_247) rfl (l' := #[.val (.int x0), .val (.int x1), .val (.int v2), .val (.int v5), .val (.int v8), .val (.int v11), .val (.int v14), .val (.int v17), .val (.int v20), .val (.int v22), .val (.int r25), .val (.ref b28), .val (.int v160), .val (.int v165), .unset, .unset]) rfl ?_
    show Steps p.tables e below (T159.setTop (mkF m 249 #[.val (.int x0), .val (.int x1), .val (.int v2), .val (.int v5), .val (.int v8), .val (.int v11), .val (.int v14), .val (.int v17), .val (.int v20), .val (.int v22), .val (.int r25), .val (.ref b28), .val (.int v160), .val (.int v165), .unset, .unset] [])) _
    refine XS.iload X159.here hx rfl (hb hby at_249) rfl ?_
    show Steps p.tables e below (T159.setTop (mkF m 251 #[.val (.int x0), .val (.int x1), .val (.int v2), .val (.int v5), .val (.int v8), .val (.int v11), .val (.int v14), .val (.int v17), .val (.int v20), .val (.int v22), .val (.int r25), .val (.ref b28), .val (.int v160), .val (.int v165), .unset, .unset] [(.int v22)])) _
    refine XS.iload X159.here hx rfl (hb hby at_251) rfl ?_
    show Steps p.tables e below (T159.setTop (mkF m 253 #[.val (.int x0), .val (.int x1), .val (.int v2), .val (.int v5), .val (.int v8), .val (.int v11), .val (.int v14), .val (.int v17), .val (.int v20), .val (.int v22), .val (.int r25), .val (.ref b28), .val (.int v160), .val (.int v165), .unset, .unset] [(.int r25), (.int v22)])) _
    refine XS.isub X159.here hx rfl (hb hby at_253) rfl ?_
    show Steps p.tables e below (T159.setTop (mkF m 254 #[.val (.int x0), .val (.int x1), .val (.int v2), .val (.int v5), .val (.int v8), .val (.int v11), .val (.int v14), .val (.int v17), .val (.int v20), .val (.int v22), .val (.int r25), .val (.ref b28), .val (.int v160), .val (.int v165), .unset, .unset] [(.int (v22 - r25))])) _
    refine XS.istore X159.here hx rfl (hb hby at_254) rfl (l' := #[.val (.int x0), .val (.int x1), .val (.int v2), .val (.int v5), .val (.int v8), .val (.int v11), .val (.int v14), .val (.int v17), .val (.int v20), .val (.int v22), .val (.int r25), .val (.ref b28), .val (.int v160), .val (.int v165), .val (.int (v22 - r25)), .unset]) rfl ?_
    show Steps p.tables e below (T159.setTop (mkF m 256 #[.val (.int x0), .val (.int x1), .val (.int v2), .val (.int v5), .val (.int v8), .val (.int v11), .val (.int v14), .val (.int v17), .val (.int v20), .val (.int v22), .val (.int r25), .val (.ref b28), .val (.int v160), .val (.int v165), .val (.int (v22 - r25)), .unset] [])) _
    refine XS.iload X159.here hx rfl (hb hby at_256) rfl ?_
    show Steps p.tables e below (T159.setTop (mkF m 258 #[.val (.int x0), .val (.int x1), .val (.int v2), .val (.int v5), .val (.int v8), .val (.int v11), .val (.int v14), .val (.int v17), .val (.int v20), .val (.int v22), .val (.int r25), .val (.ref b28), .val (.int v160), .val (.int v165), .val (.int (v22 - r25)), .unset] [(.int (v22 - r25))])) _
    by_cases hc168 : (0 : Int32) < (v22 - r25)
    · skip
      refine XS.ifNo X159.here hx rfl (hb hby at_258) rfl ((if0 _ _).trans (tlt hc168).2.2.2) ?_
      show Steps p.tables e below (T159.setTop (mkF m 261 #[.val (.int x0), .val (.int x1), .val (.int v2), .val (.int v5), .val (.int v8), .val (.int v11), .val (.int v14), .val (.int v17), .val (.int v20), .val (.int v22), .val (.int r25), .val (.ref b28), .val (.int v160), .val (.int v165), .val (.int (v22 - r25)), .unset] [])) _
      refine XS.iload X159.here hx rfl (hb hby at_261) rfl ?_
      show Steps p.tables e below (T159.setTop (mkF m 263 #[.val (.int x0), .val (.int x1), .val (.int v2), .val (.int v5), .val (.int v8), .val (.int v11), .val (.int v14), .val (.int v17), .val (.int v20), .val (.int v22), .val (.int r25), .val (.ref b28), .val (.int v160), .val (.int v165), .val (.int (v22 - r25)), .unset] [(.int v165)])) _
      refine XS.goto X159.here hx rfl (pc0 := 263) (pc' := 268) rfl (hb hby at_263) (by decide) (by decide) ?_
      show Steps p.tables e below (T159.setTop (mkF m 268 #[.val (.int x0), .val (.int x1), .val (.int v2), .val (.int v5), .val (.int v8), .val (.int v11), .val (.int v14), .val (.int v17), .val (.int v20), .val (.int v22), .val (.int r25), .val (.ref b28), .val (.int v160), .val (.int v165), .val (.int (v22 - r25)), .unset] [(.int v165)])) _
      rw [show v169 = v165 from by rw [hv169, if_pos hc168]] at k
      exact k
    · skip
      refine XS.ifYes X159.here hx rfl (pc0 := 258) (pc' := 266) rfl (hb hby at_258) rfl ((if0 _ _).trans (flt hc168).2.2.2) (by decide) (by decide) ?_
      show Steps p.tables e below (T159.setTop (mkF m 266 #[.val (.int x0), .val (.int x1), .val (.int v2), .val (.int v5), .val (.int v8), .val (.int v11), .val (.int v14), .val (.int v17), .val (.int v20), .val (.int v22), .val (.int r25), .val (.ref b28), .val (.int v160), .val (.int v165), .val (.int (v22 - r25)), .unset] [])) _
      refine XS.iload X159.here hx rfl (hb hby at_266) rfl ?_
      show Steps p.tables e below (T159.setTop (mkF m 268 #[.val (.int x0), .val (.int x1), .val (.int v2), .val (.int v5), .val (.int v8), .val (.int v11), .val (.int v14), .val (.int v17), .val (.int v20), .val (.int v22), .val (.int r25), .val (.ref b28), .val (.int v160), .val (.int v165), .val (.int (v22 - r25)), .unset] [(.int v160)])) _
      rw [show v169 = v160 from by rw [hv169, if_neg hc168]] at k
      exact k)
  have pre171 : ∀ t, Steps p.tables e below (T159.setTop (mkF m 272 #[.val (.int x0), .val (.int x1), .val (.int v2), .val (.int v5), .val (.int v8), .val (.int v11), .val (.int v14), .val (.int v17), .val (.int v20), .val (.int v22), .val (.int r25), .val (.ref b28), .val (.int v160), .val (.int v165), .val (.int v167), .val (.int v169)] [(.ref b28)])) t → Steps p.tables e below (s₁.setTop (entryFrame m #[(.int x0), (.int x1)] maxLocals)) t := fun t k => pre170 t (by
    show Steps p.tables e below (T159.setTop (mkF m 268 #[.val (.int x0), .val (.int x1), .val (.int v2), .val (.int v5), .val (.int v8), .val (.int v11), .val (.int v14), .val (.int v17), .val (.int v20), .val (.int v22), .val (.int r25), .val (.ref b28), .val (.int v160), .val (.int v165), .val (.int v167), .unset] [(.int v169)])) _
    refine XS.istore X159.here hx rfl (hb hby at_268) rfl (l' := #[.val (.int x0), .val (.int x1), .val (.int v2), .val (.int v5), .val (.int v8), .val (.int v11), .val (.int v14), .val (.int v17), .val (.int v20), .val (.int v22), .val (.int r25), .val (.ref b28), .val (.int v160), .val (.int v165), .val (.int v167), .val (.int v169)]) rfl ?_
    show Steps p.tables e below (T159.setTop (mkF m 270 #[.val (.int x0), .val (.int x1), .val (.int v2), .val (.int v5), .val (.int v8), .val (.int v11), .val (.int v14), .val (.int v17), .val (.int v20), .val (.int v22), .val (.int r25), .val (.ref b28), .val (.int v160), .val (.int v165), .val (.int v167), .val (.int v169)] [])) _
    refine XS.aload X159.here hx rfl (hb hby at_270) rfl rfl ?_
    show Steps p.tables e below (T159.setTop (mkF m 272 #[.val (.int x0), .val (.int x1), .val (.int v2), .val (.int v5), .val (.int v8), .val (.int v11), .val (.int v14), .val (.int v17), .val (.int v20), .val (.int v22), .val (.int r25), .val (.ref b28), .val (.int v160), .val (.int v165), .val (.int v167), .val (.int v169)] [(.ref b28)])) _
    exact k)
  obtain ⟨cq173, kq173, q173a, q173b, q173c⟩ := isOf hZ rfl f159_0
  obtain ⟨_, _, ⟨T173, L173, k173, n173⟩, -, X173, ⟨Lc173, hQ173, l173, y173, z173⟩, st173⟩ := X159.virtualBack hx (y := (⟨"com/example/lean_lifecycle/leanlifecycle/ActivityManager", "isInFrontAsPosted", "()Z"⟩ : MethodName)) (z := (⟨"com/example/lean_lifecycle/leanlifecycle/ActivityManager", "isInFrontAsPosted", "()Z"⟩ : MethodName)) hown (mvT hZ (hw _ (List.mem_of_getElem? (i := 70) rfl))) (mvT hZ (hw _ (List.mem_of_getElem? (i := 71) rfl))) (notFace_of_selects (args := #[]) (mvT hZ (hw _ (List.mem_of_getElem? (i := 73) rfl)))) (mvT hZ (hw _ (List.mem_of_getElem? (i := 73) rfl))) (mvT hZ (hw _ (List.mem_of_getElem? (i := 72) rfl))) (by decide) (backOf (W := 0) (rm10 l Z a0 hw [] b28 v161 v145 v103 T159.heap n0 Zz159 f159_1 f159_2 f159_3) hZ (hw _ (List.mem_of_getElem? (i := 74) rfl)) (hw _ (List.mem_of_getElem? (i := 6) rfl)) (by decide) (by decide)) q173a q173c (g := (mkF m 272 #[.val (.int x0), .val (.int x1), .val (.int v2), .val (.int v5), .val (.int v8), .val (.int v11), .val (.int v14), .val (.int v17), .val (.int v20), .val (.int v22), .val (.int r25), .val (.ref b28), .val (.int v160), .val (.int v165), .val (.int v167), .val (.int v169)] [(.ref b28)])) rfl (by rw [hml]; rfl) (Steps.refl _) (argsL := []) (rest := []) (lenOf pd_3 rfl) rfl (by show 2 * 0 + _ ≤ _; exact Nat.le_of_eq rfl) (hb hby at_272) (fun _ _ => ⟨rfl, rfl, (by decide : 4 + 0 ≤ _), (by decide : 25 + 0 ≤ _)⟩)
  dsimp only [Pt.U, Pt.locs, Pt.cells, Pt.slots] at X173 l173 y173 z173 st173 hQ173
  subst l173 y173 z173
  obtain ⟨r173, rfl, N173q, e173, P173⟩ := hQ173
  have N173 := Fr.app N159 N173q
  have pre174 : ∀ t, Steps p.tables e below (T173.setTop (mkF m 275 #[.val (.int x0), .val (.int x1), .val (.int v2), .val (.int v5), .val (.int v8), .val (.int v11), .val (.int v14), .val (.int v17), .val (.int v20), .val (.int v22), .val (.int r25), .val (.ref b28), .val (.int v160), .val (.int v165), .val (.int v167), .val (.int v169)] [(.int r173)])) t → Steps p.tables e below (s₁.setTop (entryFrame m #[(.int x0), (.int x1)] maxLocals)) t := fun t k => pre171 t (st173.trans k)
  have pre175 : ∀ t, Steps p.tables e below (T173.setTop (mkF m 277 #[.val (.int x0), .val (.int x1), .val (.int v2), .val (.int v5), .val (.int v8), .val (.int v11), .val (.int v14), .val (.int v17), .val (.int v20), .val (.int v22), .val (.int r25), .val (.ref b28), .val (.int v160), .val (.int v165), .val (.int v167), .val (.int v169)] [(.int v169), (.int r173)])) t → Steps p.tables e below (s₁.setTop (entryFrame m #[(.int x0), (.int x1)] maxLocals)) t := fun t k => pre174 t (by
    show Steps p.tables e below (T173.setTop (mkF m 275 #[.val (.int x0), .val (.int x1), .val (.int v2), .val (.int v5), .val (.int v8), .val (.int v11), .val (.int v14), .val (.int v17), .val (.int v20), .val (.int v22), .val (.int r25), .val (.ref b28), .val (.int v160), .val (.int v165), .val (.int v167), .val (.int v169)] [(.int r173)])) _
    refine XS.iload X173.here hx rfl (hb hby at_275) rfl ?_
    show Steps p.tables e below (T173.setTop (mkF m 277 #[.val (.int x0), .val (.int x1), .val (.int v2), .val (.int v5), .val (.int v8), .val (.int v11), .val (.int v14), .val (.int v17), .val (.int v20), .val (.int v22), .val (.int r25), .val (.ref b28), .val (.int v160), .val (.int v165), .val (.int v167), .val (.int v169)] [(.int v169), (.int r173)])) _
    exact k)
  obtain ⟨v186, hv186⟩ : ∃ z : Int32, z = (if r173 = v169 then (if F11 v161 = v160 then (1 : Int32) else (0 : Int32)) else (0 : Int32)) := ⟨_, rfl⟩
  obtain ⟨T185, L185, X185, N185, Zz185, eh185, pre187⟩ : ∃ (T185 : State) (L185 : List Loc), Stand p l e room_1 s m #[(.int x0), (.int x1)] below meth c T185 L185 4 25 ∧ Fr n0 L185 ∧ n0 ≤ T185.heap.size ∧ (T185.heap = T159.heap) ∧ ∀ t, Steps p.tables e below (T185.setTop (mkF m 295 #[.val (.int x0), .val (.int x1), .val (.int v2), .val (.int v5), .val (.int v8), .val (.int v11), .val (.int v14), .val (.int v17), .val (.int v20), .val (.int v22), .val (.int r25), .val (.ref b28), .val (.int v160), .val (.int v165), .val (.int v167), .val (.int v169)] [(.int v186)])) t → Steps p.tables e below (s₁.setTop (entryFrame m #[(.int x0), (.int x1)] maxLocals)) t := by
    by_cases hc176 : r173 = v169
    · skip
      have pre177 : ∀ t, Steps p.tables e below (T173.setTop (mkF m 282 #[.val (.int x0), .val (.int x1), .val (.int v2), .val (.int v5), .val (.int v8), .val (.int v11), .val (.int v14), .val (.int v17), .val (.int v20), .val (.int v22), .val (.int r25), .val (.ref b28), .val (.int v160), .val (.int v165), .val (.int v167), .val (.int v169)] [(.ref b28)])) t → Steps p.tables e below (s₁.setTop (entryFrame m #[(.int x0), (.int x1)] maxLocals)) t := fun t k => pre175 t (by
        show Steps p.tables e below (T173.setTop (mkF m 277 #[.val (.int x0), .val (.int x1), .val (.int v2), .val (.int v5), .val (.int v8), .val (.int v11), .val (.int v14), .val (.int v17), .val (.int v20), .val (.int v22), .val (.int r25), .val (.ref b28), .val (.int v160), .val (.int v165), .val (.int v167), .val (.int v169)] [(.int v169), (.int r173)])) _
        refine XS.icmpNo X173.here hx rfl (hb hby at_277) rfl (teq hc176).2 ?_
        show Steps p.tables e below (T173.setTop (mkF m 280 #[.val (.int x0), .val (.int x1), .val (.int v2), .val (.int v5), .val (.int v8), .val (.int v11), .val (.int v14), .val (.int v17), .val (.int v20), .val (.int v22), .val (.int r25), .val (.ref b28), .val (.int v160), .val (.int v165), .val (.int v167), .val (.int v169)] [])) _
        refine XS.aload X173.here hx rfl (hb hby at_280) rfl rfl ?_
        show Steps p.tables e below (T173.setTop (mkF m 282 #[.val (.int x0), .val (.int x1), .val (.int v2), .val (.int v5), .val (.int v8), .val (.int v11), .val (.int v14), .val (.int v17), .val (.int v20), .val (.int v22), .val (.int r25), .val (.ref b28), .val (.int v160), .val (.int v165), .val (.int v167), .val (.int v169)] [(.ref b28)])) _
        exact k)
      obtain ⟨cq179, kq179, q179a, q179b, q179c⟩ := isOf hZ e173 f159_0
      obtain ⟨_, _, ⟨T179, L179, k179, n179⟩, -, X179, ⟨Lc179, hQ179, l179, y179, z179⟩, st179⟩ := X173.virtualBack hx (y := (⟨"com/example/lean_lifecycle/leanlifecycle/ActivityManager", "isInFront", "()Z"⟩ : MethodName)) (z := (⟨"com/example/lean_lifecycle/leanlifecycle/ActivityManager", "isInFront", "()Z"⟩ : MethodName)) hown (mvT hZ (hw _ (List.mem_of_getElem? (i := 75) rfl))) (mvT hZ (hw _ (List.mem_of_getElem? (i := 76) rfl))) (notFace_of_selects (args := #[]) (mvT hZ (hw _ (List.mem_of_getElem? (i := 78) rfl)))) (mvT hZ (hw _ (List.mem_of_getElem? (i := 78) rfl))) (mvT hZ (hw _ (List.mem_of_getElem? (i := 77) rfl))) (by decide) (backOf (W := 0) (rm11 l Z a0 hw [] b28 v161 T159.heap n0 Zz159 f159_1) hZ (hw _ (List.mem_of_getElem? (i := 79) rfl)) (hw _ (List.mem_of_getElem? (i := 6) rfl)) (by decide) (by decide)) q179a q179c (g := (mkF m 282 #[.val (.int x0), .val (.int x1), .val (.int v2), .val (.int v5), .val (.int v8), .val (.int v11), .val (.int v14), .val (.int v17), .val (.int v20), .val (.int v22), .val (.int r25), .val (.ref b28), .val (.int v160), .val (.int v165), .val (.int v167), .val (.int v169)] [(.ref b28)])) rfl (by rw [hml]; rfl) (Steps.refl _) (argsL := []) (rest := []) (lenOf pd_3 rfl) rfl (by show 2 * 0 + _ ≤ _; exact Nat.le_of_eq rfl) (hb hby at_282) (fun _ _ => ⟨rfl, e173, (by decide : 4 + 0 ≤ _), (by decide : 25 + 0 ≤ _)⟩)
      dsimp only [Pt.U, Pt.locs, Pt.cells, Pt.slots] at X179 l179 y179 z179 st179 hQ179
      subst l179 y179 z179
      obtain ⟨r179, rfl, N179q, e179, P179⟩ := hQ179
      have N179 := Fr.app N173 N179q
      have pre180 : ∀ t, Steps p.tables e below (T179.setTop (mkF m 285 #[.val (.int x0), .val (.int x1), .val (.int v2), .val (.int v5), .val (.int v8), .val (.int v11), .val (.int v14), .val (.int v17), .val (.int v20), .val (.int v22), .val (.int r25), .val (.ref b28), .val (.int v160), .val (.int v165), .val (.int v167), .val (.int v169)] [(.int r179)])) t → Steps p.tables e below (s₁.setTop (entryFrame m #[(.int x0), (.int x1)] maxLocals)) t := fun t k => pre177 t (st179.trans k)
      obtain ⟨v182, hv182⟩ : ∃ z : Int32, z = (if r179 = v160 then (1 : Int32) else (0 : Int32)) := ⟨_, rfl⟩
      have pre183 : ∀ t, Steps p.tables e below (T179.setTop (mkF m 295 #[.val (.int x0), .val (.int x1), .val (.int v2), .val (.int v5), .val (.int v8), .val (.int v11), .val (.int v14), .val (.int v17), .val (.int v20), .val (.int v22), .val (.int r25), .val (.ref b28), .val (.int v160), .val (.int v165), .val (.int v167), .val (.int v169)] [(.int v182)])) t → Steps p.tables e below (s₁.setTop (entryFrame m #[(.int x0), (.int x1)] maxLocals)) t := fun t k => pre180 t (by
        show Steps p.tables e below (T179.setTop (mkF m 285 #[.val (.int x0), .val (.int x1), .val (.int v2), .val (.int v5), .val (.int v8), .val (.int v11), .val (.int v14), .val (.int v17), .val (.int v20), .val (.int v22), .val (.int r25), .val (.ref b28), .val (.int v160), .val (.int v165), .val (.int v167), .val (.int v169)] [(.int r179)])) _
        refine XS.iload X179.here hx rfl (hb hby at_285) rfl ?_
        show Steps p.tables e below (T179.setTop (mkF m 287 #[.val (.int x0), .val (.int x1), .val (.int v2), .val (.int v5), .val (.int v8), .val (.int v11), .val (.int v14), .val (.int v17), .val (.int v20), .val (.int v22), .val (.int r25), .val (.ref b28), .val (.int v160), .val (.int v165), .val (.int v167), .val (.int v169)] [(.int v160), (.int r179)])) _
        by_cases hc181 : r179 = v160
        · skip
          refine XS.icmpNo X179.here hx rfl (hb hby at_287) rfl (teq hc181).2 ?_
          show Steps p.tables e below (T179.setTop (mkF m 290 #[.val (.int x0), .val (.int x1), .val (.int v2), .val (.int v5), .val (.int v8), .val (.int v11), .val (.int v14), .val (.int v17), .val (.int v20), .val (.int v22), .val (.int r25), .val (.ref b28), .val (.int v160), .val (.int v165), .val (.int v167), .val (.int v169)] [])) _
          refine XS.iconst X179.here hx rfl (hb hby at_290) ?_
          show Steps p.tables e below (T179.setTop (mkF m 291 #[.val (.int x0), .val (.int x1), .val (.int v2), .val (.int v5), .val (.int v8), .val (.int v11), .val (.int v14), .val (.int v17), .val (.int v20), .val (.int v22), .val (.int r25), .val (.ref b28), .val (.int v160), .val (.int v165), .val (.int v167), .val (.int v169)] [(.int (1 : Int32))])) _
          refine XS.goto X179.here hx rfl (pc0 := 291) (pc' := 295) rfl (hb hby at_291) (by decide) (by decide) ?_
          show Steps p.tables e below (T179.setTop (mkF m 295 #[.val (.int x0), .val (.int x1), .val (.int v2), .val (.int v5), .val (.int v8), .val (.int v11), .val (.int v14), .val (.int v17), .val (.int v20), .val (.int v22), .val (.int r25), .val (.ref b28), .val (.int v160), .val (.int v165), .val (.int v167), .val (.int v169)] [(.int (1 : Int32))])) _
          rw [show v182 = (1 : Int32) from by rw [hv182, if_pos hc181]] at k
          exact k
        · skip
          refine XS.icmpYes X179.here hx rfl (pc0 := 287) (pc' := 294) rfl (hb hby at_287) rfl (feq hc181).2 (by decide) (by decide) ?_
          show Steps p.tables e below (T179.setTop (mkF m 294 #[.val (.int x0), .val (.int x1), .val (.int v2), .val (.int v5), .val (.int v8), .val (.int v11), .val (.int v14), .val (.int v17), .val (.int v20), .val (.int v22), .val (.int r25), .val (.ref b28), .val (.int v160), .val (.int v165), .val (.int v167), .val (.int v169)] [])) _
          refine XS.iconst X179.here hx rfl (hb hby at_294) ?_
          show Steps p.tables e below (T179.setTop (mkF m 295 #[.val (.int x0), .val (.int x1), .val (.int v2), .val (.int v5), .val (.int v8), .val (.int v11), .val (.int v14), .val (.int v17), .val (.int v20), .val (.int v22), .val (.int r25), .val (.ref b28), .val (.int v160), .val (.int v165), .val (.int v167), .val (.int v169)] [(.int (0 : Int32))])) _
          rw [show v182 = (0 : Int32) from by rw [hv182, if_neg hc181]] at k
          exact k)
      rw [if_pos hc176] at hv186
      subst hv182
      subst P179
      subst hv186
      exact ⟨_, _, X179, N179, by rw [e179]; exact Zz159, e179, pre183⟩
    · skip
      have pre184 : ∀ t, Steps p.tables e below (T173.setTop (mkF m 295 #[.val (.int x0), .val (.int x1), .val (.int v2), .val (.int v5), .val (.int v8), .val (.int v11), .val (.int v14), .val (.int v17), .val (.int v20), .val (.int v22), .val (.int r25), .val (.ref b28), .val (.int v160), .val (.int v165), .val (.int v167), .val (.int v169)] [(.int (0 : Int32))])) t → Steps p.tables e below (s₁.setTop (entryFrame m #[(.int x0), (.int x1)] maxLocals)) t := fun t k => pre175 t (by
        show Steps p.tables e below (T173.setTop (mkF m 277 #[.val (.int x0), .val (.int x1), .val (.int v2), .val (.int v5), .val (.int v8), .val (.int v11), .val (.int v14), .val (.int v17), .val (.int v20), .val (.int v22), .val (.int r25), .val (.ref b28), .val (.int v160), .val (.int v165), .val (.int v167), .val (.int v169)] [(.int v169), (.int r173)])) _
        refine XS.icmpYes X173.here hx rfl (pc0 := 277) (pc' := 294) rfl (hb hby at_277) rfl (feq hc176).2 (by decide) (by decide) ?_
        show Steps p.tables e below (T173.setTop (mkF m 294 #[.val (.int x0), .val (.int x1), .val (.int v2), .val (.int v5), .val (.int v8), .val (.int v11), .val (.int v14), .val (.int v17), .val (.int v20), .val (.int v22), .val (.int r25), .val (.ref b28), .val (.int v160), .val (.int v165), .val (.int v167), .val (.int v169)] [])) _
        refine XS.iconst X173.here hx rfl (hb hby at_294) ?_
        show Steps p.tables e below (T173.setTop (mkF m 295 #[.val (.int x0), .val (.int x1), .val (.int v2), .val (.int v5), .val (.int v8), .val (.int v11), .val (.int v14), .val (.int v17), .val (.int v20), .val (.int v22), .val (.int r25), .val (.ref b28), .val (.int v160), .val (.int v165), .val (.int v167), .val (.int v169)] [(.int (0 : Int32))])) _
        exact k)
      rw [if_neg hc176] at hv186
      subst hv186
      exact ⟨_, _, X173, N173, by rw [e173]; exact Zz159, e173, pre184⟩
  obtain rfl : v186 = (1 : Int32) := by exact own_fin x0 x1 v2 v5 v8 v11 v14 v17 v20 v22 r25 v57 v58 v72 v73 v87 v88 v102 v103 v117 v131 v145 v160 v161 v165 v167 v169 r173 v186 hv2 hv5 hv8 hv11 hv14 hv17 hv20 hv22 P25 hv57 hv58 hv72 hv73 hv87 hv88 hv102 hv103 hv117 hv131 hv145 hv160 hv161 hv165 hv167 hv169 P173 hv186
  obtain ⟨fs, hr, hrun, hended, hW, hsame⟩ := X185.leave (v := some (.int (1 : Int32))) (fun h => by rw [Bd.returns] at h; cases h)
  refine ⟨_, _, pre187 _ ?_, hrun, hended, _, _, rfl, ?_, ⟨_, rfl⟩, hW, hsame.mono (by decide) (by decide)⟩
  · show Steps p.tables e below (T185.setTop (mkF m 295 #[.val (.int x0), .val (.int x1), .val (.int v2), .val (.int v5), .val (.int v8), .val (.int v11), .val (.int v14), .val (.int v17), .val (.int v20), .val (.int v22), .val (.int r25), .val (.ref b28), .val (.int v160), .val (.int v165), .val (.int v167), .val (.int v169)] [(.int (1 : Int32))])) _
    exact retN X185 hx (t := .boolean) Bd.returns (by simp) (hb hby at_295) hr
  · show Q0 Z x0 x1 w_DEFAULTCAPACITY_EMPTY_ELEMENTDATA h0 n0 _ T185.heap _
    rw [eh185]
    exact ⟨rfl, N185⟩
set_option maxRecDepth 65536 in
set_option maxHeartbeats 40000000 in
theorem comes_1 {Post : Tables → Env → Array Value → State → Outcome → State → Prop} (hpost : ∀ tb e args s v u, (limb_1_1.after args s (.returned v) u = true ∧ limb_1_2.after args s (.returned v) u = true ∧ True) → FrameEnd s (.returned v) u (Jvm.fieldLocs frame_1_writes args s ++ Jvm.arrayLocs frame_1_arrays args s ++ Jvm.staticLocs frame_1_statics s) 16 128 → Post tb e args s (.returned v) u) :
    ArmFor flags0 classFile x code maxLocals ret World_1 tables_1 room_1 Calls_1 rest_1 Pre_1 Post := by
  intro l hfl _ _ p e ha hc hk s m args below hf hA hF happ hP
  obtain ⟨hcalls, hrest, hpre⟩ := hP
  obtain ⟨-, -, -, hnamed, -, -, -, hat⟩ := (Spec.applies_iff hf).mp happ
  obtain ⟨hg, hn⟩ := and_e (Cond.before_iff.mp (show (Jvm.Cond.and given_1 narrow_1).before args s = true from hpre))
  obtain ⟨hcount, hg0⟩ := and_e hg
  obtain ⟨ha0, hg1⟩ := and_e hg0
  have ha1 := hg1
  obtain ⟨w0, w1, rfl⟩ : ∃ w0 w1 : Value, args = #[w0, w1] := by
    have hs : args.size = 2 := by simpa [Cond.value, given_1] using hcount
    obtain ⟨L⟩ := args
    match L, hs with
    | [w0, w1], _ => exact ⟨w0, w1, rfl⟩
  have hw := fun d (hd : d ∈ tables_1) => atoms_spec (ws := Jvm.Cond.code x code maxLocals ret :: tables_1) hat d (List.mem_cons_of_mem _ hd)
  obtain ⟨i0, ei0⟩ := is_v ha0
  obtain rfl : w0 = (.int i0) := Option.some.inj ei0
  obtain ⟨i1, ei1⟩ := is_v ha1
  obtain rfl : w1 = (.int i1) := Option.some.inj ei1
  obtain ⟨hsets, hown0⟩ := atoms_of _ (rest_1_c_eq ▸ (show rest_1_c.before _ s = true from hrest))
  obtain ⟨ws0, _, _, _, es0, -⟩ := Cond.exactly_spec (hsets _ (List.mem_of_getElem? (i := 7) rfl))
  have S0 : Sta s s.heap "java/util/ArrayList" "DEFAULTCAPACITY_EMPTY_ELEMENTDATA" "[Ljava/lang/Object;" (.ref ws0) := Sta.start es0 (Or.inr ⟨hw _ (List.mem_of_getElem? (i := 15) rfl), hsets _ (List.mem_of_getElem? (i := 2) rfl)⟩)
  obtain ⟨n, o, h1, h2, h3, _, L, rfl, ⟨rfl, N⟩, hq⟩ := rm0 l s _ hw tables_1 i0 i1 ws0 s.heap s.heap.size (Nat.le_refl _) S0 p e ha hc hk s m _ below hf ((Spec.applies_iff_loose hf).mp happ).1 ⟨rfl, State.Warmed39.refl s, rfl⟩ trivial
  refine ⟨n, _, h1, h2, h3, hpost _ _ _ _ _ _ ⟨Cond.after_iff.mpr rfl, Cond.after_iff.mpr (eq_i res_at (Term.int_eval (1)) rfl), trivial⟩ ⟨hq.1, hq.2.1, (hq.2.2.sift fun y hy => Or.inr (N y hy)).mono (by decide) (by decide)⟩⟩
theorem main_1_1 : Claimed_1_1 := comes_1 fun _ _ _ _ _ _ h hF => ⟨h.1, hF⟩
theorem main_1_2 : Claimed_1_2 := comes_1 fun _ _ _ _ _ _ h hF => ⟨h.2.1, hF⟩
end Jvm.Pilot.@@N@@
namespace Jvm.Pilot.@@N@@
open Jvm Jvm.ClassFile Sem Op Lib Jvm.Free Jvm.Stand Jvm.Pilot.@@N@@.Jvm.D
/-! MADE BY PROGRAM (witnessworld.py) out of the Statement's table words and the real class files: 22 classes; the members and pool entries that the words name. The judged class is class 1, her method 1. -/
namespace start1
open Jvm.ClassFile
def u (s : String) : CpInfo := .utf8 (stringToUtf16 s)
/-- a pool by its gaps: so many unusable entries, then the entry; so many at the end -/
def gap : Nat → List CpInfo → List CpInfo
  | 0, r => r
  | n + 1, r => .unusable :: gap n r
def poolList (es : List (Nat × CpInfo)) (last : Nat) : List CpInfo := es.foldr (fun e r => gap e.1 (e.2 :: r)) (gap last [])
def pool (es : List (Nat × CpInfo)) (last : Nat) : Array CpInfo := ⟨poolList es last⟩
def fileOf (pool : Array CpInfo) (this : Nat) (attrs : Array Attribute := #[]) (ms : Array MethodInfo := #[]) (fl : Nat := 33) (sup : Nat := 0) (ifs : Array Nat := #[]) (fds : Array FieldInfo := #[]) : ClassFile where
  minorVersion := 0
  majorVersion := 65
  constantPool := pool
  accessFlags := fl
  thisClass := this
  superClass := sup
  interfaces := ifs
  fields := fds
  methods := ms
  attributes := attrs
def plain (name : String) (sup : Option ClassId) : Class where
  name := name
  kind := .ordinary
  loader := none
  accessFlags := 33
  super := sup
  interfaces := #[]
  cf := none
  fields := #[]
  methods := #[]
  instanceTypes := #[]
  staticTypes := #[]
  resolved := #[]
  callSites := []
  init := .initialized
  statics := none
  mirror := none

def pool0 : Array CpInfo := pool [(5, u "<init>"), (0, u "()V"), (1, .class_ 10), (1, u "java/lang/Object")] 113

def k0c0 : Code := { maxStack := 0, maxLocals := 1, code := object_method_1_code, exceptionTable := #[], attributes := #[] }
def k0m0 : Method := { name := "<init>", desc := "()V", sig := { parameters := [], returnType := none }, accessFlags := 1, code := some k0c0 }
/-- java/lang/Object -/
def k0 : Class := { plain "java/lang/Object" none with
  accessFlags := 33
  interfaces := #[]
  cf := some (fileOf pool0 8 #[] #[{ accessFlags := 1, nameIndex := 5, descriptorIndex := 6, attributes := #[] }] 33 0 #[] #[])
  fields := #[]
  methods := #[k0m0]
  instanceTypes := #[]
  staticTypes := #[]
  resolved := Array.replicate 124 none
  statics := none }

def pool1 : Array CpInfo := pool [(2, .class_ 4), (0, .nameAndType 5 6), (0, u "java/lang/Object"), (0, u "<init>"), (0, u "()V"), (0, .methodref 8 9), (0, .class_ 10), (0, .nameAndType 11 12), (0, u "java/lang/Math"), (0, u "min"), (0, u "(II)I"), (0, .class_ 14), (0, u "com/example/lean_lifecycle/leanlifecycle/ActivityManager"), (0, .methodref 13 3), (0, .methodref 13 17), (0, .nameAndType 18 19), (0, u "setInFront"), (0, u "(Z)V"), (0, .methodref 13 21), (0, .nameAndType 22 19), (0, u "postFrontMove"), (0, .methodref 13 24), (0, .nameAndType 25 6), (0, u "endFrontMove"), (0, .methodref 13 27), (0, .nameAndType 28 29), (0, u "isInFrontAsPosted"), (0, u "()Z"), (0, .methodref 13 31), (0, .nameAndType 32 29), (0, u "isInFront"), (0, .class_ 34), (0, u "com/example/lean_lifecycle/leanlifecycle/ActivityManagerIsInFrontAsPostedPinLaw"), (2, u "law"), (0, u "(II)Z")] 3

def k1m0 : Method := { name := "<init>", desc := "()V", sig := { parameters := [], returnType := none }, accessFlags := 2, code := none }
def k1c1 : Code := { maxStack := 2, maxLocals := 16, code := code, exceptionTable := #[], attributes := #[] }
def k1m1 : Method := { name := "law", desc := "(II)Z", sig := { parameters := [.int, .int], returnType := some .boolean }, accessFlags := 9, code := some k1c1 }
/-- com/example/lean_lifecycle/leanlifecycle/ActivityManagerIsInFrontAsPostedPinLaw -/
def k1 : Class := { plain "com/example/lean_lifecycle/leanlifecycle/ActivityManagerIsInFrontAsPostedPinLaw" (some 0) with
  accessFlags := 49
  interfaces := #[]
  cf := some (fileOf pool1 33 #[] #[{ accessFlags := 2, nameIndex := 5, descriptorIndex := 6, attributes := #[] }, { accessFlags := 9, nameIndex := 37, descriptorIndex := 38, attributes := #[] }] 49 2 #[] #[])
  fields := #[]
  methods := #[k1m0, k1m1]
  instanceTypes := #[]
  staticTypes := #[]
  resolved := Array.replicate 42 none
  statics := none }

def pool2 : Array CpInfo := pool [(1, .class_ 2), (0, u "java/lang/Math"), (1, .class_ 6), (1, u "java/lang/Object"), (0, u "<init>"), (0, u "()V"), (89, .class_ 100), (1, u "java/lang/Math$RandomNumberGeneratorHolder"), (71, u "negativeZeroFloatBits"), (0, u "J"), (2, u "negativeZeroDoubleBits"), (24, u "min"), (43, u "$assertionsDisabled"), (0, u "Z"), (88, u "(II)I"), (2, u "twoToTheDoubleScaleDown"), (0, u "D"), (4, u "twoToTheDoubleScaleUp"), (9, u "E"), (3, u "PI"), (2, u "TAU"), (2, u "DEGREES_TO_RADIANS"), (0, u "RADIANS_TO_DEGREES")] 94

def k2m0 : Method := { name := "<init>", desc := "()V", sig := { parameters := [], returnType := none }, accessFlags := 2, code := none }
def k2c1 : Code := { maxStack := 2, maxLocals := 2, code := jdk_29_method_69_code, exceptionTable := #[], attributes := #[] }
def k2m1 : Method := { name := "min", desc := "(II)I", sig := { parameters := [.int, .int], returnType := some .int }, accessFlags := 9, code := some k2c1 }
/-- java/lang/Math -/
def k2 : Class := { plain "java/lang/Math" (some 0) with
  accessFlags := 49
  interfaces := #[]
  cf := some (fileOf pool2 1 #[.nestMembers #[98]] #[{ accessFlags := 2, nameIndex := 7, descriptorIndex := 8, attributes := #[] }, { accessFlags := 9, nameIndex := 201, descriptorIndex := 335, attributes := #[] }] 49 4 #[] #[{ accessFlags := 25, nameIndex := 354, descriptorIndex := 339, attributes := #[] }, { accessFlags := 25, nameIndex := 358, descriptorIndex := 339, attributes := #[] }, { accessFlags := 25, nameIndex := 361, descriptorIndex := 339, attributes := #[] }, { accessFlags := 26, nameIndex := 364, descriptorIndex := 339, attributes := #[] }, { accessFlags := 26, nameIndex := 365, descriptorIndex := 339, attributes := #[] }, { accessFlags := 26, nameIndex := 172, descriptorIndex := 173, attributes := #[] }, { accessFlags := 26, nameIndex := 176, descriptorIndex := 173, attributes := #[] }, { accessFlags := 8, nameIndex := 344, descriptorIndex := 339, attributes := #[] }, { accessFlags := 8, nameIndex := 338, descriptorIndex := 339, attributes := #[] }, { accessFlags := 4120, nameIndex := 245, descriptorIndex := 246, attributes := #[] }])
  fields := #[{ name := "E", type := .double, accessFlags := 25, slot := 0, constantValue := 0 }, { name := "PI", type := .double, accessFlags := 25, slot := 1, constantValue := 0 }, { name := "TAU", type := .double, accessFlags := 25, slot := 2, constantValue := 0 }, { name := "DEGREES_TO_RADIANS", type := .double, accessFlags := 26, slot := 3, constantValue := 0 }, { name := "RADIANS_TO_DEGREES", type := .double, accessFlags := 26, slot := 4, constantValue := 0 }, { name := "negativeZeroFloatBits", type := .long, accessFlags := 26, slot := 5, constantValue := 0 }, { name := "negativeZeroDoubleBits", type := .long, accessFlags := 26, slot := 6, constantValue := 0 }, { name := "twoToTheDoubleScaleUp", type := .double, accessFlags := 8, slot := 7, constantValue := 0 }, { name := "twoToTheDoubleScaleDown", type := .double, accessFlags := 8, slot := 8, constantValue := 0 }, { name := "$assertionsDisabled", type := .boolean, accessFlags := 4120, slot := 9, constantValue := 0 }]
  methods := #[k2m0, k2m1]
  instanceTypes := #[]
  staticTypes := #[.double, .double, .double, .double, .double, .long, .long, .double, .double, .boolean]
  resolved := Array.replicate 460 none
  statics := none }

def pool3 : Array CpInfo := pool [(1, .methodref 2 3), (0, .class_ 4), (0, .nameAndType 5 6), (0, u "java/lang/Object"), (0, u "<init>"), (0, u "()V"), (0, .class_ 8), (0, u "java/util/ArrayList"), (0, .methodref 7 3), (0, .fieldref 11 12), (0, .class_ 13), (0, .nameAndType 14 15), (0, u "com/example/lean_lifecycle/leanlifecycle/ActivityManager"), (0, u "task"), (0, u "Ljava/util/List;"), (0, .class_ 17), (0, u "java/util/HashMap"), (0, .methodref 16 3), (0, .fieldref 11 20), (0, .nameAndType 21 22), (0, u "entries"), (0, u "Ljava/util/Map;"), (0, .fieldref 11 24), (0, .nameAndType 25 22), (0, u "toFinish"), (0, .fieldref 11 27), (0, .nameAndType 28 29), (0, u "inFront"), (0, u "Z"), (18, u "()Z"), (216, .fieldref 11 266), (0, .nameAndType 267 268), (0, u "frontMovesPosted"), (0, u "I"), (0, .fieldref 11 270), (0, .nameAndType 271 29), (0, u "inFrontAsPosted"), (36, u "isInFront"), (0, u "setInFront"), (0, u "(Z)V"), (0, u "isInFrontAsPosted"), (0, u "postFrontMove"), (0, u "endFrontMove")] 39

def k3c0 : Code := { maxStack := 3, maxLocals := 1, code := prog_4_method_1_code, exceptionTable := #[], attributes := #[] }
def k3m0 : Method := { name := "<init>", desc := "()V", sig := { parameters := [], returnType := none }, accessFlags := 0, code := some k3c0 }
def k3c1 : Code := { maxStack := 1, maxLocals := 1, code := prog_4_method_35_code, exceptionTable := #[], attributes := #[] }
def k3m1 : Method := { name := "isInFront", desc := "()Z", sig := { parameters := [], returnType := some .boolean }, accessFlags := 0, code := some k3c1 }
def k3c2 : Code := { maxStack := 2, maxLocals := 2, code := prog_4_method_36_code, exceptionTable := #[], attributes := #[] }
def k3m2 : Method := { name := "setInFront", desc := "(Z)V", sig := { parameters := [.boolean], returnType := none }, accessFlags := 0, code := some k3c2 }
def k3c3 : Code := { maxStack := 1, maxLocals := 1, code := prog_4_method_37_code, exceptionTable := #[], attributes := #[] }
def k3m3 : Method := { name := "isInFrontAsPosted", desc := "()Z", sig := { parameters := [], returnType := some .boolean }, accessFlags := 0, code := some k3c3 }
def k3c4 : Code := { maxStack := 3, maxLocals := 2, code := prog_4_method_38_code, exceptionTable := #[], attributes := #[] }
def k3m4 : Method := { name := "postFrontMove", desc := "(Z)V", sig := { parameters := [.boolean], returnType := none }, accessFlags := 0, code := some k3c4 }
def k3c5 : Code := { maxStack := 3, maxLocals := 1, code := prog_4_method_39_code, exceptionTable := #[], attributes := #[] }
def k3m5 : Method := { name := "endFrontMove", desc := "()V", sig := { parameters := [], returnType := none }, accessFlags := 0, code := some k3c5 }
/-- com/example/lean_lifecycle/leanlifecycle/ActivityManager -/
def k3 : Class := { plain "com/example/lean_lifecycle/leanlifecycle/ActivityManager" (some 0) with
  accessFlags := 33
  interfaces := #[]
  cf := some (fileOf pool3 11 #[] #[{ accessFlags := 0, nameIndex := 5, descriptorIndex := 6, attributes := #[] }, { accessFlags := 0, nameIndex := 308, descriptorIndex := 48, attributes := #[] }, { accessFlags := 0, nameIndex := 309, descriptorIndex := 310, attributes := #[] }, { accessFlags := 0, nameIndex := 311, descriptorIndex := 48, attributes := #[] }, { accessFlags := 0, nameIndex := 312, descriptorIndex := 310, attributes := #[] }, { accessFlags := 0, nameIndex := 313, descriptorIndex := 6, attributes := #[] }] 33 2 #[] #[{ accessFlags := 18, nameIndex := 14, descriptorIndex := 15, attributes := #[] }, { accessFlags := 18, nameIndex := 21, descriptorIndex := 22, attributes := #[] }, { accessFlags := 18, nameIndex := 25, descriptorIndex := 22, attributes := #[] }, { accessFlags := 2, nameIndex := 28, descriptorIndex := 29, attributes := #[] }, { accessFlags := 2, nameIndex := 267, descriptorIndex := 268, attributes := #[] }, { accessFlags := 2, nameIndex := 271, descriptorIndex := 29, attributes := #[] }])
  fields := #[{ name := "task", type := (.object "java/util/List"), accessFlags := 18, slot := 0, constantValue := 0 }, { name := "entries", type := (.object "java/util/Map"), accessFlags := 18, slot := 1, constantValue := 0 }, { name := "toFinish", type := (.object "java/util/Map"), accessFlags := 18, slot := 2, constantValue := 0 }, { name := "inFront", type := .boolean, accessFlags := 2, slot := 3, constantValue := 0 }, { name := "frontMovesPosted", type := .int, accessFlags := 2, slot := 4, constantValue := 0 }, { name := "inFrontAsPosted", type := .boolean, accessFlags := 2, slot := 5, constantValue := 0 }]
  methods := #[k3m0, k3m1, k3m2, k3m3, k3m4, k3m5]
  instanceTypes := #[(.object "java/util/List"), (.object "java/util/Map"), (.object "java/util/Map"), .boolean, .int, .boolean]
  staticTypes := #[]
  resolved := Array.replicate 353 none
  statics := none }

def pool4 : Array CpInfo := pool [(8, .class_ 10), (1, u "java/lang/Iterable"), (24, .class_ 36), (0, u "java/lang/Object")] 25

/-- java/lang/Iterable -/
def k4 : Class := { plain "java/lang/Iterable" (some 0) with
  accessFlags := 1537
  interfaces := #[]
  cf := some (fileOf pool4 8 #[] #[] 1537 35 #[] #[])
  fields := #[]
  methods := #[]
  instanceTypes := #[]
  staticTypes := #[]
  resolved := Array.replicate 62 none
  statics := none }

def pool5 : Array CpInfo := pool [(10, .class_ 12), (1, u "java/util/Collection"), (47, .class_ 61), (0, u "java/lang/Object"), (0, .class_ 63), (0, u "java/lang/Iterable")] 51

/-- java/util/Collection -/
def k5 : Class := { plain "java/util/Collection" (some 0) with
  accessFlags := 1537
  interfaces := #[4]
  cf := some (fileOf pool5 10 #[] #[] 1537 60 #[62] #[])
  fields := #[]
  methods := #[]
  instanceTypes := #[]
  staticTypes := #[]
  resolved := Array.replicate 115 none
  statics := none }

def pool6 : Array CpInfo := pool [(1, .methodref 2 3), (0, .class_ 4), (0, .nameAndType 5 6), (0, u "java/lang/Object"), (0, u "<init>"), (0, u "()V"), (1, .class_ 10), (1, u "java/util/AbstractCollection"), (66, .class_ 78), (0, u "java/util/Collection")] 81

def k6c0 : Code := { maxStack := 1, maxLocals := 1, code := jdk_22_method_1_code, exceptionTable := #[], attributes := #[] }
def k6m0 : Method := { name := "<init>", desc := "()V", sig := { parameters := [], returnType := none }, accessFlags := 4, code := some k6c0 }
/-- java/util/AbstractCollection -/
def k6 : Class := { plain "java/util/AbstractCollection" (some 0) with
  accessFlags := 1057
  interfaces := #[5]
  cf := some (fileOf pool6 8 #[] #[{ accessFlags := 4, nameIndex := 5, descriptorIndex := 6, attributes := #[] }] 1057 2 #[77] #[])
  fields := #[]
  methods := #[k6m0]
  instanceTypes := #[]
  staticTypes := #[]
  resolved := Array.replicate 160 none
  statics := none }

def pool7 : Array CpInfo := pool [(8, .class_ 10), (1, u "java/util/SequencedCollection"), (15, .class_ 27), (0, u "java/lang/Object"), (0, .class_ 29), (0, u "java/util/Collection")] 27

/-- java/util/SequencedCollection -/
def k7 : Class := { plain "java/util/SequencedCollection" (some 0) with
  accessFlags := 1537
  interfaces := #[5]
  cf := some (fileOf pool7 8 #[] #[] 1537 26 #[28] #[])
  fields := #[]
  methods := #[]
  instanceTypes := #[]
  staticTypes := #[]
  resolved := Array.replicate 57 none
  statics := none }

def pool8 : Array CpInfo := pool [(8, .class_ 10), (1, u "java/util/List"), (92, .class_ 104), (0, u "java/lang/Object"), (15, .class_ 121), (0, u "java/util/SequencedCollection")] 129

/-- java/util/List -/
def k8 : Class := { plain "java/util/List" (some 0) with
  accessFlags := 1537
  interfaces := #[7]
  cf := some (fileOf pool8 8 #[] #[] 1537 103 #[120] #[])
  fields := #[]
  methods := #[]
  instanceTypes := #[]
  staticTypes := #[]
  resolved := Array.replicate 251 none
  statics := none }

def pool9 : Array CpInfo := pool [(1, .methodref 2 3), (0, .class_ 4), (0, .nameAndType 5 6), (0, u "java/util/AbstractCollection"), (0, u "<init>"), (0, u "()V"), (0, .fieldref 8 9), (0, .class_ 10), (0, .nameAndType 11 12), (0, u "java/util/AbstractList"), (0, u "modCount"), (0, u "I"), (64, .class_ 78), (0, u "java/util/AbstractList$Itr"), (3, .class_ 83), (0, u "java/util/AbstractList$ListItr"), (9, .class_ 94), (0, u "java/util/AbstractList$RandomAccessSubList"), (3, .class_ 99), (0, u "java/util/AbstractList$SubList"), (33, .class_ 134), (0, u "java/util/List"), (73, .class_ 209), (0, u "java/util/AbstractList$SubList$1"), (0, .class_ 211), (0, u "java/util/AbstractList$RandomAccessSpliterator")] 6

def k9c0 : Code := { maxStack := 2, maxLocals := 1, code := jdk_39_method_1_code, exceptionTable := #[], attributes := #[] }
def k9m0 : Method := { name := "<init>", desc := "()V", sig := { parameters := [], returnType := none }, accessFlags := 4, code := some k9c0 }
/-- java/util/AbstractList -/
def k9 : Class := { plain "java/util/AbstractList" (some 6) with
  accessFlags := 1057
  interfaces := #[8]
  cf := some (fileOf pool9 8 #[.nestMembers #[93, 98, 208, 210, 82, 77]] #[{ accessFlags := 4, nameIndex := 5, descriptorIndex := 6, attributes := #[] }] 1057 2 #[133] #[{ accessFlags := 132, nameIndex := 11, descriptorIndex := 12, attributes := #[] }])
  fields := #[{ name := "modCount", type := .int, accessFlags := 132, slot := 0, constantValue := 0 }]
  methods := #[k9m0]
  instanceTypes := #[.int]
  staticTypes := #[]
  resolved := Array.replicate 218 none
  statics := none }

def pool10 : Array CpInfo := pool [(1, .class_ 2), (0, u "java/util/RandomAccess"), (0, .class_ 4), (0, u "java/lang/Object")] 2

/-- java/util/RandomAccess -/
def k10 : Class := { plain "java/util/RandomAccess" (some 0) with
  accessFlags := 1537
  interfaces := #[]
  cf := some (fileOf pool10 1 #[] #[] 1537 3 #[] #[])
  fields := #[]
  methods := #[]
  instanceTypes := #[]
  staticTypes := #[]
  resolved := Array.replicate 7 none
  statics := none }

def pool11 : Array CpInfo := pool [(1, .class_ 2), (0, u "java/lang/Cloneable"), (0, .class_ 4), (0, u "java/lang/Object")] 2

/-- java/lang/Cloneable -/
def k11 : Class := { plain "java/lang/Cloneable" (some 0) with
  accessFlags := 1537
  interfaces := #[]
  cf := some (fileOf pool11 1 #[] #[] 1537 3 #[] #[])
  fields := #[]
  methods := #[]
  instanceTypes := #[]
  staticTypes := #[]
  resolved := Array.replicate 7 none
  statics := none }

def pool12 : Array CpInfo := pool [(1, .class_ 2), (0, u "java/io/Serializable"), (0, .class_ 4), (0, u "java/lang/Object")] 2

/-- java/io/Serializable -/
def k12 : Class := { plain "java/io/Serializable" (some 0) with
  accessFlags := 1537
  interfaces := #[]
  cf := some (fileOf pool12 1 #[] #[] 1537 3 #[] #[])
  fields := #[]
  methods := #[]
  instanceTypes := #[]
  staticTypes := #[]
  resolved := Array.replicate 7 none
  statics := none }

def pool13 : Array CpInfo := pool [(1, .methodref 2 3), (0, .class_ 4), (0, .nameAndType 5 6), (0, u "java/util/AbstractList"), (0, u "<init>"), (0, u "()V"), (2, .fieldref 10 11), (0, .class_ 12), (0, .nameAndType 13 14), (0, u "java/util/ArrayList"), (0, u "elementData"), (0, u "[Ljava/lang/Object;"), (2, u "EMPTY_ELEMENTDATA"), (21, .fieldref 10 40), (0, .nameAndType 41 14), (0, u "DEFAULTCAPACITY_EMPTY_ELEMENTDATA"), (8, u "size"), (0, u "I"), (96, .class_ 149), (0, u "java/util/List"), (112, .class_ 263), (0, u "java/util/ArrayList$ListItr"), (3, .class_ 268), (0, u "java/util/ArrayList$Itr"), (7, .class_ 277), (0, u "java/util/ArrayList$SubList"), (12, .class_ 291), (0, u "java/util/ArrayList$ArrayListSpliterator"), (37, .class_ 330), (0, u "java/util/RandomAccess"), (0, .class_ 332), (0, u "java/lang/Cloneable"), (0, .class_ 334), (0, u "java/io/Serializable"), (0, u "serialVersionUID"), (0, u "J"), (3, u "DEFAULT_CAPACITY"), (159, .class_ 501), (0, u "java/util/ArrayList$SubList$2"), (0, .class_ 503), (0, u "java/util/ArrayList$SubList$1")] 5

def k13c0 : Code := { maxStack := 2, maxLocals := 1, code := jdk_38_method_2_code, exceptionTable := #[], attributes := #[] }
def k13m0 : Method := { name := "<init>", desc := "()V", sig := { parameters := [], returnType := none }, accessFlags := 1, code := some k13c0 }
/-- java/util/ArrayList -/
def k13 : Class := { plain "java/util/ArrayList" (some 9) with
  accessFlags := 33
  interfaces := #[8, 10, 11, 12]
  cf := some (fileOf pool13 10 #[.nestMembers #[290, 276, 500, 502, 262, 267]] #[{ accessFlags := 1, nameIndex := 5, descriptorIndex := 6, attributes := #[] }] 33 2 #[148, 329, 331, 333] #[{ accessFlags := 26, nameIndex := 335, descriptorIndex := 336, attributes := #[] }, { accessFlags := 26, nameIndex := 340, descriptorIndex := 51, attributes := #[] }, { accessFlags := 26, nameIndex := 17, descriptorIndex := 14, attributes := #[] }, { accessFlags := 26, nameIndex := 41, descriptorIndex := 14, attributes := #[] }, { accessFlags := 128, nameIndex := 13, descriptorIndex := 14, attributes := #[] }, { accessFlags := 2, nameIndex := 50, descriptorIndex := 51, attributes := #[] }])
  fields := #[{ name := "serialVersionUID", type := .long, accessFlags := 26, slot := 0, constantValue := 0 }, { name := "DEFAULT_CAPACITY", type := .int, accessFlags := 26, slot := 1, constantValue := 0 }, { name := "EMPTY_ELEMENTDATA", type := (.array (.object "java/lang/Object")), accessFlags := 26, slot := 2, constantValue := 0 }, { name := "DEFAULTCAPACITY_EMPTY_ELEMENTDATA", type := (.array (.object "java/lang/Object")), accessFlags := 26, slot := 3, constantValue := 0 }, { name := "elementData", type := (.array (.object "java/lang/Object")), accessFlags := 128, slot := 1, constantValue := 0 }, { name := "size", type := .int, accessFlags := 2, slot := 2, constantValue := 0 }]
  methods := #[k13m0]
  instanceTypes := #[.int, (.array (.object "java/lang/Object")), .int]
  staticTypes := #[.long, .int, (.array (.object "java/lang/Object")), (.array (.object "java/lang/Object"))]
  resolved := Array.replicate 509 none
  statics := some 0 }

def pool14 : Array CpInfo := pool [(2, .class_ 4), (1, u "java/util/Map"), (31, .class_ 37), (0, u "java/util/Map$Entry"), (55, .class_ 94), (0, u "java/lang/Object")] 168

/-- java/util/Map -/
def k14 : Class := { plain "java/util/Map" (some 0) with
  accessFlags := 1537
  interfaces := #[]
  cf := some (fileOf pool14 2 #[.nestMembers #[36]] #[] 1537 93 #[] #[])
  fields := #[]
  methods := #[]
  instanceTypes := #[]
  staticTypes := #[]
  resolved := Array.replicate 263 none
  statics := none }

def pool15 : Array CpInfo := pool [(1, .methodref 2 3), (0, .class_ 4), (0, .nameAndType 5 6), (0, u "java/lang/Object"), (0, u "<init>"), (0, u "()V"), (1, .class_ 10), (1, u "java/util/AbstractMap"), (42, .class_ 54), (0, u "java/util/Map"), (9, u "keySet"), (0, u "Ljava/util/Set;"), (0, .class_ 67), (0, u "java/util/AbstractMap$1"), (5, u "values"), (0, u "Ljava/util/Collection;"), (0, .class_ 76), (0, u "java/util/AbstractMap$2"), (104, .class_ 182), (0, u "java/util/AbstractMap$ViewCollection"), (0, .class_ 184), (0, u "java/util/AbstractMap$SimpleImmutableEntry"), (0, .class_ 186), (0, u "java/util/AbstractMap$SimpleEntry"), (0, .class_ 188), (0, u "java/util/AbstractMap$2$1"), (0, .class_ 190), (0, u "java/util/AbstractMap$1$1")] 5

def k15c0 : Code := { maxStack := 1, maxLocals := 1, code := jdk_71_method_1_code, exceptionTable := #[], attributes := #[] }
def k15m0 : Method := { name := "<init>", desc := "()V", sig := { parameters := [], returnType := none }, accessFlags := 4, code := some k15c0 }
/-- java/util/AbstractMap -/
def k15 : Class := { plain "java/util/AbstractMap" (some 0) with
  accessFlags := 1057
  interfaces := #[14]
  cf := some (fileOf pool15 8 #[.nestMembers #[181, 183, 185, 75, 187, 66, 189]] #[{ accessFlags := 4, nameIndex := 5, descriptorIndex := 6, attributes := #[] }] 1057 2 #[53] #[{ accessFlags := 128, nameIndex := 64, descriptorIndex := 65, attributes := #[] }, { accessFlags := 128, nameIndex := 73, descriptorIndex := 74, attributes := #[] }])
  fields := #[{ name := "keySet", type := (.object "java/util/Set"), accessFlags := 128, slot := 0, constantValue := 0 }, { name := "values", type := (.object "java/util/Collection"), accessFlags := 128, slot := 1, constantValue := 0 }]
  methods := #[k15m0]
  instanceTypes := #[(.object "java/util/Set"), (.object "java/util/Collection")]
  staticTypes := #[]
  resolved := Array.replicate 196 none
  statics := none }

def pool16 : Array CpInfo := pool [(40, .class_ 41), (0, u "java/util/HashMap"), (1, .methodref 44 45), (0, .class_ 46), (0, .nameAndType 47 48), (0, u "java/util/AbstractMap"), (0, u "<init>"), (0, u "()V"), (32, .fieldref 40 82), (0, .nameAndType 83 84), (0, u "loadFactor"), (0, u "F"), (5, u "threshold"), (0, u "I"), (0, .float 1061158912), (8, .class_ 103), (1, u "java/util/Map"), (0, u "size"), (2, u "table"), (0, u "[Ljava/util/HashMap$Node;"), (14, u "entrySet"), (39, .class_ 165), (1, u "java/util/HashMap$Node"), (14, .class_ 181), (0, u "java/util/HashMap$TreeNode"), (22, u "modCount"), (37, u "Ljava/util/Set;"), (0, .class_ 244), (0, u "java/util/HashMap$KeySet"), (18, .class_ 264), (0, u "java/util/HashMap$Values"), (3, .class_ 269), (0, u "java/util/HashMap$EntrySet"), (76, .class_ 348), (1, u "java/util/HashMap$UnsafeHolder"), (43, .class_ 393), (0, u "java/lang/Cloneable"), (0, .class_ 395), (0, u "java/io/Serializable"), (0, u "serialVersionUID"), (0, u "J"), (3, u "DEFAULT_INITIAL_CAPACITY"), (1, u "MAXIMUM_CAPACITY"), (0, u "DEFAULT_LOAD_FACTOR"), (0, u "TREEIFY_THRESHOLD"), (1, u "UNTREEIFY_THRESHOLD"), (1, u "MIN_TREEIFY_CAPACITY"), (186, .class_ 597), (0, u "java/util/HashMap$EntrySpliterator"), (0, .class_ 599), (0, u "java/util/HashMap$ValueSpliterator"), (0, .class_ 601), (0, u "java/util/HashMap$KeySpliterator"), (0, .class_ 603), (0, u "java/util/HashMap$HashMapSpliterator"), (0, .class_ 605), (0, u "java/util/HashMap$EntryIterator"), (0, .class_ 607), (0, u "java/util/HashMap$ValueIterator"), (0, .class_ 609), (0, u "java/util/HashMap$KeyIterator"), (0, .class_ 611), (0, u "java/util/HashMap$HashIterator")] 17

def k16c0 : Code := { maxStack := 2, maxLocals := 1, code := jdk_69_method_7_code, exceptionTable := #[], attributes := #[] }
def k16m0 : Method := { name := "<init>", desc := "()V", sig := { parameters := [], returnType := none }, accessFlags := 1, code := some k16c0 }
/-- java/util/HashMap -/
def k16 : Class := { plain "java/util/HashMap" (some 15) with
  accessFlags := 33
  interfaces := #[14, 11, 12]
  cf := some (fileOf pool16 40 #[.nestMembers #[180, 596, 598, 600, 602, 604, 606, 608, 610, 346, 268, 263, 243, 163]] #[{ accessFlags := 1, nameIndex := 47, descriptorIndex := 48, attributes := #[] }] 33 44 #[101, 392, 394] #[{ accessFlags := 26, nameIndex := 396, descriptorIndex := 397, attributes := #[] }, { accessFlags := 24, nameIndex := 401, descriptorIndex := 91, attributes := #[] }, { accessFlags := 24, nameIndex := 403, descriptorIndex := 91, attributes := #[] }, { accessFlags := 24, nameIndex := 404, descriptorIndex := 84, attributes := #[] }, { accessFlags := 24, nameIndex := 405, descriptorIndex := 91, attributes := #[] }, { accessFlags := 24, nameIndex := 407, descriptorIndex := 91, attributes := #[] }, { accessFlags := 24, nameIndex := 409, descriptorIndex := 91, attributes := #[] }, { accessFlags := 128, nameIndex := 107, descriptorIndex := 108, attributes := #[] }, { accessFlags := 128, nameIndex := 123, descriptorIndex := 242, attributes := #[] }, { accessFlags := 128, nameIndex := 104, descriptorIndex := 91, attributes := #[] }, { accessFlags := 128, nameIndex := 204, descriptorIndex := 91, attributes := #[] }, { accessFlags := 0, nameIndex := 90, descriptorIndex := 91, attributes := #[] }, { accessFlags := 16, nameIndex := 83, descriptorIndex := 84, attributes := #[] }])
  fields := #[{ name := "serialVersionUID", type := .long, accessFlags := 26, slot := 0, constantValue := 0 }, { name := "DEFAULT_INITIAL_CAPACITY", type := .int, accessFlags := 24, slot := 1, constantValue := 0 }, { name := "MAXIMUM_CAPACITY", type := .int, accessFlags := 24, slot := 2, constantValue := 0 }, { name := "DEFAULT_LOAD_FACTOR", type := .float, accessFlags := 24, slot := 3, constantValue := 0 }, { name := "TREEIFY_THRESHOLD", type := .int, accessFlags := 24, slot := 4, constantValue := 0 }, { name := "UNTREEIFY_THRESHOLD", type := .int, accessFlags := 24, slot := 5, constantValue := 0 }, { name := "MIN_TREEIFY_CAPACITY", type := .int, accessFlags := 24, slot := 6, constantValue := 0 }, { name := "table", type := (.array (.object "java/util/HashMap$Node")), accessFlags := 128, slot := 2, constantValue := 0 }, { name := "entrySet", type := (.object "java/util/Set"), accessFlags := 128, slot := 3, constantValue := 0 }, { name := "size", type := .int, accessFlags := 128, slot := 4, constantValue := 0 }, { name := "modCount", type := .int, accessFlags := 128, slot := 5, constantValue := 0 }, { name := "threshold", type := .int, accessFlags := 0, slot := 6, constantValue := 0 }, { name := "loadFactor", type := .float, accessFlags := 16, slot := 7, constantValue := 0 }]
  methods := #[k16m0]
  instanceTypes := #[(.object "java/util/Set"), (.object "java/util/Collection"), (.array (.object "java/util/HashMap$Node")), (.object "java/util/Set"), .int, .int, .int, .float]
  staticTypes := #[.long, .int, .int, .float, .int, .int, .int]
  resolved := Array.replicate 629 none
  statics := none }

/-- the primitive byte -/
def k17 : Class := { plain "byte" none with kind := .primitive 'B', accessFlags := 0x411 }
/-- [B -/
def k18 : Class := { plain "[B" (some 0) with kind := .array 17 .byte, interfaces := #[11, 12], accessFlags := 1041 }

/-- the primitive int -/
def k19 : Class := { plain "int" none with kind := .primitive 'I', accessFlags := 0x411 }
/-- [I -/
def k20 : Class := { plain "[I" (some 0) with kind := .array 19 .int, interfaces := #[11, 12], accessFlags := 1041 }

/-- [Ljava/lang/Object; -/
def k21 : Class := { plain "[Ljava/lang/Object;" (some 0) with kind := .array 0 (.object "java/lang/Object"), interfaces := #[11, 12], accessFlags := 1041 }

def heap : Heap := #[{ cls := 13, slots := #[.long 0, .int 0, .ref 1, .ref 2], vm := .statics 13 },
  { cls := 21, slots := #[], vm := .none },
  { cls := 21, slots := #[], vm := .none }]
def classes : Array Class := #[k0, k1, k2, k3, k4, k5, k6, k7, k8, k9, k10, k11, k12, k13, k14, k15, k16, k17, k18, k19, k20, k21]
def interned : List (Array UInt16 × Addr) := []
def slotsUsed : Nat := 4
def theMethod : MethodId := ⟨1, 1⟩
def args0 : Array Value := #[.int 1, .int 5]
def aboutOver (below : List Frame) : State where
  vm := { classes := classes, interned := interned.toArray }
  heap := heap
  slotsUsed := slotsUsed
  threads := #[{ frames := .invoking theMethod args0 :: below }]
def below0 : List Frame := [.native { method := ⟨0, 0⟩, args := #[] }]
def about1 : State := aboutOver below0
def p0 : Program := .bare "" "" ""
def e0 : Env := launch0.env 0 0 0
theorem w_frames : about1.frames = Frame.invoking theMethod args0 :: below0 := rfl
set_option maxRecDepth 65536 in
theorem w_args : argsFit about1.vm theMethod args0 = true := by decide +kernel
set_option maxRecDepth 65536 in
theorem w_heap : heapFits about1 = true := by decide +kernel
set_option maxRecDepth 65536 in
theorem w_runnable : about1.curStatus? = some .runnable := by decide +kernel
set_option maxRecDepth 65536 in
theorem w_alone : about1.alone = true := by decide +kernel
set_option maxRecDepth 65536 in
theorem w_named : about1.methodNamed? x = some theMethod := by decide +kernel
set_option maxRecDepth 65536 in
theorem w_hears : about1.hears theMethod below0 = true := by decide +kernel
set_option maxRecDepth 65536 in
theorem w_ripe : about1.ripe theMethod args0 below0 = true := by decide +kernel
theorem w_running : about1.status = .running := rfl
set_option maxRecDepth 65536 in
theorem w_room : about1.hasRoom e0.platform room_1 = true :=
  launch0.hasRoom_least _ room_1 (by decide +kernel) (by decide +kernel) (by decide +kernel) (by decide +kernel) (by decide +kernel) (by decide +kernel)
theorem allAtoms_all (ts : List Jvm.Cond) (a : Array Jvm.Value) (st : Jvm.State) : (allAtoms ts).before a st = ts.all (fun c => c.before a st) := by
  induction ts with
  | nil => rfl
  | cons c t ih =>
    show (Jvm.Cond.and c (allAtoms t)).before a st = _
    rw [Jvm.Cond.before_and, ih, List.all_cons]
def words1 : List Jvm.Cond := Jvm.Cond.code x code maxLocals ret :: tables_1
/-- a 'code' word, met by the world's own term for the bytes: nothing is compared byte by byte -/
theorem code_word {y : MethodName} {bytes : ByteArray} {mx : Nat} {rt : Option FieldType} {a : Array Value} {s : State} {m : MethodId} {meth : Method} {c : Code} (h1 : s.methodNamed? y = some m) (h2 : s.vm.method? m = some meth) (h3 : meth.code = some c) (h4 : c.code = bytes)
    (h5 : (c.maxLocals == mx && c.exceptionTable.isEmpty && decide (c.maxStack ≤ mostOperands) && decide (meth.sig.returnType = rt) && !meth.locks && decide (parseMethodDescriptor y.desc = some meth.sig)) = true) : (Jvm.Cond.code y bytes mx rt).before a s = true := by
  simp only [Bool.and_eq_true, beq_iff_eq, Bool.not_eq_true', decide_eq_true_eq] at h5
  obtain ⟨⟨⟨⟨⟨g1, g2⟩, g3⟩, g4⟩, g5⟩, g6⟩ := h5
  simp [Cond.before, Cond.holds, Cond.value, h1, h2, h3, h4, g1, g2, g3, g4, g5, g6]
def isCode : Jvm.Cond → Bool
  | .code _ _ _ _ => true
  | _ => false
theorem all_split {L : List Jvm.Cond} {P : Jvm.Cond → Bool} (h1 : L.all (fun c => isCode c || P c) = true) (h2 : ∀ c ∈ L.filter isCode, P c = true) : L.all P = true := by
  refine List.all_eq_true.mpr fun c hc => ?_
  have h := List.all_eq_true.mp h1 c hc
  rcases Bool.eq_false_or_eq_true (isCode c) with hi | hi
  · exact h2 c (List.mem_filter.mpr ⟨hc, hi⟩)
  · simpa [hi] using h
set_option maxRecDepth 65536 in
theorem w_c0 : (Jvm.Cond.code x code maxLocals ret).before args0 about1 = true := code_word (m := ⟨1, 1⟩) (meth := k1m1) (c := k1c1) (by decide +kernel) rfl rfl rfl (by decide +kernel)
set_option maxRecDepth 65536 in
theorem w_c1 : (Jvm.Cond.code ({ cls := "java/lang/Math", name := "min", desc := "(II)I" } : Jvm.MethodName) jdk_29_method_69_code (2 : Nat) (Option.some Jvm.ClassFile.FieldType.int)).before args0 about1 = true := code_word (m := ⟨2, 1⟩) (meth := k2m1) (c := k2c1) (by decide +kernel) rfl rfl rfl (by decide +kernel)
set_option maxRecDepth 65536 in
theorem w_c2 : (Jvm.Cond.code ({ cls := "com/example/lean_lifecycle/leanlifecycle/ActivityManager", name := "<init>", desc := "()V" } : Jvm.MethodName) prog_4_method_1_code (1 : Nat) (Option.none : Option Jvm.ClassFile.FieldType)).before args0 about1 = true := code_word (m := ⟨3, 0⟩) (meth := k3m0) (c := k3c0) (by decide +kernel) rfl rfl rfl (by decide +kernel)
set_option maxRecDepth 65536 in
theorem w_c3 : (Jvm.Cond.code ({ cls := "java/lang/Object", name := "<init>", desc := "()V" } : Jvm.MethodName) object_method_1_code (1 : Nat) (Option.none : Option Jvm.ClassFile.FieldType)).before args0 about1 = true := code_word (m := ⟨0, 0⟩) (meth := k0m0) (c := k0c0) (by decide +kernel) rfl rfl rfl (by decide +kernel)
set_option maxRecDepth 65536 in
theorem w_c4 : (Jvm.Cond.code ({ cls := "java/util/ArrayList", name := "<init>", desc := "()V" } : Jvm.MethodName) jdk_38_method_2_code (1 : Nat) (Option.none : Option Jvm.ClassFile.FieldType)).before args0 about1 = true := code_word (m := ⟨13, 0⟩) (meth := k13m0) (c := k13c0) (by decide +kernel) rfl rfl rfl (by decide +kernel)
set_option maxRecDepth 65536 in
theorem w_c5 : (Jvm.Cond.code ({ cls := "java/util/AbstractList", name := "<init>", desc := "()V" } : Jvm.MethodName) jdk_39_method_1_code (1 : Nat) (Option.none : Option Jvm.ClassFile.FieldType)).before args0 about1 = true := code_word (m := ⟨9, 0⟩) (meth := k9m0) (c := k9c0) (by decide +kernel) rfl rfl rfl (by decide +kernel)
set_option maxRecDepth 65536 in
theorem w_c6 : (Jvm.Cond.code ({ cls := "java/util/AbstractCollection", name := "<init>", desc := "()V" } : Jvm.MethodName) jdk_22_method_1_code (1 : Nat) (Option.none : Option Jvm.ClassFile.FieldType)).before args0 about1 = true := code_word (m := ⟨6, 0⟩) (meth := k6m0) (c := k6c0) (by decide +kernel) rfl rfl rfl (by decide +kernel)
set_option maxRecDepth 65536 in
theorem w_c7 : (Jvm.Cond.code ({ cls := "java/util/HashMap", name := "<init>", desc := "()V" } : Jvm.MethodName) jdk_69_method_7_code (1 : Nat) (Option.none : Option Jvm.ClassFile.FieldType)).before args0 about1 = true := code_word (m := ⟨16, 0⟩) (meth := k16m0) (c := k16c0) (by decide +kernel) rfl rfl rfl (by decide +kernel)
set_option maxRecDepth 65536 in
theorem w_c8 : (Jvm.Cond.code ({ cls := "java/util/AbstractMap", name := "<init>", desc := "()V" } : Jvm.MethodName) jdk_71_method_1_code (1 : Nat) (Option.none : Option Jvm.ClassFile.FieldType)).before args0 about1 = true := code_word (m := ⟨15, 0⟩) (meth := k15m0) (c := k15c0) (by decide +kernel) rfl rfl rfl (by decide +kernel)
set_option maxRecDepth 65536 in
theorem w_c9 : (Jvm.Cond.code ({ cls := "com/example/lean_lifecycle/leanlifecycle/ActivityManager", name := "postFrontMove", desc := "(Z)V" } : Jvm.MethodName) prog_4_method_38_code (2 : Nat) (Option.none : Option Jvm.ClassFile.FieldType)).before args0 about1 = true := code_word (m := ⟨3, 4⟩) (meth := k3m4) (c := k3c4) (by decide +kernel) rfl rfl rfl (by decide +kernel)
set_option maxRecDepth 65536 in
theorem w_c10 : (Jvm.Cond.code ({ cls := "com/example/lean_lifecycle/leanlifecycle/ActivityManager", name := "isInFrontAsPosted", desc := "()Z" } : Jvm.MethodName) prog_4_method_37_code (1 : Nat) (Option.some Jvm.ClassFile.FieldType.boolean)).before args0 about1 = true := code_word (m := ⟨3, 3⟩) (meth := k3m3) (c := k3c3) (by decide +kernel) rfl rfl rfl (by decide +kernel)
set_option maxRecDepth 65536 in
theorem w_c11 : (Jvm.Cond.code ({ cls := "com/example/lean_lifecycle/leanlifecycle/ActivityManager", name := "isInFront", desc := "()Z" } : Jvm.MethodName) prog_4_method_35_code (1 : Nat) (Option.some Jvm.ClassFile.FieldType.boolean)).before args0 about1 = true := code_word (m := ⟨3, 1⟩) (meth := k3m1) (c := k3c1) (by decide +kernel) rfl rfl rfl (by decide +kernel)
set_option maxRecDepth 65536 in
theorem w_c12 : (Jvm.Cond.code ({ cls := "com/example/lean_lifecycle/leanlifecycle/ActivityManager", name := "setInFront", desc := "(Z)V" } : Jvm.MethodName) prog_4_method_36_code (2 : Nat) (Option.none : Option Jvm.ClassFile.FieldType)).before args0 about1 = true := code_word (m := ⟨3, 2⟩) (meth := k3m2) (c := k3c2) (by decide +kernel) rfl rfl rfl (by decide +kernel)
set_option maxRecDepth 65536 in
theorem w_c13 : (Jvm.Cond.code ({ cls := "com/example/lean_lifecycle/leanlifecycle/ActivityManager", name := "endFrontMove", desc := "()V" } : Jvm.MethodName) prog_4_method_39_code (1 : Nat) (Option.none : Option Jvm.ClassFile.FieldType)).before args0 about1 = true := code_word (m := ⟨3, 5⟩) (meth := k3m5) (c := k3c5) (by decide +kernel) rfl rfl rfl (by decide +kernel)
def codes1 : List Jvm.Cond := [Jvm.Cond.code x code maxLocals ret, Jvm.Cond.code ({ cls := "java/lang/Math", name := "min", desc := "(II)I" } : Jvm.MethodName) jdk_29_method_69_code (2 : Nat) (Option.some Jvm.ClassFile.FieldType.int), Jvm.Cond.code ({ cls := "com/example/lean_lifecycle/leanlifecycle/ActivityManager", name := "<init>", desc := "()V" } : Jvm.MethodName) prog_4_method_1_code (1 : Nat) (Option.none : Option Jvm.ClassFile.FieldType), Jvm.Cond.code ({ cls := "java/lang/Object", name := "<init>", desc := "()V" } : Jvm.MethodName) object_method_1_code (1 : Nat) (Option.none : Option Jvm.ClassFile.FieldType), Jvm.Cond.code ({ cls := "java/util/ArrayList", name := "<init>", desc := "()V" } : Jvm.MethodName) jdk_38_method_2_code (1 : Nat) (Option.none : Option Jvm.ClassFile.FieldType), Jvm.Cond.code ({ cls := "java/util/AbstractList", name := "<init>", desc := "()V" } : Jvm.MethodName) jdk_39_method_1_code (1 : Nat) (Option.none : Option Jvm.ClassFile.FieldType), Jvm.Cond.code ({ cls := "java/util/AbstractCollection", name := "<init>", desc := "()V" } : Jvm.MethodName) jdk_22_method_1_code (1 : Nat) (Option.none : Option Jvm.ClassFile.FieldType), Jvm.Cond.code ({ cls := "java/util/HashMap", name := "<init>", desc := "()V" } : Jvm.MethodName) jdk_69_method_7_code (1 : Nat) (Option.none : Option Jvm.ClassFile.FieldType), Jvm.Cond.code ({ cls := "java/util/AbstractMap", name := "<init>", desc := "()V" } : Jvm.MethodName) jdk_71_method_1_code (1 : Nat) (Option.none : Option Jvm.ClassFile.FieldType), Jvm.Cond.code ({ cls := "com/example/lean_lifecycle/leanlifecycle/ActivityManager", name := "postFrontMove", desc := "(Z)V" } : Jvm.MethodName) prog_4_method_38_code (2 : Nat) (Option.none : Option Jvm.ClassFile.FieldType), Jvm.Cond.code ({ cls := "com/example/lean_lifecycle/leanlifecycle/ActivityManager", name := "isInFrontAsPosted", desc := "()Z" } : Jvm.MethodName) prog_4_method_37_code (1 : Nat) (Option.some Jvm.ClassFile.FieldType.boolean), Jvm.Cond.code ({ cls := "com/example/lean_lifecycle/leanlifecycle/ActivityManager", name := "isInFront", desc := "()Z" } : Jvm.MethodName) prog_4_method_35_code (1 : Nat) (Option.some Jvm.ClassFile.FieldType.boolean), Jvm.Cond.code ({ cls := "com/example/lean_lifecycle/leanlifecycle/ActivityManager", name := "setInFront", desc := "(Z)V" } : Jvm.MethodName) prog_4_method_36_code (2 : Nat) (Option.none : Option Jvm.ClassFile.FieldType), Jvm.Cond.code ({ cls := "com/example/lean_lifecycle/leanlifecycle/ActivityManager", name := "endFrontMove", desc := "()V" } : Jvm.MethodName) prog_4_method_39_code (1 : Nat) (Option.none : Option Jvm.ClassFile.FieldType)]
set_option maxRecDepth 65536 in
theorem codes_eq : words1.filter isCode = codes1 := rfl
theorem w_codes : ∀ c ∈ words1.filter isCode, c.before args0 about1 = true := by
  rw [codes_eq]
  intro c hc
  simp only [codes1, List.mem_cons, List.not_mem_nil, or_false] at hc
  rcases hc with rfl | rfl | rfl | rfl | rfl | rfl | rfl | rfl | rfl | rfl | rfl | rfl | rfl | rfl
  · exact w_c0
  · exact w_c1
  · exact w_c2
  · exact w_c3
  · exact w_c4
  · exact w_c5
  · exact w_c6
  · exact w_c7
  · exact w_c8
  · exact w_c9
  · exact w_c10
  · exact w_c11
  · exact w_c12
  · exact w_c13
set_option maxRecDepth 65536 in
theorem w_t1 : (words1.take 24).all (fun c => isCode c || c.before args0 about1) = true := by decide +kernel
set_option maxRecDepth 65536 in
theorem w_t2 : ((words1.drop 24).take 24).all (fun c => isCode c || c.before args0 about1) = true := by decide +kernel
set_option maxRecDepth 65536 in
theorem w_t3 : (((words1.drop 24).drop 24).take 24).all (fun c => isCode c || c.before args0 about1) = true := by decide +kernel
set_option maxRecDepth 65536 in
theorem w_t4 : (((words1.drop 24).drop 24).drop 24).all (fun c => isCode c || c.before args0 about1) = true := by decide +kernel
theorem w_tables : (allAtoms (Jvm.Cond.code x code maxLocals ret :: tables_1)).before args0 about1 = true := by
  rw [allAtoms_all]
  show words1.all (fun c => c.before args0 about1) = true
  refine all_split ?_ w_codes
  rw [← List.take_append_drop 24 words1, List.all_append, w_t1, ← List.take_append_drop 24 (words1.drop 24), List.all_append, w_t2, ← List.take_append_drop 24 ((words1.drop 24).drop 24), List.all_append, w_t3, w_t4]
  rfl
set_option maxRecDepth 65536 in
theorem w_rest : rest_1_c.before args0 about1 = true := by decide +kernel
set_option maxRecDepth 65536 in
theorem w_case : (Jvm.Cond.and given_1 narrow_1).before args0 about1 = true := by decide +kernel
theorem w_applies : (headSpec (Jvm.Cond.code x code maxLocals ret :: tables_1) room_1).applies x e0.platform about1 = true :=
  (Spec.applies_iff w_frames).mpr ⟨w_running, w_runnable, w_alone, w_named, w_hears, w_ripe, w_room, w_tables⟩
theorem atStart : AtStart classFile x code maxLocals ret World_1 tables_1 room_1 Calls_1 rest_1 Pre_1 launch0 p0 e0 about1 theMethod args0 below0 :=
  ⟨lists_1, trivial, launch0.admits_env _ _ _, launch0.least_env, fairChoices_fair.cas, fairChoices_fair.clock, w_frames, w_args, w_heap, w_applies, trivial, w_rest, w_case⟩
end start1
theorem witness_1 : WitnessClaimed_1 := ⟨start1.p0, start1.e0, start1.about1, start1.theMethod, start1.args0, start1.below0, start1.atStart⟩
end Jvm.Pilot.@@N@@
