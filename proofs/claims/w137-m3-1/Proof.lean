import JvmDerived
import JvmDerived.Pilot.@@N@@Statement
import JvmDerived.Pilot.@@N@@Code
set_option linter.unusedVariables false
set_option linter.unusedSimpArgs false
namespace Jvm.RoadKit
open Sem ClassFile Op Lib Jvm.Stand Jvm.Free Jvm.LawKit
section New
variable {p : Program} {l : Launch} {e : Env} {R : Room} {s : State} {m : MethodId} {args : Array Value} {below : List Frame} {meth : Method} {c : Code} {T : State} {locs : List Loc} {cells slots : Nat}
theorem retI (X : Stand p l e R s m args below meth c T locs cells slots) (hx : p.tables.exec = Jvm.exec) {pc : Nat} {Ls : Array Slot} {z : Int32} {rest : List Value} (hret : meth.sig.returnType = some .int) (hd : decode c.code pc = .ok (.ireturn, 1)) {fs : List Frame}
    (hl : ∀ (f : JFrame) (acts : List Action), f.method = m → f.locked = none → f.entered = [] → (doReturn e (T.setTop f) acts (some (.int z))).1 = T.setFrames fs) : Steps p.tables e below (T.setTop (mkF m pc Ls (.int z :: rest))) (T.setFrames fs) := by
  have hm' : T.vm.method? m = some meth := X.method'
  have hn : narrow .int (.int z) = .int z := rfl
  show Steps p.tables e below (T.setTop { method := m, pc := pc, locals := Ls, stack := _ :: rest, locked := none }) _
  jvm_step X.here [X.here.top, hx, hd, hm', hret, hn]
  first | (intro acts; rw [hl _ acts rfl rfl rfl]) | rw [hl _ _ rfl rfl rfl]
  exact Steps.refl _
end New
end Jvm.RoadKit
namespace Jvm.Pilot.@@N@@
open Jvm Jvm.ClassFile Sem Op Lib Jvm.Free Jvm.Stand Jvm.LawKit Jvm.RoadKit Bundle Jvm.Pilot.@@N@@.Jvm.D
theorem own_sta {Z : State} {h h' : Heap} {a : Addr} {C n d C' : String} {v : Value} (F : Sta Z h C n d v) (K : Keep h h' [a]) (E : Exa Z h a C') : Sta Z h' C n d v := by
  obtain ⟨cf, i, k, f, st, cell, h1, h2, h3, h4, h5, h6, h7⟩ := F
  obtain ⟨c2, k2, e1, e2, e3, e4, e5⟩ := E
  have ne : st ≠ a := by
    intro q
    subst q
    cases h5.symm.trans e1
    rw [h6] at e4; cases e4
  exact ⟨cf, i, k, f, st, cell, h1, h2, h3, h4, K.2.1 st cell h5 (ninS ne nin0), h6, h7⟩
theorem own_01 {P : Prop} [Decidable P] {v : Int32} (h : v = if P then (0 : Int32) else (1 : Int32)) : v = 0 ∨ v = 1 := by
  split at h
  · exact Or.inl h
  · exact Or.inr h
theorem own_k (x v : Int32) (h : v = (x &&& (3 : Int32))) : v = 0 ∨ v = 1 ∨ v = 2 ∨ v = 3 := by
  have a := c_mask x 3 2 (by decide) (by decide)
  rw [← h] at a
  have : v.toInt = 0 ∨ v.toInt = 1 ∨ v.toInt = 2 ∨ v.toInt = 3 := by omega
  rcases this with q | q | q | q
  · exact Or.inl (Int32.toInt_inj.mp q)
  · exact Or.inr (Or.inl (Int32.toInt_inj.mp q))
  · exact Or.inr (Or.inr (Or.inl (Int32.toInt_inj.mp q)))
  · exact Or.inr (Or.inr (Or.inr (Int32.toInt_inj.mp q)))
theorem own_nz (x1 v4 : Int32) (hv4 : v4 = (x1 &&& (3 : Int32))) : (v4 + (1 : Int32)) ≠ (0 : Int32) := by
  rcases own_k x1 v4 hv4 with rfl | rfl | rfl | rfl <;> decide
theorem own_lt (x3 y v5 : Int32) (n : Int) (hy : y.toInt = n) (hn : 0 < n) (h : v5 = ((x3 &&& (2147483647 : Int32)) % y)) : 0 ≤ v5.toInt ∧ v5.toInt < n := by
  have a := c_mask x3 2147483647 31 (by decide) (by decide)
  have b := (c_iremV (x3 &&& 2147483647) y).1 (by omega) (by omega)
  rw [← h, hy] at b
  exact ⟨b.1, b.2.1⟩
theorem own_m (x3 v4 v5 : Int32) (k : v4 = 0 ∨ v4 = 1 ∨ v4 = 2 ∨ v4 = 3) (h : v5 = ((x3 &&& (2147483647 : Int32)) % (v4 + (1 : Int32)))) : (v4 = 0 ∧ v5 = 0) ∨ (v4 = 1 ∧ v5 = 0) ∨ (v4 = 1 ∧ v5 = 1) ∨ (v4 = 2 ∧ v5 = 0) ∨ (v4 = 2 ∧ v5 = 1) ∨ (v4 = 2 ∧ v5 = 2) ∨ (v4 = 3 ∧ v5 = 0) ∨ (v4 = 3 ∧ v5 = 1) ∨ (v4 = 3 ∧ v5 = 2) ∨ (v4 = 3 ∧ v5 = 3) := by
  have i0 : v5.toInt = 0 → v5 = 0 := fun q => Int32.toInt_inj.mp q
  have i1 : v5.toInt = 1 → v5 = 1 := fun q => Int32.toInt_inj.mp q
  have i2 : v5.toInt = 2 → v5 = 2 := fun q => Int32.toInt_inj.mp q
  have i3 : v5.toInt = 3 → v5 = 3 := fun q => Int32.toInt_inj.mp q
  rcases k with rfl | rfl | rfl | rfl
  · have b := own_lt x3 _ v5 1 (by decide) (by decide) h
    exact Or.inl ⟨rfl, i0 (by omega)⟩
  · have b := own_lt x3 _ v5 2 (by decide) (by decide) h
    have : v5.toInt = 0 ∨ v5.toInt = 1 := by omega
    rcases this with q | q
    · simp [i0 q]
    · simp [i1 q]
  · have b := own_lt x3 _ v5 3 (by decide) (by decide) h
    have : v5.toInt = 0 ∨ v5.toInt = 1 ∨ v5.toInt = 2 := by omega
    rcases this with q | q | q
    · simp [i0 q]
    · simp [i1 q]
    · simp [i2 q]
  · have b := own_lt x3 _ v5 4 (by decide) (by decide) h
    have : v5.toInt = 0 ∨ v5.toInt = 1 ∨ v5.toInt = 2 ∨ v5.toInt = 3 := by omega
    rcases this with q | q | q | q
    · simp [i0 q]
    · simp [i1 q]
    · simp [i2 q]
    · simp [i3 q]
theorem pn_0 : plainName "java/util/AbstractCollection" = true := by first | (simp [plainName, overriddenIn]; done) | decide +kernel
theorem d5_0 : decode jdk_22_method_1_code 0 = .ok (.aload_n 0, 1) := by decide +kernel
theorem d5_1 : decode jdk_22_method_1_code 1 = .ok (.invokespecial 1, 3) := by decide +kernel
theorem d5_4 : decode jdk_22_method_1_code 4 = .ok (.return_, 1) := by decide +kernel
theorem ef_5 (m : MethodId) (x0 : Addr) : entryFrame m #[(.ref x0)] 1 = mkF m 0 #[.val (.ref x0)] [] := by first | (simp [entryFrame, mkF, argsToLocals, Value.category]; done) | rfl
def Q5 (Z : State) (a : Addr) (h0 : Heap) (n0 : Nat) (v : Option Value) (h : Heap) (L : List Loc) : Prop := v = none ∧ Fr n0 L ∧ h = h0
set_option maxRecDepth 65536 in
set_option maxHeartbeats 40000000 in
theorem rm5 (l : Launch) (Z : State) (a0 : Array Value) (hw : ∀ d ∈ tables_1, d.before a0 Z = true) (ws : List Jvm.Cond) (a : Addr) (h0 : Heap) (n0 : Nat) (Z0 : n0 ≤ h0.size) :
    MetFree l (⟨"java/util/AbstractCollection", "<init>", "()V"⟩ : MethodName) (head1 (Jvm.Cond.code (⟨"java/util/AbstractCollection", "<init>", "()V"⟩ : MethodName) jdk_22_method_1_code 1 none :: ws) ({ frames := 1, cells := 0, slots := 0, locals := 12 } : Room)) (fun aa U => aa = #[(.ref a)] ∧ Z.Warmed39 U.vm ∧ U.heap = h0) (fun _ _ _ _ _ => True) (fun _ U o U' => ∃ v L, o = .returned v ∧ Q5 Z a h0 n0 v U'.heap L ∧ FrameEnd U o U' L ({ frames := 1, cells := 0, slots := 0, locals := 12 } : Room).cells ({ frames := 1, cells := 0, slots := 0, locals := 12 } : Room).slots) := by
  refine MetFree.of_bodySF (plainFor_of_name pn_0) hisR ?_
  intro p e s m args below meth c s₁ Bd hml0 hP hK
  obtain ⟨rfl, hZ, hh⟩ := hP
  have hx := Bd.exec
  have hby := Bd.bytes
  have hml : c.maxLocals = 1 := hml0
  have hown : s.vm.findClass "java/util/AbstractCollection" = some m.cls := findClass_of_methodNamed Bd.named
  have hnm := (name_of_methodNamed Bd.named Bd.method).1
  have X0 : Stand p l e ({ frames := 1, cells := 0, slots := 0, locals := 12 } : Room) s m #[(.ref a)] below meth c s₁ [] 0 0 := Stand.of_body Bd
  have e0 : s₁.heap = h0 := by rw [← hh, Bd.state]; rfl
  have N0 := Fr.nil n0
  have pre0 : ∀ t, Steps p.tables e below (s₁.setTop (mkF m 0 #[.val (.ref a)] [])) t → Steps p.tables e below (s₁.setTop (entryFrame m #[(.ref a)] 1)) t := fun t k => castTop (ef_5 m a) k
  have pre1 : ∀ t, Steps p.tables e below (s₁.setTop (mkF m 1 #[.val (.ref a)] [(.ref a)])) t → Steps p.tables e below (s₁.setTop (entryFrame m #[(.ref a)] 1)) t := fun t k => pre0 t (by
    show Steps p.tables e below (s₁.setTop (mkF m 0 #[.val (.ref a)] [])) _
    refine XS.aloadN X0.here hx rfl (hb hby d5_0) rfl rfl ?_
    show Steps p.tables e below (s₁.setTop (mkF m 1 #[.val (.ref a)] [(.ref a)])) _
    exact k)
  obtain ⟨T2, X2, e2, st2⟩ := initO X0 hx hZ hown (hw _ (List.mem_of_getElem? (i := 28) rfl)) (hw _ (List.mem_of_getElem? (i := 8) rfl)) (hw _ (List.mem_of_getElem? (i := 9) rfl)) e0 (g := (mkF m 1 #[.val (.ref a)] [(.ref a)])) rfl (by rw [hml]; rfl) rfl (hb hby d5_1) (by decide) (W := 0) (by show 2 * 0 + _ ≤ _; exact Nat.le_of_eq rfl) (by decide)
  have pre3 : ∀ t, Steps p.tables e below (T2.setTop (mkF m 4 #[.val (.ref a)] [])) t → Steps p.tables e below (s₁.setTop (entryFrame m #[(.ref a)] 1)) t := fun t k => pre1 t (st2 _ k)
  obtain ⟨fs, hr, hrun, hended, hW, hsame⟩ := X2.leave (v := none) (fun _ => rfl)
  refine ⟨_, _, pre3 _ ?_, hrun, hended, _, _, rfl, ?_, ⟨_, rfl⟩, hW, hsame.mono (by decide) (by decide)⟩
  · show Steps p.tables e below (T2.setTop (mkF m 4 #[.val (.ref a)] [])) _
    exact X2.returnOut hx Bd.returns (hb hby d5_4) hr
  · show Q5 Z a h0 n0 _ T2.heap _
    rw [e2]
    exact ⟨rfl, N0, rfl⟩
theorem pd_0 : parseMethodDescriptor "()V" = some ⟨[], none⟩ := by decide +kernel
theorem pn_1 : plainName "java/util/AbstractList" = true := by first | (simp [plainName, overriddenIn]; done) | decide +kernel
theorem d4_0 : decode jdk_39_method_1_code 0 = .ok (.aload_n 0, 1) := by decide +kernel
theorem d4_1 : decode jdk_39_method_1_code 1 = .ok (.invokespecial 1, 3) := by decide +kernel
theorem d4_4 : decode jdk_39_method_1_code 4 = .ok (.aload_n 0, 1) := by decide +kernel
theorem d4_5 : decode jdk_39_method_1_code 5 = .ok (.iconst 0, 1) := by decide +kernel
theorem d4_6 : decode jdk_39_method_1_code 6 = .ok (.putfield 7, 3) := by decide +kernel
theorem d4_9 : decode jdk_39_method_1_code 9 = .ok (.return_, 1) := by decide +kernel
theorem ef_4 (m : MethodId) (x0 : Addr) : entryFrame m #[(.ref x0)] 1 = mkF m 0 #[.val (.ref x0)] [] := by first | (simp [entryFrame, mkF, argsToLocals, Value.category]; done) | rfl
def Q4 (Z : State) (a : Addr) (h0 : Heap) (n0 : Nat) (v : Option Value) (h : Heap) (L : List Loc) : Prop := v = none ∧ Fr n0 L ∧ Keep h0 h [a] ∧ Exa Z h a "java/util/ArrayList" ∧ Fld Z h a "java/util/AbstractList" "modCount" "I" (.int (0 : Int32)) ∧ Fld Z h a "java/util/ArrayList" "elementData" "[Ljava/lang/Object;" .null
set_option maxRecDepth 65536 in
set_option maxHeartbeats 40000000 in
theorem rm4 (l : Launch) (Z : State) (a0 : Array Value) (hw : ∀ d ∈ tables_1, d.before a0 Z = true) (ws : List Jvm.Cond) (a : Addr) (h0 : Heap) (n0 : Nat) (Z0 : n0 ≤ h0.size) (Ea : Exa Z h0 a "java/util/ArrayList") (F_modCount : Fld Z h0 a "java/util/AbstractList" "modCount" "I" (.int (0 : Int32))) (F_elementData : Fld Z h0 a "java/util/ArrayList" "elementData" "[Ljava/lang/Object;" .null) (ga : n0 ≤ a) :
    MetFree l (⟨"java/util/AbstractList", "<init>", "()V"⟩ : MethodName) (head1 (Jvm.Cond.code (⟨"java/util/AbstractList", "<init>", "()V"⟩ : MethodName) jdk_39_method_1_code 1 none :: ws) ({ frames := 2, cells := 0, slots := 0, locals := 24 } : Room)) (fun aa U => aa = #[(.ref a)] ∧ Z.Warmed39 U.vm ∧ U.heap = h0) (fun _ _ _ _ _ => True) (fun _ U o U' => ∃ v L, o = .returned v ∧ Q4 Z a h0 n0 v U'.heap L ∧ FrameEnd U o U' L ({ frames := 2, cells := 0, slots := 0, locals := 24 } : Room).cells ({ frames := 2, cells := 0, slots := 0, locals := 24 } : Room).slots) := by
  refine MetFree.of_bodySF (plainFor_of_name pn_1) hisR ?_
  intro p e s m args below meth c s₁ Bd hml0 hP hK
  obtain ⟨rfl, hZ, hh⟩ := hP
  have hx := Bd.exec
  have hby := Bd.bytes
  have hml : c.maxLocals = 1 := hml0
  have hown : s.vm.findClass "java/util/AbstractList" = some m.cls := findClass_of_methodNamed Bd.named
  have hnm := (name_of_methodNamed Bd.named Bd.method).1
  have X0 : Stand p l e ({ frames := 2, cells := 0, slots := 0, locals := 24 } : Room) s m #[(.ref a)] below meth c s₁ [] 0 0 := Stand.of_body Bd
  have e0 : s₁.heap = h0 := by rw [← hh, Bd.state]; rfl
  have N0 := Fr.nil n0
  have pre0 : ∀ t, Steps p.tables e below (s₁.setTop (mkF m 0 #[.val (.ref a)] [])) t → Steps p.tables e below (s₁.setTop (entryFrame m #[(.ref a)] 1)) t := fun t k => castTop (ef_4 m a) k
  have pre1 : ∀ t, Steps p.tables e below (s₁.setTop (mkF m 1 #[.val (.ref a)] [(.ref a)])) t → Steps p.tables e below (s₁.setTop (entryFrame m #[(.ref a)] 1)) t := fun t k => pre0 t (by
    show Steps p.tables e below (s₁.setTop (mkF m 0 #[.val (.ref a)] [])) _
    refine XS.aloadN X0.here hx rfl (hb hby d4_0) rfl rfl ?_
    show Steps p.tables e below (s₁.setTop (mkF m 1 #[.val (.ref a)] [(.ref a)])) _
    exact k)
  obtain ⟨_, _, ⟨T3, L3, k3, n3⟩, -, X3, ⟨Lc3, hQ3, l3, y3, z3⟩, st3⟩ := X0.specialBack hx (y := (⟨"java/util/AbstractCollection", "<init>", "()V"⟩ : MethodName)) rfl hown (mvT hZ (hw _ (List.mem_of_getElem? (i := 22) rfl))) (mvT hZ (hw _ (List.mem_of_getElem? (i := 23) rfl))) (mvT hZ (hw _ (List.mem_of_getElem? (i := 27) rfl))) (by decide) (backOf (W := 0) (rm5 l Z a0 hw [] a  h0 n0 Z0 ) hZ (hw _ (List.mem_of_getElem? (i := 27) rfl)) (hw _ (List.mem_of_getElem? (i := 26) rfl)) (by decide) (by decide)) (g := (mkF m 1 #[.val (.ref a)] [(.ref a)])) rfl (by rw [hml]; rfl) (Steps.refl _) (a := a) (argsL := []) (rest := []) (lenOf pd_0 rfl) rfl (by show 2 * 0 + _ ≤ _; exact Nat.le_of_eq rfl) (hb hby d4_1) (fun _ _ => ⟨rfl, e0, (by decide : 0 + 0 ≤ _), (by decide : 0 + 0 ≤ _)⟩)
  dsimp only [Pt.U, Pt.locs, Pt.cells, Pt.slots] at X3 l3 y3 z3 st3 hQ3
  subst l3 y3 z3
  obtain ⟨rfl, N3q, e3⟩ := hQ3
  have N3 := Fr.app N0 N3q
  have pre4 : ∀ t, Steps p.tables e below (T3.setTop (mkF m 4 #[.val (.ref a)] [])) t → Steps p.tables e below (s₁.setTop (entryFrame m #[(.ref a)] 1)) t := fun t k => pre1 t (st3.trans k)
  have pre5 : ∀ t, Steps p.tables e below (T3.setTop (mkF m 6 #[.val (.ref a)] [(.int (0 : Int32)), (.ref a)])) t → Steps p.tables e below (s₁.setTop (entryFrame m #[(.ref a)] 1)) t := fun t k => pre4 t (by
    show Steps p.tables e below (T3.setTop (mkF m 4 #[.val (.ref a)] [])) _
    refine XS.aloadN X3.here hx rfl (hb hby d4_4) rfl rfl ?_
    show Steps p.tables e below (T3.setTop (mkF m 5 #[.val (.ref a)] [(.ref a)])) _
    refine XS.iconst X3.here hx rfl (hb hby d4_5) ?_
    show Steps p.tables e below (T3.setTop (mkF m 6 #[.val (.ref a)] [(.int (0 : Int32)), (.ref a)])) _
    exact k)
  obtain ⟨T6, h6, X6, e6, W6, st6⟩ := putF X3 hx hZ hown (host := "") (Or.inl (hw _ (List.mem_of_getElem? (i := 29) rfl))) Via.refl e3 F_modCount Ea (Or.inl (hw _ (List.mem_of_getElem? (i := 30) rfl))) (hw _ (List.mem_of_getElem? (i := 11) rfl)) (ty := .int) (by decide) rfl rfl (g := (mkF m 6 #[.val (.ref a)] [(.int (0 : Int32)), (.ref a)])) rfl rfl (hb hby d4_6)
  have Fw6 : Fld Z h6 a "java/util/AbstractList" "modCount" "I" (.int (0 : Int32)) := (F_modCount).same W6
  have c7 := (Ea).wr W6
  have c9 := (F_elementData).other W6 (Or.inr (slot_ne (Or.inl (hw _ (List.mem_of_getElem? (i := 33) rfl))) (Or.inl (hw _ (List.mem_of_getElem? (i := 30) rfl))) (by decide) (t := (.array (.object "java/lang/Object"))) (t' := .int) (by decide) (by decide)))
  have N6 := Fr.snoc X6 N3 ga
  have Zz6 : n0 ≤ h6.size := Nat.le_trans Z0 (Keep.of_wr W6).1
  have pre10 : ∀ t, Steps p.tables e below (T6.setTop (mkF m 9 #[.val (.ref a)] [])) t → Steps p.tables e below (s₁.setTop (entryFrame m #[(.ref a)] 1)) t := fun t k => pre5 t (st6 _ k)
  have Kp6 : Keep h0 h6 [a] := ((Keep.refl h0 [a])).wr W6 (Or.inl (List.mem_of_getElem? (i := 0) rfl))
  obtain ⟨fs, hr, hrun, hended, hW, hsame⟩ := X6.leave (v := none) (fun _ => rfl)
  refine ⟨_, _, pre10 _ ?_, hrun, hended, _, _, rfl, ?_, ⟨_, rfl⟩, hW, hsame.mono (by decide) (by decide)⟩
  · show Steps p.tables e below (T6.setTop (mkF m 9 #[.val (.ref a)] [])) _
    exact X6.returnOut hx Bd.returns (hb hby d4_9) hr
  · show Q4 Z a h0 n0 _ T6.heap _
    rw [e6]
    exact ⟨rfl, N6, Kp6, c7, Fw6, c9⟩
theorem pn_2 : plainName "java/util/ArrayList" = true := by first | (simp [plainName, overriddenIn]; done) | decide +kernel
theorem d3_0 : decode jdk_38_method_2_code 0 = .ok (.aload_n 0, 1) := by decide +kernel
theorem d3_1 : decode jdk_38_method_2_code 1 = .ok (.invokespecial 1, 3) := by decide +kernel
theorem d3_4 : decode jdk_38_method_2_code 4 = .ok (.aload_n 0, 1) := by decide +kernel
theorem d3_5 : decode jdk_38_method_2_code 5 = .ok (.getstatic 39, 3) := by decide +kernel
theorem d3_8 : decode jdk_38_method_2_code 8 = .ok (.putfield 9, 3) := by decide +kernel
theorem d3_11 : decode jdk_38_method_2_code 11 = .ok (.return_, 1) := by decide +kernel
theorem ef_3 (m : MethodId) (x0 : Addr) : entryFrame m #[(.ref x0)] 1 = mkF m 0 #[.val (.ref x0)] [] := by first | (simp [entryFrame, mkF, argsToLocals, Value.category]; done) | rfl
def Q3 (Z : State) (a : Addr) (w_DEFAULTCAPACITY_EMPTY_ELEMENTDATA : Addr) (h0 : Heap) (n0 : Nat) (v : Option Value) (h : Heap) (L : List Loc) : Prop := v = none ∧ Fr n0 L ∧ Keep h0 h [a] ∧ Exa Z h a "java/util/ArrayList"
set_option maxRecDepth 65536 in
set_option maxHeartbeats 40000000 in
theorem rm3 (l : Launch) (Z : State) (a0 : Array Value) (hw : ∀ d ∈ tables_1, d.before a0 Z = true) (ws : List Jvm.Cond) (a : Addr) (w_DEFAULTCAPACITY_EMPTY_ELEMENTDATA : Addr) (h0 : Heap) (n0 : Nat) (Z0 : n0 ≤ h0.size) (Ea : Exa Z h0 a "java/util/ArrayList") (F_modCount : Fld Z h0 a "java/util/AbstractList" "modCount" "I" (.int (0 : Int32))) (F_elementData : Fld Z h0 a "java/util/ArrayList" "elementData" "[Ljava/lang/Object;" .null) (S_DEFAULTCAPACITY_EMPTY_ELEMENTDATA : Sta Z h0 "java/util/ArrayList" "DEFAULTCAPACITY_EMPTY_ELEMENTDATA" "[Ljava/lang/Object;" (.ref w_DEFAULTCAPACITY_EMPTY_ELEMENTDATA)) (ga : n0 ≤ a) :
    MetFree l (⟨"java/util/ArrayList", "<init>", "()V"⟩ : MethodName) (head1 (Jvm.Cond.code (⟨"java/util/ArrayList", "<init>", "()V"⟩ : MethodName) jdk_38_method_2_code 1 none :: ws) ({ frames := 3, cells := 0, slots := 0, locals := 36 } : Room)) (fun aa U => aa = #[(.ref a)] ∧ Z.Warmed39 U.vm ∧ U.heap = h0) (fun _ _ _ _ _ => True) (fun _ U o U' => ∃ v L, o = .returned v ∧ Q3 Z a w_DEFAULTCAPACITY_EMPTY_ELEMENTDATA h0 n0 v U'.heap L ∧ FrameEnd U o U' L ({ frames := 3, cells := 0, slots := 0, locals := 36 } : Room).cells ({ frames := 3, cells := 0, slots := 0, locals := 36 } : Room).slots) := by
  refine MetFree.of_bodySF (plainFor_of_name pn_2) hisR ?_
  intro p e s m args below meth c s₁ Bd hml0 hP hK
  obtain ⟨rfl, hZ, hh⟩ := hP
  have hx := Bd.exec
  have hby := Bd.bytes
  have hml : c.maxLocals = 1 := hml0
  have hown : s.vm.findClass "java/util/ArrayList" = some m.cls := findClass_of_methodNamed Bd.named
  have hnm := (name_of_methodNamed Bd.named Bd.method).1
  have X0 : Stand p l e ({ frames := 3, cells := 0, slots := 0, locals := 36 } : Room) s m #[(.ref a)] below meth c s₁ [] 0 0 := Stand.of_body Bd
  have e0 : s₁.heap = h0 := by rw [← hh, Bd.state]; rfl
  have N0 := Fr.nil n0
  have pre0 : ∀ t, Steps p.tables e below (s₁.setTop (mkF m 0 #[.val (.ref a)] [])) t → Steps p.tables e below (s₁.setTop (entryFrame m #[(.ref a)] 1)) t := fun t k => castTop (ef_3 m a) k
  have pre1 : ∀ t, Steps p.tables e below (s₁.setTop (mkF m 1 #[.val (.ref a)] [(.ref a)])) t → Steps p.tables e below (s₁.setTop (entryFrame m #[(.ref a)] 1)) t := fun t k => pre0 t (by
    show Steps p.tables e below (s₁.setTop (mkF m 0 #[.val (.ref a)] [])) _
    refine XS.aloadN X0.here hx rfl (hb hby d3_0) rfl rfl ?_
    show Steps p.tables e below (s₁.setTop (mkF m 1 #[.val (.ref a)] [(.ref a)])) _
    exact k)
  obtain ⟨_, _, ⟨T3, L3, k3, n3⟩, -, X3, ⟨Lc3, hQ3, l3, y3, z3⟩, st3⟩ := X0.specialBack hx (y := (⟨"java/util/AbstractList", "<init>", "()V"⟩ : MethodName)) rfl hown (mvT hZ (hw _ (List.mem_of_getElem? (i := 16) rfl))) (mvT hZ (hw _ (List.mem_of_getElem? (i := 17) rfl))) (mvT hZ (hw _ (List.mem_of_getElem? (i := 21) rfl))) (by decide) (backOf (W := 0) (rm4 l Z a0 hw [] a   h0 n0 Z0 Ea F_modCount F_elementData ga) hZ (hw _ (List.mem_of_getElem? (i := 21) rfl)) (hw _ (List.mem_of_getElem? (i := 20) rfl)) (by decide) (by decide)) (g := (mkF m 1 #[.val (.ref a)] [(.ref a)])) rfl (by rw [hml]; rfl) (Steps.refl _) (a := a) (argsL := []) (rest := []) (lenOf pd_0 rfl) rfl (by show 2 * 0 + _ ≤ _; exact Nat.le_of_eq rfl) (hb hby d3_1) (fun _ _ => ⟨rfl, e0, (by decide : 0 + 0 ≤ _), (by decide : 0 + 0 ≤ _)⟩)
  dsimp only [Pt.U, Pt.locs, Pt.cells, Pt.slots] at X3 l3 y3 z3 st3 hQ3
  subst l3 y3 z3
  obtain ⟨rfl, N3q, K3, Ec3, Fc3_modCount, Fc3_elementData⟩ := hQ3
  have N3 := Fr.app N0 N3q
  have pre4 : ∀ t, Steps p.tables e below (T3.setTop (mkF m 4 #[.val (.ref a)] [])) t → Steps p.tables e below (s₁.setTop (entryFrame m #[(.ref a)] 1)) t := fun t k => pre1 t (st3.trans k)
  have Zz3 : n0 ≤ T3.heap.size := Nat.le_trans Z0 K3.1
  have c5 := (Ea).keep K3
  have c8 := own_sta S_DEFAULTCAPACITY_EMPTY_ELEMENTDATA K3 Ea
  have K3k : Keep h0 T3.heap [a] := ((Keep.refl h0 [a])).trans K3 (allS (Or.inl (List.mem_of_getElem? (i := 0) rfl)) (all0))
  have pre9 : ∀ t, Steps p.tables e below (T3.setTop (mkF m 5 #[.val (.ref a)] [(.ref a)])) t → Steps p.tables e below (s₁.setTop (entryFrame m #[(.ref a)] 1)) t := fun t k => pre4 t (by
    show Steps p.tables e below (T3.setTop (mkF m 4 #[.val (.ref a)] [])) _
    refine XS.aloadN X3.here hx rfl (hb hby d3_4) rfl rfl ?_
    show Steps p.tables e below (T3.setTop (mkF m 5 #[.val (.ref a)] [(.ref a)])) _
    exact k)
  obtain ⟨T10, X10, e10, st10⟩ := getS2 X3 hx hZ hown (host := "") (Or.inl (hw _ (List.mem_of_getElem? (i := 31) rfl))) Via.refl rfl c8 (g := (mkF m 5 #[.val (.ref a)] [(.ref a)])) rfl (hb hby d3_5)
  have pre11 : ∀ t, Steps p.tables e below (T10.setTop (mkF m 8 #[.val (.ref a)] [(.ref w_DEFAULTCAPACITY_EMPTY_ELEMENTDATA), (.ref a)])) t → Steps p.tables e below (s₁.setTop (entryFrame m #[(.ref a)] 1)) t := fun t k => pre9 t (st10 _ k)
  obtain ⟨T12, h12, X12, e12, W12, st12⟩ := putF X10 hx hZ hown (host := "") (Or.inl (hw _ (List.mem_of_getElem? (i := 32) rfl))) Via.refl e10 Fc3_elementData Ec3 (Or.inl (hw _ (List.mem_of_getElem? (i := 33) rfl))) (hw _ (List.mem_of_getElem? (i := 11) rfl)) (ty := (.array (.object "java/lang/Object"))) (by decide) rfl rfl (g := (mkF m 8 #[.val (.ref a)] [(.ref w_DEFAULTCAPACITY_EMPTY_ELEMENTDATA), (.ref a)])) rfl rfl (hb hby d3_8)
  have Fw12 : Fld Z h12 a "java/util/ArrayList" "elementData" "[Ljava/lang/Object;" (.ref w_DEFAULTCAPACITY_EMPTY_ELEMENTDATA) := (Fc3_elementData).same W12
  have c13 := (Ec3).wr W12
  have c14 := (c8).wr W12
  have c15 := (Fc3_modCount).other W12 (Or.inr (slot_ne (Or.inl (hw _ (List.mem_of_getElem? (i := 30) rfl))) (Or.inl (hw _ (List.mem_of_getElem? (i := 33) rfl))) (by decide) (t := .int) (t' := (.array (.object "java/lang/Object"))) (by decide) (by decide)))
  have N12 := Fr.snoc X12 N3 ga
  have Zz12 : n0 ≤ h12.size := Nat.le_trans Zz3 (Keep.of_wr W12).1
  have pre17 : ∀ t, Steps p.tables e below (T12.setTop (mkF m 11 #[.val (.ref a)] [])) t → Steps p.tables e below (s₁.setTop (entryFrame m #[(.ref a)] 1)) t := fun t k => pre11 t (st12 _ k)
  have Kp12 : Keep h0 h12 [a] := (K3k).wr W12 (Or.inl (List.mem_of_getElem? (i := 0) rfl))
  obtain ⟨fs, hr, hrun, hended, hW, hsame⟩ := X12.leave (v := none) (fun _ => rfl)
  refine ⟨_, _, pre17 _ ?_, hrun, hended, _, _, rfl, ?_, ⟨_, rfl⟩, hW, hsame.mono (by decide) (by decide)⟩
  · show Steps p.tables e below (T12.setTop (mkF m 11 #[.val (.ref a)] [])) _
    exact X12.returnOut hx Bd.returns (hb hby d3_11) hr
  · show Q3 Z a w_DEFAULTCAPACITY_EMPTY_ELEMENTDATA h0 n0 _ T12.heap _
    rw [e12]
    exact ⟨rfl, N12, Kp12, c13⟩
theorem pn_3 : plainName "java/util/AbstractMap" = true := by first | (simp [plainName, overriddenIn]; done) | decide +kernel
theorem d7_0 : decode jdk_71_method_1_code 0 = .ok (.aload_n 0, 1) := by decide +kernel
theorem d7_1 : decode jdk_71_method_1_code 1 = .ok (.invokespecial 1, 3) := by decide +kernel
theorem d7_4 : decode jdk_71_method_1_code 4 = .ok (.return_, 1) := by decide +kernel
theorem ef_7 (m : MethodId) (x0 : Addr) : entryFrame m #[(.ref x0)] 1 = mkF m 0 #[.val (.ref x0)] [] := by first | (simp [entryFrame, mkF, argsToLocals, Value.category]; done) | rfl
def Q7 (Z : State) (a : Addr) (h0 : Heap) (n0 : Nat) (v : Option Value) (h : Heap) (L : List Loc) : Prop := v = none ∧ Fr n0 L ∧ h = h0
set_option maxRecDepth 65536 in
set_option maxHeartbeats 40000000 in
theorem rm7 (l : Launch) (Z : State) (a0 : Array Value) (hw : ∀ d ∈ tables_1, d.before a0 Z = true) (ws : List Jvm.Cond) (a : Addr) (h0 : Heap) (n0 : Nat) (Z0 : n0 ≤ h0.size) :
    MetFree l (⟨"java/util/AbstractMap", "<init>", "()V"⟩ : MethodName) (head1 (Jvm.Cond.code (⟨"java/util/AbstractMap", "<init>", "()V"⟩ : MethodName) jdk_71_method_1_code 1 none :: ws) ({ frames := 1, cells := 0, slots := 0, locals := 12 } : Room)) (fun aa U => aa = #[(.ref a)] ∧ Z.Warmed39 U.vm ∧ U.heap = h0) (fun _ _ _ _ _ => True) (fun _ U o U' => ∃ v L, o = .returned v ∧ Q7 Z a h0 n0 v U'.heap L ∧ FrameEnd U o U' L ({ frames := 1, cells := 0, slots := 0, locals := 12 } : Room).cells ({ frames := 1, cells := 0, slots := 0, locals := 12 } : Room).slots) := by
  refine MetFree.of_bodySF (plainFor_of_name pn_3) hisR ?_
  intro p e s m args below meth c s₁ Bd hml0 hP hK
  obtain ⟨rfl, hZ, hh⟩ := hP
  have hx := Bd.exec
  have hby := Bd.bytes
  have hml : c.maxLocals = 1 := hml0
  have hown : s.vm.findClass "java/util/AbstractMap" = some m.cls := findClass_of_methodNamed Bd.named
  have hnm := (name_of_methodNamed Bd.named Bd.method).1
  have X0 : Stand p l e ({ frames := 1, cells := 0, slots := 0, locals := 12 } : Room) s m #[(.ref a)] below meth c s₁ [] 0 0 := Stand.of_body Bd
  have e0 : s₁.heap = h0 := by rw [← hh, Bd.state]; rfl
  have N0 := Fr.nil n0
  have pre0 : ∀ t, Steps p.tables e below (s₁.setTop (mkF m 0 #[.val (.ref a)] [])) t → Steps p.tables e below (s₁.setTop (entryFrame m #[(.ref a)] 1)) t := fun t k => castTop (ef_7 m a) k
  have pre1 : ∀ t, Steps p.tables e below (s₁.setTop (mkF m 1 #[.val (.ref a)] [(.ref a)])) t → Steps p.tables e below (s₁.setTop (entryFrame m #[(.ref a)] 1)) t := fun t k => pre0 t (by
    show Steps p.tables e below (s₁.setTop (mkF m 0 #[.val (.ref a)] [])) _
    refine XS.aloadN X0.here hx rfl (hb hby d7_0) rfl rfl ?_
    show Steps p.tables e below (s₁.setTop (mkF m 1 #[.val (.ref a)] [(.ref a)])) _
    exact k)
  obtain ⟨T2, X2, e2, st2⟩ := initO X0 hx hZ hown (hw _ (List.mem_of_getElem? (i := 48) rfl)) (hw _ (List.mem_of_getElem? (i := 8) rfl)) (hw _ (List.mem_of_getElem? (i := 9) rfl)) e0 (g := (mkF m 1 #[.val (.ref a)] [(.ref a)])) rfl (by rw [hml]; rfl) rfl (hb hby d7_1) (by decide) (W := 0) (by show 2 * 0 + _ ≤ _; exact Nat.le_of_eq rfl) (by decide)
  have pre3 : ∀ t, Steps p.tables e below (T2.setTop (mkF m 4 #[.val (.ref a)] [])) t → Steps p.tables e below (s₁.setTop (entryFrame m #[(.ref a)] 1)) t := fun t k => pre1 t (st2 _ k)
  obtain ⟨fs, hr, hrun, hended, hW, hsame⟩ := X2.leave (v := none) (fun _ => rfl)
  refine ⟨_, _, pre3 _ ?_, hrun, hended, _, _, rfl, ?_, ⟨_, rfl⟩, hW, hsame.mono (by decide) (by decide)⟩
  · show Steps p.tables e below (T2.setTop (mkF m 4 #[.val (.ref a)] [])) _
    exact X2.returnOut hx Bd.returns (hb hby d7_4) hr
  · show Q7 Z a h0 n0 _ T2.heap _
    rw [e2]
    exact ⟨rfl, N0, rfl⟩
theorem pn_4 : plainName "java/util/HashMap" = true := by first | (simp [plainName, overriddenIn]; done) | decide +kernel
theorem d6_0 : decode jdk_69_method_7_code 0 = .ok (.aload_n 0, 1) := by decide +kernel
theorem d6_1 : decode jdk_69_method_7_code 1 = .ok (.invokespecial 43, 3) := by decide +kernel
theorem d6_4 : decode jdk_69_method_7_code 4 = .ok (.aload_n 0, 1) := by decide +kernel
theorem d6_5 : decode jdk_69_method_7_code 5 = .ok (.ldc 92, 2) := by decide +kernel
theorem d6_7 : decode jdk_69_method_7_code 7 = .ok (.putfield 81, 3) := by decide +kernel
theorem d6_10 : decode jdk_69_method_7_code 10 = .ok (.return_, 1) := by decide +kernel
theorem ef_6 (m : MethodId) (x0 : Addr) : entryFrame m #[(.ref x0)] 1 = mkF m 0 #[.val (.ref x0)] [] := by first | (simp [entryFrame, mkF, argsToLocals, Value.category]; done) | rfl
def Q6 (Z : State) (a : Addr) (h0 : Heap) (n0 : Nat) (v : Option Value) (h : Heap) (L : List Loc) : Prop := v = none ∧ Fr n0 L ∧ Keep h0 h [a] ∧ Exa Z h a "java/util/HashMap"
set_option maxRecDepth 65536 in
set_option maxHeartbeats 40000000 in
theorem rm6 (l : Launch) (Z : State) (a0 : Array Value) (hw : ∀ d ∈ tables_1, d.before a0 Z = true) (ws : List Jvm.Cond) (a : Addr) (h0 : Heap) (n0 : Nat) (Z0 : n0 ≤ h0.size) (Ea : Exa Z h0 a "java/util/HashMap") (F_loadFactor : Fld Z h0 a "java/util/HashMap" "loadFactor" "F" (.float (0 : UInt32))) (ga : n0 ≤ a) :
    MetFree l (⟨"java/util/HashMap", "<init>", "()V"⟩ : MethodName) (head1 (Jvm.Cond.code (⟨"java/util/HashMap", "<init>", "()V"⟩ : MethodName) jdk_69_method_7_code 1 none :: ws) ({ frames := 2, cells := 0, slots := 0, locals := 24 } : Room)) (fun aa U => aa = #[(.ref a)] ∧ Z.Warmed39 U.vm ∧ U.heap = h0) (fun _ _ _ _ _ => True) (fun _ U o U' => ∃ v L, o = .returned v ∧ Q6 Z a h0 n0 v U'.heap L ∧ FrameEnd U o U' L ({ frames := 2, cells := 0, slots := 0, locals := 24 } : Room).cells ({ frames := 2, cells := 0, slots := 0, locals := 24 } : Room).slots) := by
  refine MetFree.of_bodySF (plainFor_of_name pn_4) hisR ?_
  intro p e s m args below meth c s₁ Bd hml0 hP hK
  obtain ⟨rfl, hZ, hh⟩ := hP
  have hx := Bd.exec
  have hby := Bd.bytes
  have hml : c.maxLocals = 1 := hml0
  have hown : s.vm.findClass "java/util/HashMap" = some m.cls := findClass_of_methodNamed Bd.named
  have hnm := (name_of_methodNamed Bd.named Bd.method).1
  have X0 : Stand p l e ({ frames := 2, cells := 0, slots := 0, locals := 24 } : Room) s m #[(.ref a)] below meth c s₁ [] 0 0 := Stand.of_body Bd
  have e0 : s₁.heap = h0 := by rw [← hh, Bd.state]; rfl
  have N0 := Fr.nil n0
  have pre0 : ∀ t, Steps p.tables e below (s₁.setTop (mkF m 0 #[.val (.ref a)] [])) t → Steps p.tables e below (s₁.setTop (entryFrame m #[(.ref a)] 1)) t := fun t k => castTop (ef_6 m a) k
  have pre1 : ∀ t, Steps p.tables e below (s₁.setTop (mkF m 1 #[.val (.ref a)] [(.ref a)])) t → Steps p.tables e below (s₁.setTop (entryFrame m #[(.ref a)] 1)) t := fun t k => pre0 t (by
    show Steps p.tables e below (s₁.setTop (mkF m 0 #[.val (.ref a)] [])) _
    refine XS.aloadN X0.here hx rfl (hb hby d6_0) rfl rfl ?_
    show Steps p.tables e below (s₁.setTop (mkF m 1 #[.val (.ref a)] [(.ref a)])) _
    exact k)
  obtain ⟨_, _, ⟨T3, L3, k3, n3⟩, -, X3, ⟨Lc3, hQ3, l3, y3, z3⟩, st3⟩ := X0.specialBack hx (y := (⟨"java/util/AbstractMap", "<init>", "()V"⟩ : MethodName)) rfl hown (mvT hZ (hw _ (List.mem_of_getElem? (i := 42) rfl))) (mvT hZ (hw _ (List.mem_of_getElem? (i := 43) rfl))) (mvT hZ (hw _ (List.mem_of_getElem? (i := 47) rfl))) (by decide) (backOf (W := 0) (rm7 l Z a0 hw [] a  h0 n0 Z0 ) hZ (hw _ (List.mem_of_getElem? (i := 47) rfl)) (hw _ (List.mem_of_getElem? (i := 46) rfl)) (by decide) (by decide)) (g := (mkF m 1 #[.val (.ref a)] [(.ref a)])) rfl (by rw [hml]; rfl) (Steps.refl _) (a := a) (argsL := []) (rest := []) (lenOf pd_0 rfl) rfl (by show 2 * 0 + _ ≤ _; exact Nat.le_of_eq rfl) (hb hby d6_1) (fun _ _ => ⟨rfl, e0, (by decide : 0 + 0 ≤ _), (by decide : 0 + 0 ≤ _)⟩)
  dsimp only [Pt.U, Pt.locs, Pt.cells, Pt.slots] at X3 l3 y3 z3 st3 hQ3
  subst l3 y3 z3
  obtain ⟨rfl, N3q, e3⟩ := hQ3
  have N3 := Fr.app N0 N3q
  have pre4 : ∀ t, Steps p.tables e below (T3.setTop (mkF m 4 #[.val (.ref a)] [])) t → Steps p.tables e below (s₁.setTop (entryFrame m #[(.ref a)] 1)) t := fun t k => pre1 t (st3.trans k)
  have pre5 : ∀ t, Steps p.tables e below (T3.setTop (mkF m 5 #[.val (.ref a)] [(.ref a)])) t → Steps p.tables e below (s₁.setTop (entryFrame m #[(.ref a)] 1)) t := fun t k => pre4 t (by
    show Steps p.tables e below (T3.setTop (mkF m 4 #[.val (.ref a)] [])) _
    refine XS.aloadN X3.here hx rfl (hb hby d6_4) rfl rfl ?_
    show Steps p.tables e below (T3.setTop (mkF m 5 #[.val (.ref a)] [(.ref a)])) _
    exact k)
  obtain ⟨kf6, cf6, qa6, qb6, qc6⟩ := Cond.constantFloat_spec (args := #[]) hown (mvT hZ (hw _ (List.mem_of_getElem? (i := 49) rfl)))
  have st6 := X3.ldcFloat hx qa6 qb6 qc6 (g := (mkF m 5 #[.val (.ref a)] [(.ref a)])) rfl (hb hby d6_5)
  have pre7 : ∀ t, Steps p.tables e below (T3.setTop (mkF m 7 #[.val (.ref a)] [(.float (1061158912 : UInt32)), (.ref a)])) t → Steps p.tables e below (s₁.setTop (entryFrame m #[(.ref a)] 1)) t := fun t k => pre5 t (st6 _ k)
  obtain ⟨T8, h8, X8, e8, W8, st8⟩ := putF X3 hx hZ hown (host := "") (Or.inl (hw _ (List.mem_of_getElem? (i := 50) rfl))) Via.refl e3 F_loadFactor Ea (Or.inr ⟨(hw _ (List.mem_of_getElem? (i := 51) rfl)), rfl, hnm⟩) (hw _ (List.mem_of_getElem? (i := 37) rfl)) (ty := .float) (by decide) rfl rfl (g := (mkF m 7 #[.val (.ref a)] [(.float (1061158912 : UInt32)), (.ref a)])) rfl rfl (hb hby d6_7)
  have Fw8 : Fld Z h8 a "java/util/HashMap" "loadFactor" "F" (.float (1061158912 : UInt32)) := (F_loadFactor).same W8
  have c9 := (Ea).wr W8
  have N8 := Fr.snoc X8 N3 ga
  have Zz8 : n0 ≤ h8.size := Nat.le_trans Z0 (Keep.of_wr W8).1
  have pre11 : ∀ t, Steps p.tables e below (T8.setTop (mkF m 10 #[.val (.ref a)] [])) t → Steps p.tables e below (s₁.setTop (entryFrame m #[(.ref a)] 1)) t := fun t k => pre7 t (st8 _ k)
  have Kp8 : Keep h0 h8 [a] := ((Keep.refl h0 [a])).wr W8 (Or.inl (List.mem_of_getElem? (i := 0) rfl))
  obtain ⟨fs, hr, hrun, hended, hW, hsame⟩ := X8.leave (v := none) (fun _ => rfl)
  refine ⟨_, _, pre11 _ ?_, hrun, hended, _, _, rfl, ?_, ⟨_, rfl⟩, hW, hsame.mono (by decide) (by decide)⟩
  · show Steps p.tables e below (T8.setTop (mkF m 10 #[.val (.ref a)] [])) _
    exact X8.returnOut hx Bd.returns (hb hby d6_10) hr
  · show Q6 Z a h0 n0 _ T8.heap _
    rw [e8]
    exact ⟨rfl, N8, Kp8, c9⟩
theorem pn_5 : plainName "com/example/lean_lifecycle/leanlifecycle/ActivityManager" = true := by first | (simp [plainName, overriddenIn]; done) | decide +kernel
theorem d1_0 : decode prog_4_method_1_code 0 = .ok (.aload_n 0, 1) := by decide +kernel
theorem d1_1 : decode prog_4_method_1_code 1 = .ok (.invokespecial 1, 3) := by decide +kernel
theorem d1_4 : decode prog_4_method_1_code 4 = .ok (.aload_n 0, 1) := by decide +kernel
theorem d1_5 : decode prog_4_method_1_code 5 = .ok (.new 7, 3) := by decide +kernel
theorem d1_8 : decode prog_4_method_1_code 8 = .ok (.dup, 1) := by decide +kernel
theorem d1_9 : decode prog_4_method_1_code 9 = .ok (.invokespecial 9, 3) := by decide +kernel
theorem d1_12 : decode prog_4_method_1_code 12 = .ok (.putfield 10, 3) := by decide +kernel
theorem d1_15 : decode prog_4_method_1_code 15 = .ok (.aload_n 0, 1) := by decide +kernel
theorem d1_16 : decode prog_4_method_1_code 16 = .ok (.new 16, 3) := by decide +kernel
theorem d1_19 : decode prog_4_method_1_code 19 = .ok (.dup, 1) := by decide +kernel
theorem d1_20 : decode prog_4_method_1_code 20 = .ok (.invokespecial 18, 3) := by decide +kernel
theorem d1_23 : decode prog_4_method_1_code 23 = .ok (.putfield 19, 3) := by decide +kernel
theorem d1_26 : decode prog_4_method_1_code 26 = .ok (.aload_n 0, 1) := by decide +kernel
theorem d1_27 : decode prog_4_method_1_code 27 = .ok (.new 16, 3) := by decide +kernel
theorem d1_30 : decode prog_4_method_1_code 30 = .ok (.dup, 1) := by decide +kernel
theorem d1_31 : decode prog_4_method_1_code 31 = .ok (.invokespecial 18, 3) := by decide +kernel
theorem d1_34 : decode prog_4_method_1_code 34 = .ok (.putfield 23, 3) := by decide +kernel
theorem d1_37 : decode prog_4_method_1_code 37 = .ok (.aload_n 0, 1) := by decide +kernel
theorem d1_38 : decode prog_4_method_1_code 38 = .ok (.iconst 1, 1) := by decide +kernel
theorem d1_39 : decode prog_4_method_1_code 39 = .ok (.putfield 26, 3) := by decide +kernel
theorem d1_42 : decode prog_4_method_1_code 42 = .ok (.return_, 1) := by decide +kernel
theorem ef_1 (m : MethodId) (x0 : Addr) : entryFrame m #[(.ref x0)] 1 = mkF m 0 #[.val (.ref x0)] [] := by first | (simp [entryFrame, mkF, argsToLocals, Value.category]; done) | rfl
def Q1 (Z : State) (a : Addr) (w_DEFAULTCAPACITY_EMPTY_ELEMENTDATA : Addr) (h0 : Heap) (n0 : Nat) (v : Option Value) (h : Heap) (L : List Loc) : Prop := v = none ∧ Fr n0 L ∧ Keep h0 h [a] ∧ Exa Z h a "com/example/lean_lifecycle/leanlifecycle/ActivityManager" ∧ Fld Z h a "com/example/lean_lifecycle/leanlifecycle/ActivityManager" "inFront" "Z" (.int (1 : Int32)) ∧ Fld Z h a "com/example/lean_lifecycle/leanlifecycle/ActivityManager" "frontMovesPosted" "I" (.int (0 : Int32)) ∧ Fld Z h a "com/example/lean_lifecycle/leanlifecycle/ActivityManager" "inFrontAsPosted" "Z" (.int (0 : Int32))
set_option maxRecDepth 65536 in
set_option maxHeartbeats 40000000 in
theorem rm1 (l : Launch) (Z : State) (a0 : Array Value) (hw : ∀ d ∈ tables_1, d.before a0 Z = true) (ws : List Jvm.Cond) (a : Addr) (w_DEFAULTCAPACITY_EMPTY_ELEMENTDATA : Addr) (h0 : Heap) (n0 : Nat) (Z0 : n0 ≤ h0.size) (Ea : Exa Z h0 a "com/example/lean_lifecycle/leanlifecycle/ActivityManager") (F_task : Fld Z h0 a "com/example/lean_lifecycle/leanlifecycle/ActivityManager" "task" "Ljava/util/List;" .null) (F_entries : Fld Z h0 a "com/example/lean_lifecycle/leanlifecycle/ActivityManager" "entries" "Ljava/util/Map;" .null) (F_toFinish : Fld Z h0 a "com/example/lean_lifecycle/leanlifecycle/ActivityManager" "toFinish" "Ljava/util/Map;" .null) (F_inFront : Fld Z h0 a "com/example/lean_lifecycle/leanlifecycle/ActivityManager" "inFront" "Z" (.int (0 : Int32))) (F_frontMovesPosted : Fld Z h0 a "com/example/lean_lifecycle/leanlifecycle/ActivityManager" "frontMovesPosted" "I" (.int (0 : Int32))) (F_inFrontAsPosted : Fld Z h0 a "com/example/lean_lifecycle/leanlifecycle/ActivityManager" "inFrontAsPosted" "Z" (.int (0 : Int32))) (S_DEFAULTCAPACITY_EMPTY_ELEMENTDATA : Sta Z h0 "java/util/ArrayList" "DEFAULTCAPACITY_EMPTY_ELEMENTDATA" "[Ljava/lang/Object;" (.ref w_DEFAULTCAPACITY_EMPTY_ELEMENTDATA)) (ga : n0 ≤ a) :
    MetFree l (⟨"com/example/lean_lifecycle/leanlifecycle/ActivityManager", "<init>", "()V"⟩ : MethodName) (head1 (Jvm.Cond.code (⟨"com/example/lean_lifecycle/leanlifecycle/ActivityManager", "<init>", "()V"⟩ : MethodName) prog_4_method_1_code 1 none :: ws) ({ frames := 4, cells := 3, slots := 19, locals := 50 } : Room)) (fun aa U => aa = #[(.ref a)] ∧ Z.Warmed39 U.vm ∧ U.heap = h0) (fun _ _ _ _ _ => True) (fun _ U o U' => ∃ v L, o = .returned v ∧ Q1 Z a w_DEFAULTCAPACITY_EMPTY_ELEMENTDATA h0 n0 v U'.heap L ∧ FrameEnd U o U' L ({ frames := 4, cells := 3, slots := 19, locals := 50 } : Room).cells ({ frames := 4, cells := 3, slots := 19, locals := 50 } : Room).slots) := by
  refine MetFree.of_bodySF (plainFor_of_name pn_5) hisR ?_
  intro p e s m args below meth c s₁ Bd hml0 hP hK
  obtain ⟨rfl, hZ, hh⟩ := hP
  have hx := Bd.exec
  have hby := Bd.bytes
  have hml : c.maxLocals = 1 := hml0
  have hown : s.vm.findClass "com/example/lean_lifecycle/leanlifecycle/ActivityManager" = some m.cls := findClass_of_methodNamed Bd.named
  have hnm := (name_of_methodNamed Bd.named Bd.method).1
  have X0 : Stand p l e ({ frames := 4, cells := 3, slots := 19, locals := 50 } : Room) s m #[(.ref a)] below meth c s₁ [] 0 0 := Stand.of_body Bd
  have e0 : s₁.heap = h0 := by rw [← hh, Bd.state]; rfl
  have N0 := Fr.nil n0
  have pre0 : ∀ t, Steps p.tables e below (s₁.setTop (mkF m 0 #[.val (.ref a)] [])) t → Steps p.tables e below (s₁.setTop (entryFrame m #[(.ref a)] 1)) t := fun t k => castTop (ef_1 m a) k
  have pre1 : ∀ t, Steps p.tables e below (s₁.setTop (mkF m 1 #[.val (.ref a)] [(.ref a)])) t → Steps p.tables e below (s₁.setTop (entryFrame m #[(.ref a)] 1)) t := fun t k => pre0 t (by
    show Steps p.tables e below (s₁.setTop (mkF m 0 #[.val (.ref a)] [])) _
    refine XS.aloadN X0.here hx rfl (hb hby d1_0) rfl rfl ?_
    show Steps p.tables e below (s₁.setTop (mkF m 1 #[.val (.ref a)] [(.ref a)])) _
    exact k)
  obtain ⟨T2, X2, e2, st2⟩ := initO X0 hx hZ hown (hw _ (List.mem_of_getElem? (i := 7) rfl)) (hw _ (List.mem_of_getElem? (i := 8) rfl)) (hw _ (List.mem_of_getElem? (i := 9) rfl)) e0 (g := (mkF m 1 #[.val (.ref a)] [(.ref a)])) rfl (by rw [hml]; rfl) rfl (hb hby d1_1) (by decide) (W := 0) (by show 2 * 0 + _ ≤ _; exact Nat.le_of_eq rfl) (by decide)
  have pre3 : ∀ t, Steps p.tables e below (T2.setTop (mkF m 4 #[.val (.ref a)] [])) t → Steps p.tables e below (s₁.setTop (entryFrame m #[(.ref a)] 1)) t := fun t k => pre1 t (st2 _ k)
  have pre4 : ∀ t, Steps p.tables e below (T2.setTop (mkF m 5 #[.val (.ref a)] [(.ref a)])) t → Steps p.tables e below (s₁.setTop (entryFrame m #[(.ref a)] 1)) t := fun t k => pre3 t (by
    show Steps p.tables e below (T2.setTop (mkF m 4 #[.val (.ref a)] [])) _
    refine XS.aloadN X2.here hx rfl (hb hby d1_4) rfl rfl ?_
    show Steps p.tables e below (T2.setTop (mkF m 5 #[.val (.ref a)] [(.ref a)])) _
    exact k)
  obtain ⟨T5, h5, X5, e5, E5, A5, D5, -, st5⟩ := newO X2 hx hZ hown (hw _ (List.mem_of_getElem? (i := 10) rfl)) (hw _ (List.mem_of_getElem? (i := 11) rfl)) (hw _ (List.mem_of_getElem? (i := 12) rfl)) e2 (g := (mkF m 5 #[.val (.ref a)] [(.ref a)])) rfl (hb hby d1_5) (by decide) (by decide)
  obtain ⟨b5, g5⟩ : ∃ z, z = h0.size := ⟨_, rfl⟩
  rw [← g5] at A5 D5 st5
  have sz_b5 : h0.size ≤ b5 := Nat.le_trans ((Keep.refl h0 [a])).1 (Nat.le_of_eq g5.symm)
  have ne_a_b5 : a ≠ b5 := Nat.ne_of_lt (Nat.lt_of_lt_of_le (Ea).lt (Nat.le_of_eq g5.symm))
  have g_b5 : n0 ≤ b5 := Nat.le_trans Z0 (Nat.le_of_eq g5.symm)
  have c6 := (Ea).ext E5
  have c7 := (F_task).ext E5
  have c8 := (F_entries).ext E5
  have c9 := (F_toFinish).ext E5
  have c10 := (F_inFront).ext E5
  have c11 := (F_frontMovesPosted).ext E5
  have c12 := (F_inFrontAsPosted).ext E5
  have c13 := (S_DEFAULTCAPACITY_EMPTY_ELEMENTDATA).ext E5
  have Zz5 : n0 ≤ h5.size := Nat.le_trans Z0 E5.1
  have F_modCount_b5 : Fld Z h5 b5 "java/util/AbstractList" "modCount" "I" (.int (0 : Int32)) := D5 (Or.inl (hw _ (List.mem_of_getElem? (i := 30) rfl))) (ty := .int) (by decide)
  have F_elementData_b5 : Fld Z h5 b5 "java/util/ArrayList" "elementData" "[Ljava/lang/Object;" .null := D5 (Or.inl (hw _ (List.mem_of_getElem? (i := 33) rfl))) (ty := (.array (.object "java/lang/Object"))) (by decide)
  have pre14 : ∀ t, Steps p.tables e below (T5.setTop (mkF m 8 #[.val (.ref a)] [(.ref b5), (.ref a)])) t → Steps p.tables e below (s₁.setTop (entryFrame m #[(.ref a)] 1)) t := fun t k => pre4 t (st5 _ k)
  have Ke5 : Keep h0 h5 [a] := ((Keep.refl h0 [a])).ext E5
  have pre15 : ∀ t, Steps p.tables e below (T5.setTop (mkF m 9 #[.val (.ref a)] [(.ref b5), (.ref b5), (.ref a)])) t → Steps p.tables e below (s₁.setTop (entryFrame m #[(.ref a)] 1)) t := fun t k => pre14 t (by
    show Steps p.tables e below (T5.setTop (mkF m 8 #[.val (.ref a)] [(.ref b5), (.ref a)])) _
    refine XS.dup X5.here hx rfl (hb hby d1_8) rfl rfl ?_
    show Steps p.tables e below (T5.setTop (mkF m 9 #[.val (.ref a)] [(.ref b5), (.ref b5), (.ref a)])) _
    exact k)
  obtain ⟨_, _, ⟨T17, L17, k17, n17⟩, -, X17, ⟨Lc17, hQ17, l17, y17, z17⟩, st17⟩ := X5.specialBack hx (y := (⟨"java/util/ArrayList", "<init>", "()V"⟩ : MethodName)) rfl hown (mvT hZ (hw _ (List.mem_of_getElem? (i := 13) rfl))) (mvT hZ (hw _ (List.mem_of_getElem? (i := 14) rfl))) (mvT hZ (hw _ (List.mem_of_getElem? (i := 15) rfl))) (by decide) (backOf (W := 2) (rm3 l Z a0 hw [] b5  w_DEFAULTCAPACITY_EMPTY_ELEMENTDATA h5 n0 Zz5 A5 F_modCount_b5 F_elementData_b5 c13 g_b5) hZ (hw _ (List.mem_of_getElem? (i := 15) rfl)) (hw _ (List.mem_of_getElem? (i := 12) rfl)) (by decide) (by decide)) (g := (mkF m 9 #[.val (.ref a)] [(.ref b5), (.ref b5), (.ref a)])) rfl (by rw [hml]; rfl) (Steps.refl _) (a := b5) (argsL := []) (rest := [(.ref b5), (.ref a)]) (lenOf pd_0 rfl) rfl (by show 2 * 0 + _ ≤ _; exact Nat.le_of_eq rfl) (hb hby d1_9) (fun _ _ => ⟨rfl, e5, (by decide : 1 + 0 ≤ _), (by decide : 3 + 0 ≤ _)⟩)
  dsimp only [Pt.U, Pt.locs, Pt.cells, Pt.slots] at X17 l17 y17 z17 st17 hQ17
  subst l17 y17 z17
  obtain ⟨rfl, N17q, K17, Ec17⟩ := hQ17
  have N17 := Fr.app N0 N17q
  have pre18 : ∀ t, Steps p.tables e below (T17.setTop (mkF m 12 #[.val (.ref a)] [(.ref b5), (.ref a)])) t → Steps p.tables e below (s₁.setTop (entryFrame m #[(.ref a)] 1)) t := fun t k => pre15 t (st17.trans k)
  have Zz17 : n0 ≤ T17.heap.size := Nat.le_trans Zz5 K17.1
  have c19 := (c6).keep K17
  have c20 := (c7).keep K17 (ninS ne_a_b5 (nin0))
  have c21 := (c8).keep K17 (ninS ne_a_b5 (nin0))
  have c22 := (c9).keep K17 (ninS ne_a_b5 (nin0))
  have c23 := (c10).keep K17 (ninS ne_a_b5 (nin0))
  have c24 := (c11).keep K17 (ninS ne_a_b5 (nin0))
  have c25 := (c12).keep K17 (ninS ne_a_b5 (nin0))
  have c26 := own_sta c13 K17 A5
  have c27 := (A5).keep K17
  have K17k : Keep h0 T17.heap [a] := (Ke5).trans K17 (allS (Or.inr sz_b5) (all0))
  obtain ⟨T30, h30, X30, e30, W30, st30⟩ := putF X17 hx hZ hown (host := "") (Or.inl (hw _ (List.mem_of_getElem? (i := 34) rfl))) Via.refl rfl c20 c19 (Or.inr ⟨(hw _ (List.mem_of_getElem? (i := 35) rfl)), rfl, hnm⟩) (hw _ (List.mem_of_getElem? (i := 2) rfl)) (ty := (.object "java/util/List")) (by decide) rfl rfl (g := (mkF m 12 #[.val (.ref a)] [(.ref b5), (.ref a)])) rfl rfl (hb hby d1_12)
  have Fw30 : Fld Z h30 a "com/example/lean_lifecycle/leanlifecycle/ActivityManager" "task" "Ljava/util/List;" (.ref b5) := (c20).same W30
  have c31 := (c19).wr W30
  have c33 := (c21).other W30 (Or.inr (slot_ne (Or.inr (hw _ (List.mem_of_getElem? (i := 53) rfl))) (Or.inr (hw _ (List.mem_of_getElem? (i := 35) rfl))) (by decide) (t := (.object "java/util/Map")) (t' := (.object "java/util/List")) (by decide) (by decide)))
  have c34 := (c22).other W30 (Or.inr (slot_ne (Or.inr (hw _ (List.mem_of_getElem? (i := 55) rfl))) (Or.inr (hw _ (List.mem_of_getElem? (i := 35) rfl))) (by decide) (t := (.object "java/util/Map")) (t' := (.object "java/util/List")) (by decide) (by decide)))
  have c35 := (c23).other W30 (Or.inr (slot_ne (Or.inl (hw _ (List.mem_of_getElem? (i := 57) rfl))) (Or.inr (hw _ (List.mem_of_getElem? (i := 35) rfl))) (by decide) (t := .boolean) (t' := (.object "java/util/List")) (by decide) (by decide)))
  have c36 := (c24).other W30 (Or.inr (slot_ne (Or.inl (hw _ (List.mem_of_getElem? (i := 69) rfl))) (Or.inr (hw _ (List.mem_of_getElem? (i := 35) rfl))) (by decide) (t := .int) (t' := (.object "java/util/List")) (by decide) (by decide)))
  have c37 := (c25).other W30 (Or.inr (slot_ne (Or.inl (hw _ (List.mem_of_getElem? (i := 71) rfl))) (Or.inr (hw _ (List.mem_of_getElem? (i := 35) rfl))) (by decide) (t := .boolean) (t' := (.object "java/util/List")) (by decide) (by decide)))
  have c38 := (c26).wr W30
  have c39 := (Ec17).wr W30
  have N30 := Fr.snoc X30 N17 ga
  have Zz30 : n0 ≤ h30.size := Nat.le_trans Zz17 (Keep.of_wr W30).1
  have pre40 : ∀ t, Steps p.tables e below (T30.setTop (mkF m 15 #[.val (.ref a)] [])) t → Steps p.tables e below (s₁.setTop (entryFrame m #[(.ref a)] 1)) t := fun t k => pre18 t (st30 _ k)
  have Kp30 : Keep h0 h30 [a] := (K17k).wr W30 (Or.inl (List.mem_of_getElem? (i := 0) rfl))
  have pre41 : ∀ t, Steps p.tables e below (T30.setTop (mkF m 16 #[.val (.ref a)] [(.ref a)])) t → Steps p.tables e below (s₁.setTop (entryFrame m #[(.ref a)] 1)) t := fun t k => pre40 t (by
    show Steps p.tables e below (T30.setTop (mkF m 15 #[.val (.ref a)] [])) _
    refine XS.aloadN X30.here hx rfl (hb hby d1_15) rfl rfl ?_
    show Steps p.tables e below (T30.setTop (mkF m 16 #[.val (.ref a)] [(.ref a)])) _
    exact k)
  obtain ⟨T42, h42, X42, e42, E42, A42, D42, -, st42⟩ := newO X30 hx hZ hown (hw _ (List.mem_of_getElem? (i := 36) rfl)) (hw _ (List.mem_of_getElem? (i := 37) rfl)) (hw _ (List.mem_of_getElem? (i := 38) rfl)) e30 (g := (mkF m 16 #[.val (.ref a)] [(.ref a)])) rfl (hb hby d1_16) (by decide) (by decide)
  obtain ⟨b42, g42⟩ : ∃ z, z = h30.size := ⟨_, rfl⟩
  rw [← g42] at A42 D42 st42
  have sz_b42 : h0.size ≤ b42 := Nat.le_trans (Kp30).1 (Nat.le_of_eq g42.symm)
  have ne_a_b42 : a ≠ b42 := Nat.ne_of_lt (Nat.lt_of_lt_of_le (c31).lt (Nat.le_of_eq g42.symm))
  have ne_b5_b42 : b5 ≠ b42 := Nat.ne_of_lt (Nat.lt_of_lt_of_le (c39).lt (Nat.le_of_eq g42.symm))
  have g_b42 : n0 ≤ b42 := Nat.le_trans Zz30 (Nat.le_of_eq g42.symm)
  have c43 := (c31).ext E42
  have c44 := (c33).ext E42
  have c45 := (c34).ext E42
  have c46 := (c35).ext E42
  have c47 := (c36).ext E42
  have c48 := (c37).ext E42
  have c49 := (c38).ext E42
  have c50 := (c39).ext E42
  have c51 := (Fw30).ext E42
  have Zz42 : n0 ≤ h42.size := Nat.le_trans Zz30 E42.1
  have F_loadFactor_b42 : Fld Z h42 b42 "java/util/HashMap" "loadFactor" "F" (.float (0 : UInt32)) := D42 (Or.inr (hw _ (List.mem_of_getElem? (i := 51) rfl))) (ty := .float) (by decide)
  have pre52 : ∀ t, Steps p.tables e below (T42.setTop (mkF m 19 #[.val (.ref a)] [(.ref b42), (.ref a)])) t → Steps p.tables e below (s₁.setTop (entryFrame m #[(.ref a)] 1)) t := fun t k => pre41 t (st42 _ k)
  have Ke42 : Keep h0 h42 [a] := (Kp30).ext E42
  have pre53 : ∀ t, Steps p.tables e below (T42.setTop (mkF m 20 #[.val (.ref a)] [(.ref b42), (.ref b42), (.ref a)])) t → Steps p.tables e below (s₁.setTop (entryFrame m #[(.ref a)] 1)) t := fun t k => pre52 t (by
    show Steps p.tables e below (T42.setTop (mkF m 19 #[.val (.ref a)] [(.ref b42), (.ref a)])) _
    refine XS.dup X42.here hx rfl (hb hby d1_19) rfl rfl ?_
    show Steps p.tables e below (T42.setTop (mkF m 20 #[.val (.ref a)] [(.ref b42), (.ref b42), (.ref a)])) _
    exact k)
  obtain ⟨_, _, ⟨T55, L55, k55, n55⟩, -, X55, ⟨Lc55, hQ55, l55, y55, z55⟩, st55⟩ := X42.specialBack hx (y := (⟨"java/util/HashMap", "<init>", "()V"⟩ : MethodName)) rfl hown (mvT hZ (hw _ (List.mem_of_getElem? (i := 39) rfl))) (mvT hZ (hw _ (List.mem_of_getElem? (i := 40) rfl))) (mvT hZ (hw _ (List.mem_of_getElem? (i := 41) rfl))) (by decide) (backOf (W := 2) (rm6 l Z a0 hw [] b42   h42 n0 Zz42 A42 F_loadFactor_b42 g_b42) hZ (hw _ (List.mem_of_getElem? (i := 41) rfl)) (hw _ (List.mem_of_getElem? (i := 38) rfl)) (by decide) (by decide)) (g := (mkF m 20 #[.val (.ref a)] [(.ref b42), (.ref b42), (.ref a)])) rfl (by rw [hml]; rfl) (Steps.refl _) (a := b42) (argsL := []) (rest := [(.ref b42), (.ref a)]) (lenOf pd_0 rfl) rfl (by show 2 * 0 + _ ≤ _; exact Nat.le_of_eq rfl) (hb hby d1_20) (fun _ _ => ⟨rfl, e42, (by decide : 2 + 0 ≤ _), (by decide : 11 + 0 ≤ _)⟩)
  dsimp only [Pt.U, Pt.locs, Pt.cells, Pt.slots] at X55 l55 y55 z55 st55 hQ55
  subst l55 y55 z55
  obtain ⟨rfl, N55q, K55, Ec55⟩ := hQ55
  have N55 := Fr.app N30 N55q
  have pre56 : ∀ t, Steps p.tables e below (T55.setTop (mkF m 23 #[.val (.ref a)] [(.ref b42), (.ref a)])) t → Steps p.tables e below (s₁.setTop (entryFrame m #[(.ref a)] 1)) t := fun t k => pre53 t (st55.trans k)
  have Zz55 : n0 ≤ T55.heap.size := Nat.le_trans Zz42 K55.1
  have c57 := (c43).keep K55
  have c58 := (c44).keep K55 (ninS ne_a_b42 (nin0))
  have c59 := (c45).keep K55 (ninS ne_a_b42 (nin0))
  have c60 := (c46).keep K55 (ninS ne_a_b42 (nin0))
  have c61 := (c47).keep K55 (ninS ne_a_b42 (nin0))
  have c62 := (c48).keep K55 (ninS ne_a_b42 (nin0))
  have c63 := own_sta c49 K55 A42
  have c64 := (c50).keep K55
  have c65 := (c51).keep K55 (ninS ne_a_b42 (nin0))
  have c66 := (A42).keep K55
  have K55k : Keep h0 T55.heap [a] := (Ke42).trans K55 (allS (Or.inr sz_b42) (all0))
  obtain ⟨T68, h68, X68, e68, W68, st68⟩ := putF X55 hx hZ hown (host := "") (Or.inl (hw _ (List.mem_of_getElem? (i := 52) rfl))) Via.refl rfl c58 c57 (Or.inr ⟨(hw _ (List.mem_of_getElem? (i := 53) rfl)), rfl, hnm⟩) (hw _ (List.mem_of_getElem? (i := 2) rfl)) (ty := (.object "java/util/Map")) (by decide) rfl rfl (g := (mkF m 23 #[.val (.ref a)] [(.ref b42), (.ref a)])) rfl rfl (hb hby d1_23)
  have Fw68 : Fld Z h68 a "com/example/lean_lifecycle/leanlifecycle/ActivityManager" "entries" "Ljava/util/Map;" (.ref b42) := (c58).same W68
  have c69 := (c57).wr W68
  have c71 := (c59).other W68 (Or.inr (slot_ne (Or.inr (hw _ (List.mem_of_getElem? (i := 55) rfl))) (Or.inr (hw _ (List.mem_of_getElem? (i := 53) rfl))) (by decide) (t := (.object "java/util/Map")) (t' := (.object "java/util/Map")) (by decide) (by decide)))
  have c72 := (c60).other W68 (Or.inr (slot_ne (Or.inl (hw _ (List.mem_of_getElem? (i := 57) rfl))) (Or.inr (hw _ (List.mem_of_getElem? (i := 53) rfl))) (by decide) (t := .boolean) (t' := (.object "java/util/Map")) (by decide) (by decide)))
  have c73 := (c61).other W68 (Or.inr (slot_ne (Or.inl (hw _ (List.mem_of_getElem? (i := 69) rfl))) (Or.inr (hw _ (List.mem_of_getElem? (i := 53) rfl))) (by decide) (t := .int) (t' := (.object "java/util/Map")) (by decide) (by decide)))
  have c74 := (c62).other W68 (Or.inr (slot_ne (Or.inl (hw _ (List.mem_of_getElem? (i := 71) rfl))) (Or.inr (hw _ (List.mem_of_getElem? (i := 53) rfl))) (by decide) (t := .boolean) (t' := (.object "java/util/Map")) (by decide) (by decide)))
  have c75 := (c63).wr W68
  have c76 := (c64).wr W68
  have c77 := (c65).other W68 (Or.inr (slot_ne (Or.inr (hw _ (List.mem_of_getElem? (i := 35) rfl))) (Or.inr (hw _ (List.mem_of_getElem? (i := 53) rfl))) (by decide) (t := (.object "java/util/List")) (t' := (.object "java/util/Map")) (by decide) (by decide)))
  have c78 := (Ec55).wr W68
  have N68 := Fr.snoc X68 N55 ga
  have Zz68 : n0 ≤ h68.size := Nat.le_trans Zz55 (Keep.of_wr W68).1
  have pre79 : ∀ t, Steps p.tables e below (T68.setTop (mkF m 26 #[.val (.ref a)] [])) t → Steps p.tables e below (s₁.setTop (entryFrame m #[(.ref a)] 1)) t := fun t k => pre56 t (st68 _ k)
  have Kp68 : Keep h0 h68 [a] := (K55k).wr W68 (Or.inl (List.mem_of_getElem? (i := 0) rfl))
  have pre80 : ∀ t, Steps p.tables e below (T68.setTop (mkF m 27 #[.val (.ref a)] [(.ref a)])) t → Steps p.tables e below (s₁.setTop (entryFrame m #[(.ref a)] 1)) t := fun t k => pre79 t (by
    show Steps p.tables e below (T68.setTop (mkF m 26 #[.val (.ref a)] [])) _
    refine XS.aloadN X68.here hx rfl (hb hby d1_26) rfl rfl ?_
    show Steps p.tables e below (T68.setTop (mkF m 27 #[.val (.ref a)] [(.ref a)])) _
    exact k)
  obtain ⟨T81, h81, X81, e81, E81, A81, D81, -, st81⟩ := newO X68 hx hZ hown (hw _ (List.mem_of_getElem? (i := 36) rfl)) (hw _ (List.mem_of_getElem? (i := 37) rfl)) (hw _ (List.mem_of_getElem? (i := 38) rfl)) e68 (g := (mkF m 27 #[.val (.ref a)] [(.ref a)])) rfl (hb hby d1_27) (by decide) (by decide)
  obtain ⟨b81, g81⟩ : ∃ z, z = h68.size := ⟨_, rfl⟩
  rw [← g81] at A81 D81 st81
  have sz_b81 : h0.size ≤ b81 := Nat.le_trans (Kp68).1 (Nat.le_of_eq g81.symm)
  have ne_a_b81 : a ≠ b81 := Nat.ne_of_lt (Nat.lt_of_lt_of_le (c69).lt (Nat.le_of_eq g81.symm))
  have ne_b5_b81 : b5 ≠ b81 := Nat.ne_of_lt (Nat.lt_of_lt_of_le (c76).lt (Nat.le_of_eq g81.symm))
  have ne_b42_b81 : b42 ≠ b81 := Nat.ne_of_lt (Nat.lt_of_lt_of_le (c78).lt (Nat.le_of_eq g81.symm))
  have g_b81 : n0 ≤ b81 := Nat.le_trans Zz68 (Nat.le_of_eq g81.symm)
  have c82 := (c69).ext E81
  have c83 := (c71).ext E81
  have c84 := (c72).ext E81
  have c85 := (c73).ext E81
  have c86 := (c74).ext E81
  have c87 := (c75).ext E81
  have c88 := (c76).ext E81
  have c89 := (c77).ext E81
  have c90 := (c78).ext E81
  have c91 := (Fw68).ext E81
  have Zz81 : n0 ≤ h81.size := Nat.le_trans Zz68 E81.1
  have F_loadFactor_b81 : Fld Z h81 b81 "java/util/HashMap" "loadFactor" "F" (.float (0 : UInt32)) := D81 (Or.inr (hw _ (List.mem_of_getElem? (i := 51) rfl))) (ty := .float) (by decide)
  have pre92 : ∀ t, Steps p.tables e below (T81.setTop (mkF m 30 #[.val (.ref a)] [(.ref b81), (.ref a)])) t → Steps p.tables e below (s₁.setTop (entryFrame m #[(.ref a)] 1)) t := fun t k => pre80 t (st81 _ k)
  have Ke81 : Keep h0 h81 [a] := (Kp68).ext E81
  have pre93 : ∀ t, Steps p.tables e below (T81.setTop (mkF m 31 #[.val (.ref a)] [(.ref b81), (.ref b81), (.ref a)])) t → Steps p.tables e below (s₁.setTop (entryFrame m #[(.ref a)] 1)) t := fun t k => pre92 t (by
    show Steps p.tables e below (T81.setTop (mkF m 30 #[.val (.ref a)] [(.ref b81), (.ref a)])) _
    refine XS.dup X81.here hx rfl (hb hby d1_30) rfl rfl ?_
    show Steps p.tables e below (T81.setTop (mkF m 31 #[.val (.ref a)] [(.ref b81), (.ref b81), (.ref a)])) _
    exact k)
  obtain ⟨_, _, ⟨T95, L95, k95, n95⟩, -, X95, ⟨Lc95, hQ95, l95, y95, z95⟩, st95⟩ := X81.specialBack hx (y := (⟨"java/util/HashMap", "<init>", "()V"⟩ : MethodName)) rfl hown (mvT hZ (hw _ (List.mem_of_getElem? (i := 39) rfl))) (mvT hZ (hw _ (List.mem_of_getElem? (i := 40) rfl))) (mvT hZ (hw _ (List.mem_of_getElem? (i := 41) rfl))) (by decide) (backOf (W := 2) (rm6 l Z a0 hw [] b81   h81 n0 Zz81 A81 F_loadFactor_b81 g_b81) hZ (hw _ (List.mem_of_getElem? (i := 41) rfl)) (hw _ (List.mem_of_getElem? (i := 38) rfl)) (by decide) (by decide)) (g := (mkF m 31 #[.val (.ref a)] [(.ref b81), (.ref b81), (.ref a)])) rfl (by rw [hml]; rfl) (Steps.refl _) (a := b81) (argsL := []) (rest := [(.ref b81), (.ref a)]) (lenOf pd_0 rfl) rfl (by show 2 * 0 + _ ≤ _; exact Nat.le_of_eq rfl) (hb hby d1_31) (fun _ _ => ⟨rfl, e81, (by decide : 3 + 0 ≤ _), (by decide : 19 + 0 ≤ _)⟩)
  dsimp only [Pt.U, Pt.locs, Pt.cells, Pt.slots] at X95 l95 y95 z95 st95 hQ95
  subst l95 y95 z95
  obtain ⟨rfl, N95q, K95, Ec95⟩ := hQ95
  have N95 := Fr.app N68 N95q
  have pre96 : ∀ t, Steps p.tables e below (T95.setTop (mkF m 34 #[.val (.ref a)] [(.ref b81), (.ref a)])) t → Steps p.tables e below (s₁.setTop (entryFrame m #[(.ref a)] 1)) t := fun t k => pre93 t (st95.trans k)
  have Zz95 : n0 ≤ T95.heap.size := Nat.le_trans Zz81 K95.1
  have c97 := (c82).keep K95
  have c98 := (c83).keep K95 (ninS ne_a_b81 (nin0))
  have c99 := (c84).keep K95 (ninS ne_a_b81 (nin0))
  have c100 := (c85).keep K95 (ninS ne_a_b81 (nin0))
  have c101 := (c86).keep K95 (ninS ne_a_b81 (nin0))
  have c102 := own_sta c87 K95 A81
  have c103 := (c88).keep K95
  have c104 := (c89).keep K95 (ninS ne_a_b81 (nin0))
  have c105 := (c90).keep K95
  have c106 := (c91).keep K95 (ninS ne_a_b81 (nin0))
  have c107 := (A81).keep K95
  have K95k : Keep h0 T95.heap [a] := (Ke81).trans K95 (allS (Or.inr sz_b81) (all0))
  obtain ⟨T109, h109, X109, e109, W109, st109⟩ := putF X95 hx hZ hown (host := "") (Or.inl (hw _ (List.mem_of_getElem? (i := 54) rfl))) Via.refl rfl c98 c97 (Or.inr ⟨(hw _ (List.mem_of_getElem? (i := 55) rfl)), rfl, hnm⟩) (hw _ (List.mem_of_getElem? (i := 2) rfl)) (ty := (.object "java/util/Map")) (by decide) rfl rfl (g := (mkF m 34 #[.val (.ref a)] [(.ref b81), (.ref a)])) rfl rfl (hb hby d1_34)
  have Fw109 : Fld Z h109 a "com/example/lean_lifecycle/leanlifecycle/ActivityManager" "toFinish" "Ljava/util/Map;" (.ref b81) := (c98).same W109
  have c110 := (c97).wr W109
  have c112 := (c99).other W109 (Or.inr (slot_ne (Or.inl (hw _ (List.mem_of_getElem? (i := 57) rfl))) (Or.inr (hw _ (List.mem_of_getElem? (i := 55) rfl))) (by decide) (t := .boolean) (t' := (.object "java/util/Map")) (by decide) (by decide)))
  have c113 := (c100).other W109 (Or.inr (slot_ne (Or.inl (hw _ (List.mem_of_getElem? (i := 69) rfl))) (Or.inr (hw _ (List.mem_of_getElem? (i := 55) rfl))) (by decide) (t := .int) (t' := (.object "java/util/Map")) (by decide) (by decide)))
  have c114 := (c101).other W109 (Or.inr (slot_ne (Or.inl (hw _ (List.mem_of_getElem? (i := 71) rfl))) (Or.inr (hw _ (List.mem_of_getElem? (i := 55) rfl))) (by decide) (t := .boolean) (t' := (.object "java/util/Map")) (by decide) (by decide)))
  have c115 := (c102).wr W109
  have c116 := (c103).wr W109
  have c117 := (c104).other W109 (Or.inr (slot_ne (Or.inr (hw _ (List.mem_of_getElem? (i := 35) rfl))) (Or.inr (hw _ (List.mem_of_getElem? (i := 55) rfl))) (by decide) (t := (.object "java/util/List")) (t' := (.object "java/util/Map")) (by decide) (by decide)))
  have c118 := (c105).wr W109
  have c119 := (c106).other W109 (Or.inr (slot_ne (Or.inr (hw _ (List.mem_of_getElem? (i := 53) rfl))) (Or.inr (hw _ (List.mem_of_getElem? (i := 55) rfl))) (by decide) (t := (.object "java/util/Map")) (t' := (.object "java/util/Map")) (by decide) (by decide)))
  have c120 := (Ec95).wr W109
  have N109 := Fr.snoc X109 N95 ga
  have Zz109 : n0 ≤ h109.size := Nat.le_trans Zz95 (Keep.of_wr W109).1
  have pre121 : ∀ t, Steps p.tables e below (T109.setTop (mkF m 37 #[.val (.ref a)] [])) t → Steps p.tables e below (s₁.setTop (entryFrame m #[(.ref a)] 1)) t := fun t k => pre96 t (st109 _ k)
  have Kp109 : Keep h0 h109 [a] := (K95k).wr W109 (Or.inl (List.mem_of_getElem? (i := 0) rfl))
  have pre122 : ∀ t, Steps p.tables e below (T109.setTop (mkF m 39 #[.val (.ref a)] [(.int (1 : Int32)), (.ref a)])) t → Steps p.tables e below (s₁.setTop (entryFrame m #[(.ref a)] 1)) t := fun t k => pre121 t (by
    show Steps p.tables e below (T109.setTop (mkF m 37 #[.val (.ref a)] [])) _
    refine XS.aloadN X109.here hx rfl (hb hby d1_37) rfl rfl ?_
    show Steps p.tables e below (T109.setTop (mkF m 38 #[.val (.ref a)] [(.ref a)])) _
    refine XS.iconst X109.here hx rfl (hb hby d1_38) ?_
    show Steps p.tables e below (T109.setTop (mkF m 39 #[.val (.ref a)] [(.int (1 : Int32)), (.ref a)])) _
    exact k)
  obtain ⟨T123, h123, X123, e123, W123, st123⟩ := putFN X109 hx hZ hown (hw _ (List.mem_of_getElem? (i := 56) rfl)) Via.refl e109 c112 c110 (Or.inl (hw _ (List.mem_of_getElem? (i := 57) rfl))) (hw _ (List.mem_of_getElem? (i := 2) rfl)) (ty := .boolean) (v' := (.int (1 : Int32))) (by decide) rfl (by decide) (g := (mkF m 39 #[.val (.ref a)] [(.int (1 : Int32)), (.ref a)])) rfl rfl (hb hby d1_39)
  have Fw123 : Fld Z h123 a "com/example/lean_lifecycle/leanlifecycle/ActivityManager" "inFront" "Z" (.int (1 : Int32)) := (c112).same W123
  have c124 := (c110).wr W123
  have c126 := (c113).other W123 (Or.inr (slot_ne (Or.inl (hw _ (List.mem_of_getElem? (i := 69) rfl))) (Or.inl (hw _ (List.mem_of_getElem? (i := 57) rfl))) (by decide) (t := .int) (t' := .boolean) (by decide) (by decide)))
  have c127 := (c114).other W123 (Or.inr (slot_ne (Or.inl (hw _ (List.mem_of_getElem? (i := 71) rfl))) (Or.inl (hw _ (List.mem_of_getElem? (i := 57) rfl))) (by decide) (t := .boolean) (t' := .boolean) (by decide) (by decide)))
  have c128 := (c115).wr W123
  have c129 := (c116).wr W123
  have c130 := (c117).other W123 (Or.inr (slot_ne (Or.inr (hw _ (List.mem_of_getElem? (i := 35) rfl))) (Or.inl (hw _ (List.mem_of_getElem? (i := 57) rfl))) (by decide) (t := (.object "java/util/List")) (t' := .boolean) (by decide) (by decide)))
  have c131 := (c118).wr W123
  have c132 := (c119).other W123 (Or.inr (slot_ne (Or.inr (hw _ (List.mem_of_getElem? (i := 53) rfl))) (Or.inl (hw _ (List.mem_of_getElem? (i := 57) rfl))) (by decide) (t := (.object "java/util/Map")) (t' := .boolean) (by decide) (by decide)))
  have c133 := (c120).wr W123
  have c134 := (Fw109).other W123 (Or.inr (slot_ne (Or.inr (hw _ (List.mem_of_getElem? (i := 55) rfl))) (Or.inl (hw _ (List.mem_of_getElem? (i := 57) rfl))) (by decide) (t := (.object "java/util/Map")) (t' := .boolean) (by decide) (by decide)))
  have N123 := Fr.snoc X123 N109 ga
  have Zz123 : n0 ≤ h123.size := Nat.le_trans Zz109 (Keep.of_wr W123).1
  have pre135 : ∀ t, Steps p.tables e below (T123.setTop (mkF m 42 #[.val (.ref a)] [])) t → Steps p.tables e below (s₁.setTop (entryFrame m #[(.ref a)] 1)) t := fun t k => pre122 t (st123 _ k)
  have Kp123 : Keep h0 h123 [a] := (Kp109).wr W123 (Or.inl (List.mem_of_getElem? (i := 0) rfl))
  obtain ⟨fs, hr, hrun, hended, hW, hsame⟩ := X123.leave (v := none) (fun _ => rfl)
  refine ⟨_, _, pre135 _ ?_, hrun, hended, _, _, rfl, ?_, ⟨_, rfl⟩, hW, hsame.mono (by decide) (by decide)⟩
  · show Steps p.tables e below (T123.setTop (mkF m 42 #[.val (.ref a)] [])) _
    exact X123.returnOut hx Bd.returns (hb hby d1_42) hr
  · show Q1 Z a w_DEFAULTCAPACITY_EMPTY_ELEMENTDATA h0 n0 _ T123.heap _
    rw [e123]
    exact ⟨rfl, N123, Kp123, c124, Fw123, c126, c127⟩
theorem d8_0 : decode prog_4_method_36_code 0 = .ok (.aload_n 0, 1) := by decide +kernel
theorem d8_1 : decode prog_4_method_36_code 1 = .ok (.iload_n 1, 1) := by decide +kernel
theorem d8_2 : decode prog_4_method_36_code 2 = .ok (.putfield 26, 3) := by decide +kernel
theorem d8_5 : decode prog_4_method_36_code 5 = .ok (.return_, 1) := by decide +kernel
theorem ef_8 (m : MethodId) (x0 : Addr) (x1 : Int32) : entryFrame m #[(.ref x0), (.int x1)] 2 = mkF m 0 #[.val (.ref x0), .val (.int x1)] [] := by first | (simp [entryFrame, mkF, argsToLocals, Value.category]; done) | rfl
def Q8 (Z : State) (a : Addr) (x1 : Int32) (u_inFront : Int32) (u_frontMovesPosted : Int32) (u_inFrontAsPosted : Int32) (h0 : Heap) (n0 : Nat) (v : Option Value) (h : Heap) (L : List Loc) : Prop := v = none ∧ Fr n0 L ∧ Keep h0 h [a] ∧ Exa Z h a "com/example/lean_lifecycle/leanlifecycle/ActivityManager" ∧ Fld Z h a "com/example/lean_lifecycle/leanlifecycle/ActivityManager" "inFront" "Z" (.int (nar .boolean x1)) ∧ Fld Z h a "com/example/lean_lifecycle/leanlifecycle/ActivityManager" "frontMovesPosted" "I" (.int u_frontMovesPosted) ∧ Fld Z h a "com/example/lean_lifecycle/leanlifecycle/ActivityManager" "inFrontAsPosted" "Z" (.int u_inFrontAsPosted)
set_option maxRecDepth 65536 in
set_option maxHeartbeats 40000000 in
theorem rm8 (l : Launch) (Z : State) (a0 : Array Value) (hw : ∀ d ∈ tables_1, d.before a0 Z = true) (ws : List Jvm.Cond) (a : Addr) (x1 : Int32) (u_inFront : Int32) (u_frontMovesPosted : Int32) (u_inFrontAsPosted : Int32) (h0 : Heap) (n0 : Nat) (Z0 : n0 ≤ h0.size) (Ea : Exa Z h0 a "com/example/lean_lifecycle/leanlifecycle/ActivityManager") (F_inFront : Fld Z h0 a "com/example/lean_lifecycle/leanlifecycle/ActivityManager" "inFront" "Z" (.int u_inFront)) (F_frontMovesPosted : Fld Z h0 a "com/example/lean_lifecycle/leanlifecycle/ActivityManager" "frontMovesPosted" "I" (.int u_frontMovesPosted)) (F_inFrontAsPosted : Fld Z h0 a "com/example/lean_lifecycle/leanlifecycle/ActivityManager" "inFrontAsPosted" "Z" (.int u_inFrontAsPosted)) (ga : n0 ≤ a) :
    MetFree l (⟨"com/example/lean_lifecycle/leanlifecycle/ActivityManager", "setInFront", "(Z)V"⟩ : MethodName) (head1 (Jvm.Cond.code (⟨"com/example/lean_lifecycle/leanlifecycle/ActivityManager", "setInFront", "(Z)V"⟩ : MethodName) prog_4_method_36_code 2 none :: ws) ({ frames := 0, cells := 0, slots := 0, locals := 0 } : Room)) (fun aa U => aa = #[(.ref a), (.int x1)] ∧ Z.Warmed39 U.vm ∧ U.heap = h0) (fun _ _ _ _ _ => True) (fun _ U o U' => ∃ v L, o = .returned v ∧ Q8 Z a x1 u_inFront u_frontMovesPosted u_inFrontAsPosted h0 n0 v U'.heap L ∧ FrameEnd U o U' L ({ frames := 0, cells := 0, slots := 0, locals := 0 } : Room).cells ({ frames := 0, cells := 0, slots := 0, locals := 0 } : Room).slots) := by
  refine MetFree.of_bodySF (plainFor_of_name pn_5) hisR ?_
  intro p e s m args below meth c s₁ Bd hml0 hP hK
  obtain ⟨rfl, hZ, hh⟩ := hP
  have hx := Bd.exec
  have hby := Bd.bytes
  have hml : c.maxLocals = 2 := hml0
  have hown : s.vm.findClass "com/example/lean_lifecycle/leanlifecycle/ActivityManager" = some m.cls := findClass_of_methodNamed Bd.named
  have hnm := (name_of_methodNamed Bd.named Bd.method).1
  have X0 : Stand p l e ({ frames := 0, cells := 0, slots := 0, locals := 0 } : Room) s m #[(.ref a), (.int x1)] below meth c s₁ [] 0 0 := Stand.of_body Bd
  have e0 : s₁.heap = h0 := by rw [← hh, Bd.state]; rfl
  have N0 := Fr.nil n0
  have pre0 : ∀ t, Steps p.tables e below (s₁.setTop (mkF m 0 #[.val (.ref a), .val (.int x1)] [])) t → Steps p.tables e below (s₁.setTop (entryFrame m #[(.ref a), (.int x1)] 2)) t := fun t k => castTop (ef_8 m a x1) k
  have pre1 : ∀ t, Steps p.tables e below (s₁.setTop (mkF m 2 #[.val (.ref a), .val (.int x1)] [(.int x1), (.ref a)])) t → Steps p.tables e below (s₁.setTop (entryFrame m #[(.ref a), (.int x1)] 2)) t := fun t k => pre0 t (by
    show Steps p.tables e below (s₁.setTop (mkF m 0 #[.val (.ref a), .val (.int x1)] [])) _
    refine XS.aloadN X0.here hx rfl (hb hby d8_0) rfl rfl ?_
    show Steps p.tables e below (s₁.setTop (mkF m 1 #[.val (.ref a), .val (.int x1)] [(.ref a)])) _
    refine XS.iloadN X0.here hx rfl (hb hby d8_1) rfl ?_
    show Steps p.tables e below (s₁.setTop (mkF m 2 #[.val (.ref a), .val (.int x1)] [(.int x1), (.ref a)])) _
    exact k)
  obtain ⟨T2, h2, X2, e2, W2, st2⟩ := putFN X0 hx hZ hown (hw _ (List.mem_of_getElem? (i := 56) rfl)) Via.refl e0 F_inFront Ea (Or.inl (hw _ (List.mem_of_getElem? (i := 57) rfl))) (hw _ (List.mem_of_getElem? (i := 2) rfl)) (ty := .boolean) (v' := (.int (nar .boolean x1))) (by decide) rfl (fits_nar_bool _) (g := (mkF m 2 #[.val (.ref a), .val (.int x1)] [(.int x1), (.ref a)])) rfl rfl (hb hby d8_2)
  have Fw2 : Fld Z h2 a "com/example/lean_lifecycle/leanlifecycle/ActivityManager" "inFront" "Z" (.int (nar .boolean x1)) := (F_inFront).same W2
  have c3 := (Ea).wr W2
  have c5 := (F_frontMovesPosted).other W2 (Or.inr (slot_ne (Or.inl (hw _ (List.mem_of_getElem? (i := 69) rfl))) (Or.inl (hw _ (List.mem_of_getElem? (i := 57) rfl))) (by decide) (t := .int) (t' := .boolean) (by decide) (by decide)))
  have c6 := (F_inFrontAsPosted).other W2 (Or.inr (slot_ne (Or.inl (hw _ (List.mem_of_getElem? (i := 71) rfl))) (Or.inl (hw _ (List.mem_of_getElem? (i := 57) rfl))) (by decide) (t := .boolean) (t' := .boolean) (by decide) (by decide)))
  have N2 := Fr.snoc X2 N0 ga
  have Zz2 : n0 ≤ h2.size := Nat.le_trans Z0 (Keep.of_wr W2).1
  have pre7 : ∀ t, Steps p.tables e below (T2.setTop (mkF m 5 #[.val (.ref a), .val (.int x1)] [])) t → Steps p.tables e below (s₁.setTop (entryFrame m #[(.ref a), (.int x1)] 2)) t := fun t k => pre1 t (st2 _ k)
  have Kp2 : Keep h0 h2 [a] := ((Keep.refl h0 [a])).wr W2 (Or.inl (List.mem_of_getElem? (i := 0) rfl))
  obtain ⟨fs, hr, hrun, hended, hW, hsame⟩ := X2.leave (v := none) (fun _ => rfl)
  refine ⟨_, _, pre7 _ ?_, hrun, hended, _, _, rfl, ?_, ⟨_, rfl⟩, hW, hsame.mono (by decide) (by decide)⟩
  · show Steps p.tables e below (T2.setTop (mkF m 5 #[.val (.ref a), .val (.int x1)] [])) _
    exact X2.returnOut hx Bd.returns (hb hby d8_5) hr
  · show Q8 Z a x1 u_inFront u_frontMovesPosted u_inFrontAsPosted h0 n0 _ T2.heap _
    rw [e2]
    exact ⟨rfl, N2, Kp2, c3, Fw2, c5, c6⟩
theorem d9_0 : decode prog_4_method_38_code 0 = .ok (.aload_n 0, 1) := by decide +kernel
theorem d9_1 : decode prog_4_method_38_code 1 = .ok (.dup, 1) := by decide +kernel
theorem d9_2 : decode prog_4_method_38_code 2 = .ok (.getfield 265, 3) := by decide +kernel
theorem d9_5 : decode prog_4_method_38_code 5 = .ok (.iconst 1, 1) := by decide +kernel
theorem d9_6 : decode prog_4_method_38_code 6 = .ok (.iadd, 1) := by decide +kernel
theorem d9_7 : decode prog_4_method_38_code 7 = .ok (.putfield 265, 3) := by decide +kernel
theorem d9_10 : decode prog_4_method_38_code 10 = .ok (.aload_n 0, 1) := by decide +kernel
theorem d9_11 : decode prog_4_method_38_code 11 = .ok (.iload_n 1, 1) := by decide +kernel
theorem d9_12 : decode prog_4_method_38_code 12 = .ok (.putfield 269, 3) := by decide +kernel
theorem d9_15 : decode prog_4_method_38_code 15 = .ok (.return_, 1) := by decide +kernel
theorem ef_9 (m : MethodId) (x0 : Addr) (x1 : Int32) : entryFrame m #[(.ref x0), (.int x1)] 2 = mkF m 0 #[.val (.ref x0), .val (.int x1)] [] := by first | (simp [entryFrame, mkF, argsToLocals, Value.category]; done) | rfl
def Q9 (Z : State) (a : Addr) (x1 : Int32) (u_inFront : Int32) (u_frontMovesPosted : Int32) (u_inFrontAsPosted : Int32) (h0 : Heap) (n0 : Nat) (v : Option Value) (h : Heap) (L : List Loc) : Prop := v = none ∧ Fr n0 L ∧ Keep h0 h [a] ∧ Exa Z h a "com/example/lean_lifecycle/leanlifecycle/ActivityManager" ∧ Fld Z h a "com/example/lean_lifecycle/leanlifecycle/ActivityManager" "inFront" "Z" (.int u_inFront) ∧ Fld Z h a "com/example/lean_lifecycle/leanlifecycle/ActivityManager" "frontMovesPosted" "I" (.int (u_frontMovesPosted + (1 : Int32))) ∧ Fld Z h a "com/example/lean_lifecycle/leanlifecycle/ActivityManager" "inFrontAsPosted" "Z" (.int (nar .boolean x1))
set_option maxRecDepth 65536 in
set_option maxHeartbeats 40000000 in
theorem rm9 (l : Launch) (Z : State) (a0 : Array Value) (hw : ∀ d ∈ tables_1, d.before a0 Z = true) (ws : List Jvm.Cond) (a : Addr) (x1 : Int32) (u_inFront : Int32) (u_frontMovesPosted : Int32) (u_inFrontAsPosted : Int32) (h0 : Heap) (n0 : Nat) (Z0 : n0 ≤ h0.size) (Ea : Exa Z h0 a "com/example/lean_lifecycle/leanlifecycle/ActivityManager") (F_inFront : Fld Z h0 a "com/example/lean_lifecycle/leanlifecycle/ActivityManager" "inFront" "Z" (.int u_inFront)) (F_frontMovesPosted : Fld Z h0 a "com/example/lean_lifecycle/leanlifecycle/ActivityManager" "frontMovesPosted" "I" (.int u_frontMovesPosted)) (F_inFrontAsPosted : Fld Z h0 a "com/example/lean_lifecycle/leanlifecycle/ActivityManager" "inFrontAsPosted" "Z" (.int u_inFrontAsPosted)) (ga : n0 ≤ a) :
    MetFree l (⟨"com/example/lean_lifecycle/leanlifecycle/ActivityManager", "postFrontMove", "(Z)V"⟩ : MethodName) (head1 (Jvm.Cond.code (⟨"com/example/lean_lifecycle/leanlifecycle/ActivityManager", "postFrontMove", "(Z)V"⟩ : MethodName) prog_4_method_38_code 2 none :: ws) ({ frames := 0, cells := 0, slots := 0, locals := 0 } : Room)) (fun aa U => aa = #[(.ref a), (.int x1)] ∧ Z.Warmed39 U.vm ∧ U.heap = h0) (fun _ _ _ _ _ => True) (fun _ U o U' => ∃ v L, o = .returned v ∧ Q9 Z a x1 u_inFront u_frontMovesPosted u_inFrontAsPosted h0 n0 v U'.heap L ∧ FrameEnd U o U' L ({ frames := 0, cells := 0, slots := 0, locals := 0 } : Room).cells ({ frames := 0, cells := 0, slots := 0, locals := 0 } : Room).slots) := by
  refine MetFree.of_bodySF (plainFor_of_name pn_5) hisR ?_
  intro p e s m args below meth c s₁ Bd hml0 hP hK
  obtain ⟨rfl, hZ, hh⟩ := hP
  have hx := Bd.exec
  have hby := Bd.bytes
  have hml : c.maxLocals = 2 := hml0
  have hown : s.vm.findClass "com/example/lean_lifecycle/leanlifecycle/ActivityManager" = some m.cls := findClass_of_methodNamed Bd.named
  have hnm := (name_of_methodNamed Bd.named Bd.method).1
  have X0 : Stand p l e ({ frames := 0, cells := 0, slots := 0, locals := 0 } : Room) s m #[(.ref a), (.int x1)] below meth c s₁ [] 0 0 := Stand.of_body Bd
  have e0 : s₁.heap = h0 := by rw [← hh, Bd.state]; rfl
  have N0 := Fr.nil n0
  have pre0 : ∀ t, Steps p.tables e below (s₁.setTop (mkF m 0 #[.val (.ref a), .val (.int x1)] [])) t → Steps p.tables e below (s₁.setTop (entryFrame m #[(.ref a), (.int x1)] 2)) t := fun t k => castTop (ef_9 m a x1) k
  have pre1 : ∀ t, Steps p.tables e below (s₁.setTop (mkF m 2 #[.val (.ref a), .val (.int x1)] [(.ref a), (.ref a)])) t → Steps p.tables e below (s₁.setTop (entryFrame m #[(.ref a), (.int x1)] 2)) t := fun t k => pre0 t (by
    show Steps p.tables e below (s₁.setTop (mkF m 0 #[.val (.ref a), .val (.int x1)] [])) _
    refine XS.aloadN X0.here hx rfl (hb hby d9_0) rfl rfl ?_
    show Steps p.tables e below (s₁.setTop (mkF m 1 #[.val (.ref a), .val (.int x1)] [(.ref a)])) _
    refine XS.dup X0.here hx rfl (hb hby d9_1) rfl rfl ?_
    show Steps p.tables e below (s₁.setTop (mkF m 2 #[.val (.ref a), .val (.int x1)] [(.ref a), (.ref a)])) _
    exact k)
  obtain ⟨T2, X2, e2, st2⟩ := getF X0 hx hZ hown (host := "") (Or.inl (hw _ (List.mem_of_getElem? (i := 68) rfl))) Via.refl e0 F_frontMovesPosted (g := (mkF m 2 #[.val (.ref a), .val (.int x1)] [(.ref a), (.ref a)])) rfl rfl (hb hby d9_2)
  have pre3 : ∀ t, Steps p.tables e below (T2.setTop (mkF m 5 #[.val (.ref a), .val (.int x1)] [(.int u_frontMovesPosted), (.ref a)])) t → Steps p.tables e below (s₁.setTop (entryFrame m #[(.ref a), (.int x1)] 2)) t := fun t k => pre1 t (st2 _ k)
  have pre4 : ∀ t, Steps p.tables e below (T2.setTop (mkF m 7 #[.val (.ref a), .val (.int x1)] [(.int (u_frontMovesPosted + (1 : Int32))), (.ref a)])) t → Steps p.tables e below (s₁.setTop (entryFrame m #[(.ref a), (.int x1)] 2)) t := fun t k => pre3 t (by
    show Steps p.tables e below (T2.setTop (mkF m 5 #[.val (.ref a), .val (.int x1)] [(.int u_frontMovesPosted), (.ref a)])) _
    refine XS.iconst X2.here hx rfl (hb hby d9_5) ?_
    show Steps p.tables e below (T2.setTop (mkF m 6 #[.val (.ref a), .val (.int x1)] [(.int (1 : Int32)), (.int u_frontMovesPosted), (.ref a)])) _
    refine XS.iadd X2.here hx rfl (hb hby d9_6) rfl ?_
    show Steps p.tables e below (T2.setTop (mkF m 7 #[.val (.ref a), .val (.int x1)] [(.int (u_frontMovesPosted + (1 : Int32))), (.ref a)])) _
    exact k)
  obtain ⟨T5, h5, X5, e5, W5, st5⟩ := putF X2 hx hZ hown (host := "") (Or.inl (hw _ (List.mem_of_getElem? (i := 68) rfl))) Via.refl e2 F_frontMovesPosted Ea (Or.inl (hw _ (List.mem_of_getElem? (i := 69) rfl))) (hw _ (List.mem_of_getElem? (i := 2) rfl)) (ty := .int) (by decide) rfl rfl (g := (mkF m 7 #[.val (.ref a), .val (.int x1)] [(.int (u_frontMovesPosted + (1 : Int32))), (.ref a)])) rfl rfl (hb hby d9_7)
  have Fw5 : Fld Z h5 a "com/example/lean_lifecycle/leanlifecycle/ActivityManager" "frontMovesPosted" "I" (.int (u_frontMovesPosted + (1 : Int32))) := (F_frontMovesPosted).same W5
  have c6 := (Ea).wr W5
  have c7 := (F_inFront).other W5 (Or.inr (slot_ne (Or.inl (hw _ (List.mem_of_getElem? (i := 57) rfl))) (Or.inl (hw _ (List.mem_of_getElem? (i := 69) rfl))) (by decide) (t := .boolean) (t' := .int) (by decide) (by decide)))
  have c9 := (F_inFrontAsPosted).other W5 (Or.inr (slot_ne (Or.inl (hw _ (List.mem_of_getElem? (i := 71) rfl))) (Or.inl (hw _ (List.mem_of_getElem? (i := 69) rfl))) (by decide) (t := .boolean) (t' := .int) (by decide) (by decide)))
  have N5 := Fr.snoc X5 N0 ga
  have Zz5 : n0 ≤ h5.size := Nat.le_trans Z0 (Keep.of_wr W5).1
  have pre10 : ∀ t, Steps p.tables e below (T5.setTop (mkF m 10 #[.val (.ref a), .val (.int x1)] [])) t → Steps p.tables e below (s₁.setTop (entryFrame m #[(.ref a), (.int x1)] 2)) t := fun t k => pre4 t (st5 _ k)
  have Kp5 : Keep h0 h5 [a] := ((Keep.refl h0 [a])).wr W5 (Or.inl (List.mem_of_getElem? (i := 0) rfl))
  have pre11 : ∀ t, Steps p.tables e below (T5.setTop (mkF m 12 #[.val (.ref a), .val (.int x1)] [(.int x1), (.ref a)])) t → Steps p.tables e below (s₁.setTop (entryFrame m #[(.ref a), (.int x1)] 2)) t := fun t k => pre10 t (by
    show Steps p.tables e below (T5.setTop (mkF m 10 #[.val (.ref a), .val (.int x1)] [])) _
    refine XS.aloadN X5.here hx rfl (hb hby d9_10) rfl rfl ?_
    show Steps p.tables e below (T5.setTop (mkF m 11 #[.val (.ref a), .val (.int x1)] [(.ref a)])) _
    refine XS.iloadN X5.here hx rfl (hb hby d9_11) rfl ?_
    show Steps p.tables e below (T5.setTop (mkF m 12 #[.val (.ref a), .val (.int x1)] [(.int x1), (.ref a)])) _
    exact k)
  obtain ⟨T12, h12, X12, e12, W12, st12⟩ := putFN X5 hx hZ hown (hw _ (List.mem_of_getElem? (i := 70) rfl)) Via.refl e5 c9 c6 (Or.inl (hw _ (List.mem_of_getElem? (i := 71) rfl))) (hw _ (List.mem_of_getElem? (i := 2) rfl)) (ty := .boolean) (v' := (.int (nar .boolean x1))) (by decide) rfl (fits_nar_bool _) (g := (mkF m 12 #[.val (.ref a), .val (.int x1)] [(.int x1), (.ref a)])) rfl rfl (hb hby d9_12)
  have Fw12 : Fld Z h12 a "com/example/lean_lifecycle/leanlifecycle/ActivityManager" "inFrontAsPosted" "Z" (.int (nar .boolean x1)) := (c9).same W12
  have c13 := (c6).wr W12
  have c14 := (c7).other W12 (Or.inr (slot_ne (Or.inl (hw _ (List.mem_of_getElem? (i := 57) rfl))) (Or.inl (hw _ (List.mem_of_getElem? (i := 71) rfl))) (by decide) (t := .boolean) (t' := .boolean) (by decide) (by decide)))
  have c16 := (Fw5).other W12 (Or.inr (slot_ne (Or.inl (hw _ (List.mem_of_getElem? (i := 69) rfl))) (Or.inl (hw _ (List.mem_of_getElem? (i := 71) rfl))) (by decide) (t := .int) (t' := .boolean) (by decide) (by decide)))
  have N12 := Fr.snoc X12 N5 ga
  have Zz12 : n0 ≤ h12.size := Nat.le_trans Zz5 (Keep.of_wr W12).1
  have pre17 : ∀ t, Steps p.tables e below (T12.setTop (mkF m 15 #[.val (.ref a), .val (.int x1)] [])) t → Steps p.tables e below (s₁.setTop (entryFrame m #[(.ref a), (.int x1)] 2)) t := fun t k => pre11 t (st12 _ k)
  have Kp12 : Keep h0 h12 [a] := (Kp5).wr W12 (Or.inl (List.mem_of_getElem? (i := 0) rfl))
  obtain ⟨fs, hr, hrun, hended, hW, hsame⟩ := X12.leave (v := none) (fun _ => rfl)
  refine ⟨_, _, pre17 _ ?_, hrun, hended, _, _, rfl, ?_, ⟨_, rfl⟩, hW, hsame.mono (by decide) (by decide)⟩
  · show Steps p.tables e below (T12.setTop (mkF m 15 #[.val (.ref a), .val (.int x1)] [])) _
    exact X12.returnOut hx Bd.returns (hb hby d9_15) hr
  · show Q9 Z a x1 u_inFront u_frontMovesPosted u_inFrontAsPosted h0 n0 _ T12.heap _
    rw [e12]
    exact ⟨rfl, N12, Kp12, c13, c14, c16, Fw12⟩
theorem d10_0 : decode prog_4_method_39_code 0 = .ok (.aload_n 0, 1) := by decide +kernel
theorem d10_1 : decode prog_4_method_39_code 1 = .ok (.dup, 1) := by decide +kernel
theorem d10_2 : decode prog_4_method_39_code 2 = .ok (.getfield 265, 3) := by decide +kernel
theorem d10_5 : decode prog_4_method_39_code 5 = .ok (.iconst 1, 1) := by decide +kernel
theorem d10_6 : decode prog_4_method_39_code 6 = .ok (.isub, 1) := by decide +kernel
theorem d10_7 : decode prog_4_method_39_code 7 = .ok (.putfield 265, 3) := by decide +kernel
theorem d10_10 : decode prog_4_method_39_code 10 = .ok (.return_, 1) := by decide +kernel
theorem ef_10 (m : MethodId) (x0 : Addr) : entryFrame m #[(.ref x0)] 1 = mkF m 0 #[.val (.ref x0)] [] := by first | (simp [entryFrame, mkF, argsToLocals, Value.category]; done) | rfl
def Q10 (Z : State) (a : Addr) (u_inFront : Int32) (u_frontMovesPosted : Int32) (u_inFrontAsPosted : Int32) (h0 : Heap) (n0 : Nat) (v : Option Value) (h : Heap) (L : List Loc) : Prop := v = none ∧ Fr n0 L ∧ Keep h0 h [a] ∧ Exa Z h a "com/example/lean_lifecycle/leanlifecycle/ActivityManager" ∧ Fld Z h a "com/example/lean_lifecycle/leanlifecycle/ActivityManager" "inFront" "Z" (.int u_inFront) ∧ Fld Z h a "com/example/lean_lifecycle/leanlifecycle/ActivityManager" "frontMovesPosted" "I" (.int (u_frontMovesPosted - (1 : Int32))) ∧ Fld Z h a "com/example/lean_lifecycle/leanlifecycle/ActivityManager" "inFrontAsPosted" "Z" (.int u_inFrontAsPosted)
set_option maxRecDepth 65536 in
set_option maxHeartbeats 40000000 in
theorem rm10 (l : Launch) (Z : State) (a0 : Array Value) (hw : ∀ d ∈ tables_1, d.before a0 Z = true) (ws : List Jvm.Cond) (a : Addr) (u_inFront : Int32) (u_frontMovesPosted : Int32) (u_inFrontAsPosted : Int32) (h0 : Heap) (n0 : Nat) (Z0 : n0 ≤ h0.size) (Ea : Exa Z h0 a "com/example/lean_lifecycle/leanlifecycle/ActivityManager") (F_inFront : Fld Z h0 a "com/example/lean_lifecycle/leanlifecycle/ActivityManager" "inFront" "Z" (.int u_inFront)) (F_frontMovesPosted : Fld Z h0 a "com/example/lean_lifecycle/leanlifecycle/ActivityManager" "frontMovesPosted" "I" (.int u_frontMovesPosted)) (F_inFrontAsPosted : Fld Z h0 a "com/example/lean_lifecycle/leanlifecycle/ActivityManager" "inFrontAsPosted" "Z" (.int u_inFrontAsPosted)) (ga : n0 ≤ a) :
    MetFree l (⟨"com/example/lean_lifecycle/leanlifecycle/ActivityManager", "endFrontMove", "()V"⟩ : MethodName) (head1 (Jvm.Cond.code (⟨"com/example/lean_lifecycle/leanlifecycle/ActivityManager", "endFrontMove", "()V"⟩ : MethodName) prog_4_method_39_code 1 none :: ws) ({ frames := 0, cells := 0, slots := 0, locals := 0 } : Room)) (fun aa U => aa = #[(.ref a)] ∧ Z.Warmed39 U.vm ∧ U.heap = h0) (fun _ _ _ _ _ => True) (fun _ U o U' => ∃ v L, o = .returned v ∧ Q10 Z a u_inFront u_frontMovesPosted u_inFrontAsPosted h0 n0 v U'.heap L ∧ FrameEnd U o U' L ({ frames := 0, cells := 0, slots := 0, locals := 0 } : Room).cells ({ frames := 0, cells := 0, slots := 0, locals := 0 } : Room).slots) := by
  refine MetFree.of_bodySF (plainFor_of_name pn_5) hisR ?_
  intro p e s m args below meth c s₁ Bd hml0 hP hK
  obtain ⟨rfl, hZ, hh⟩ := hP
  have hx := Bd.exec
  have hby := Bd.bytes
  have hml : c.maxLocals = 1 := hml0
  have hown : s.vm.findClass "com/example/lean_lifecycle/leanlifecycle/ActivityManager" = some m.cls := findClass_of_methodNamed Bd.named
  have hnm := (name_of_methodNamed Bd.named Bd.method).1
  have X0 : Stand p l e ({ frames := 0, cells := 0, slots := 0, locals := 0 } : Room) s m #[(.ref a)] below meth c s₁ [] 0 0 := Stand.of_body Bd
  have e0 : s₁.heap = h0 := by rw [← hh, Bd.state]; rfl
  have N0 := Fr.nil n0
  have pre0 : ∀ t, Steps p.tables e below (s₁.setTop (mkF m 0 #[.val (.ref a)] [])) t → Steps p.tables e below (s₁.setTop (entryFrame m #[(.ref a)] 1)) t := fun t k => castTop (ef_10 m a) k
  have pre1 : ∀ t, Steps p.tables e below (s₁.setTop (mkF m 2 #[.val (.ref a)] [(.ref a), (.ref a)])) t → Steps p.tables e below (s₁.setTop (entryFrame m #[(.ref a)] 1)) t := fun t k => pre0 t (by
    show Steps p.tables e below (s₁.setTop (mkF m 0 #[.val (.ref a)] [])) _
    refine XS.aloadN X0.here hx rfl (hb hby d10_0) rfl rfl ?_
    show Steps p.tables e below (s₁.setTop (mkF m 1 #[.val (.ref a)] [(.ref a)])) _
    refine XS.dup X0.here hx rfl (hb hby d10_1) rfl rfl ?_
    show Steps p.tables e below (s₁.setTop (mkF m 2 #[.val (.ref a)] [(.ref a), (.ref a)])) _
    exact k)
  obtain ⟨T2, X2, e2, st2⟩ := getF X0 hx hZ hown (host := "") (Or.inl (hw _ (List.mem_of_getElem? (i := 68) rfl))) Via.refl e0 F_frontMovesPosted (g := (mkF m 2 #[.val (.ref a)] [(.ref a), (.ref a)])) rfl rfl (hb hby d10_2)
  have pre3 : ∀ t, Steps p.tables e below (T2.setTop (mkF m 5 #[.val (.ref a)] [(.int u_frontMovesPosted), (.ref a)])) t → Steps p.tables e below (s₁.setTop (entryFrame m #[(.ref a)] 1)) t := fun t k => pre1 t (st2 _ k)
  have pre4 : ∀ t, Steps p.tables e below (T2.setTop (mkF m 7 #[.val (.ref a)] [(.int (u_frontMovesPosted - (1 : Int32))), (.ref a)])) t → Steps p.tables e below (s₁.setTop (entryFrame m #[(.ref a)] 1)) t := fun t k => pre3 t (by
    show Steps p.tables e below (T2.setTop (mkF m 5 #[.val (.ref a)] [(.int u_frontMovesPosted), (.ref a)])) _
    refine XS.iconst X2.here hx rfl (hb hby d10_5) ?_
    show Steps p.tables e below (T2.setTop (mkF m 6 #[.val (.ref a)] [(.int (1 : Int32)), (.int u_frontMovesPosted), (.ref a)])) _
    refine XS.isub X2.here hx rfl (hb hby d10_6) rfl ?_
    show Steps p.tables e below (T2.setTop (mkF m 7 #[.val (.ref a)] [(.int (u_frontMovesPosted - (1 : Int32))), (.ref a)])) _
    exact k)
  obtain ⟨T5, h5, X5, e5, W5, st5⟩ := putF X2 hx hZ hown (host := "") (Or.inl (hw _ (List.mem_of_getElem? (i := 68) rfl))) Via.refl e2 F_frontMovesPosted Ea (Or.inl (hw _ (List.mem_of_getElem? (i := 69) rfl))) (hw _ (List.mem_of_getElem? (i := 2) rfl)) (ty := .int) (by decide) rfl rfl (g := (mkF m 7 #[.val (.ref a)] [(.int (u_frontMovesPosted - (1 : Int32))), (.ref a)])) rfl rfl (hb hby d10_7)
  have Fw5 : Fld Z h5 a "com/example/lean_lifecycle/leanlifecycle/ActivityManager" "frontMovesPosted" "I" (.int (u_frontMovesPosted - (1 : Int32))) := (F_frontMovesPosted).same W5
  have c6 := (Ea).wr W5
  have c7 := (F_inFront).other W5 (Or.inr (slot_ne (Or.inl (hw _ (List.mem_of_getElem? (i := 57) rfl))) (Or.inl (hw _ (List.mem_of_getElem? (i := 69) rfl))) (by decide) (t := .boolean) (t' := .int) (by decide) (by decide)))
  have c9 := (F_inFrontAsPosted).other W5 (Or.inr (slot_ne (Or.inl (hw _ (List.mem_of_getElem? (i := 71) rfl))) (Or.inl (hw _ (List.mem_of_getElem? (i := 69) rfl))) (by decide) (t := .boolean) (t' := .int) (by decide) (by decide)))
  have N5 := Fr.snoc X5 N0 ga
  have Zz5 : n0 ≤ h5.size := Nat.le_trans Z0 (Keep.of_wr W5).1
  have pre10 : ∀ t, Steps p.tables e below (T5.setTop (mkF m 10 #[.val (.ref a)] [])) t → Steps p.tables e below (s₁.setTop (entryFrame m #[(.ref a)] 1)) t := fun t k => pre4 t (st5 _ k)
  have Kp5 : Keep h0 h5 [a] := ((Keep.refl h0 [a])).wr W5 (Or.inl (List.mem_of_getElem? (i := 0) rfl))
  obtain ⟨fs, hr, hrun, hended, hW, hsame⟩ := X5.leave (v := none) (fun _ => rfl)
  refine ⟨_, _, pre10 _ ?_, hrun, hended, _, _, rfl, ?_, ⟨_, rfl⟩, hW, hsame.mono (by decide) (by decide)⟩
  · show Steps p.tables e below (T5.setTop (mkF m 10 #[.val (.ref a)] [])) _
    exact X5.returnOut hx Bd.returns (hb hby d10_10) hr
  · show Q10 Z a u_inFront u_frontMovesPosted u_inFrontAsPosted h0 n0 _ T5.heap _
    rw [e5]
    exact ⟨rfl, N5, Kp5, c6, c7, Fw5, c9⟩
def F11 (u_inFront : Int32) (u_frontMovesPosted : Int32) (u_inFrontAsPosted : Int32) : Int32 := (if (0 : Int32) < u_frontMovesPosted then (nar .boolean u_inFrontAsPosted) else (nar .boolean u_inFront))
theorem d11_0 : decode prog_4_method_37_code 0 = .ok (.aload_n 0, 1) := by decide +kernel
theorem d11_1 : decode prog_4_method_37_code 1 = .ok (.getfield 265, 3) := by decide +kernel
theorem d11_4 : decode prog_4_method_37_code 4 = .ok (.ifCond .le 10, 3) := by decide +kernel
theorem d11_7 : decode prog_4_method_37_code 7 = .ok (.aload_n 0, 1) := by decide +kernel
theorem d11_8 : decode prog_4_method_37_code 8 = .ok (.getfield 269, 3) := by decide +kernel
theorem d11_11 : decode prog_4_method_37_code 11 = .ok (.goto 7, 3) := by decide +kernel
theorem d11_14 : decode prog_4_method_37_code 14 = .ok (.aload_n 0, 1) := by decide +kernel
theorem d11_15 : decode prog_4_method_37_code 15 = .ok (.getfield 26, 3) := by decide +kernel
theorem d11_18 : decode prog_4_method_37_code 18 = .ok (.ireturn, 1) := by decide +kernel
theorem ef_11 (m : MethodId) (x0 : Addr) : entryFrame m #[(.ref x0)] 1 = mkF m 0 #[.val (.ref x0)] [] := by first | (simp [entryFrame, mkF, argsToLocals, Value.category]; done) | rfl
def Q11 (Z : State) (a : Addr) (u_inFront : Int32) (u_frontMovesPosted : Int32) (u_inFrontAsPosted : Int32) (h0 : Heap) (n0 : Nat) (v : Option Value) (h : Heap) (L : List Loc) : Prop := ∃ z : Int32, v = some (.int z) ∧ Fr n0 L ∧ h = h0 ∧ (z = F11 u_inFront u_frontMovesPosted u_inFrontAsPosted)
set_option maxRecDepth 65536 in
set_option maxHeartbeats 40000000 in
theorem rm11 (l : Launch) (Z : State) (a0 : Array Value) (hw : ∀ d ∈ tables_1, d.before a0 Z = true) (ws : List Jvm.Cond) (a : Addr) (u_inFront : Int32) (u_frontMovesPosted : Int32) (u_inFrontAsPosted : Int32) (h0 : Heap) (n0 : Nat) (Z0 : n0 ≤ h0.size) (F_inFront : Fld Z h0 a "com/example/lean_lifecycle/leanlifecycle/ActivityManager" "inFront" "Z" (.int u_inFront)) (F_frontMovesPosted : Fld Z h0 a "com/example/lean_lifecycle/leanlifecycle/ActivityManager" "frontMovesPosted" "I" (.int u_frontMovesPosted)) (F_inFrontAsPosted : Fld Z h0 a "com/example/lean_lifecycle/leanlifecycle/ActivityManager" "inFrontAsPosted" "Z" (.int u_inFrontAsPosted)) :
    MetFree l (⟨"com/example/lean_lifecycle/leanlifecycle/ActivityManager", "isInFrontAsPosted", "()Z"⟩ : MethodName) (head1 (Jvm.Cond.code (⟨"com/example/lean_lifecycle/leanlifecycle/ActivityManager", "isInFrontAsPosted", "()Z"⟩ : MethodName) prog_4_method_37_code 1 (some .boolean) :: ws) ({ frames := 0, cells := 0, slots := 0, locals := 0 } : Room)) (fun aa U => aa = #[(.ref a)] ∧ Z.Warmed39 U.vm ∧ U.heap = h0) (fun _ _ _ _ _ => True) (fun _ U o U' => ∃ v L, o = .returned v ∧ Q11 Z a u_inFront u_frontMovesPosted u_inFrontAsPosted h0 n0 v U'.heap L ∧ FrameEnd U o U' L ({ frames := 0, cells := 0, slots := 0, locals := 0 } : Room).cells ({ frames := 0, cells := 0, slots := 0, locals := 0 } : Room).slots) := by
  refine MetFree.of_bodySF (plainFor_of_name pn_5) hisR ?_
  intro p e s m args below meth c s₁ Bd hml0 hP hK
  obtain ⟨rfl, hZ, hh⟩ := hP
  have hx := Bd.exec
  have hby := Bd.bytes
  have hml : c.maxLocals = 1 := hml0
  have hown : s.vm.findClass "com/example/lean_lifecycle/leanlifecycle/ActivityManager" = some m.cls := findClass_of_methodNamed Bd.named
  have hnm := (name_of_methodNamed Bd.named Bd.method).1
  have X0 : Stand p l e ({ frames := 0, cells := 0, slots := 0, locals := 0 } : Room) s m #[(.ref a)] below meth c s₁ [] 0 0 := Stand.of_body Bd
  have e0 : s₁.heap = h0 := by rw [← hh, Bd.state]; rfl
  have N0 := Fr.nil n0
  have pre0 : ∀ t, Steps p.tables e below (s₁.setTop (mkF m 0 #[.val (.ref a)] [])) t → Steps p.tables e below (s₁.setTop (entryFrame m #[(.ref a)] 1)) t := fun t k => castTop (ef_11 m a) k
  have pre1 : ∀ t, Steps p.tables e below (s₁.setTop (mkF m 1 #[.val (.ref a)] [(.ref a)])) t → Steps p.tables e below (s₁.setTop (entryFrame m #[(.ref a)] 1)) t := fun t k => pre0 t (by
    show Steps p.tables e below (s₁.setTop (mkF m 0 #[.val (.ref a)] [])) _
    refine XS.aloadN X0.here hx rfl (hb hby d11_0) rfl rfl ?_
    show Steps p.tables e below (s₁.setTop (mkF m 1 #[.val (.ref a)] [(.ref a)])) _
    exact k)
  obtain ⟨T2, X2, e2, st2⟩ := getF X0 hx hZ hown (host := "") (Or.inl (hw _ (List.mem_of_getElem? (i := 68) rfl))) Via.refl e0 F_frontMovesPosted (g := (mkF m 1 #[.val (.ref a)] [(.ref a)])) rfl rfl (hb hby d11_1)
  have pre3 : ∀ t, Steps p.tables e below (T2.setTop (mkF m 4 #[.val (.ref a)] [(.int u_frontMovesPosted)])) t → Steps p.tables e below (s₁.setTop (entryFrame m #[(.ref a)] 1)) t := fun t k => pre1 t (st2 _ k)
  by_cases hc4 : (0 : Int32) < u_frontMovesPosted
  · skip
    have pre5 : ∀ t, Steps p.tables e below (T2.setTop (mkF m 8 #[.val (.ref a)] [(.ref a)])) t → Steps p.tables e below (s₁.setTop (entryFrame m #[(.ref a)] 1)) t := fun t k => pre3 t (by
      show Steps p.tables e below (T2.setTop (mkF m 4 #[.val (.ref a)] [(.int u_frontMovesPosted)])) _
      refine XS.ifNo X2.here hx rfl (hb hby d11_4) rfl ((if0 _ _).trans (tlt hc4).2.2.2) ?_
      show Steps p.tables e below (T2.setTop (mkF m 7 #[.val (.ref a)] [])) _
      refine XS.aloadN X2.here hx rfl (hb hby d11_7) rfl rfl ?_
      show Steps p.tables e below (T2.setTop (mkF m 8 #[.val (.ref a)] [(.ref a)])) _
      exact k)
    obtain ⟨T6, X6, e6, st6⟩ := getF X2 hx hZ hown (host := "") (Or.inl (hw _ (List.mem_of_getElem? (i := 70) rfl))) Via.refl e2 F_inFrontAsPosted (g := (mkF m 8 #[.val (.ref a)] [(.ref a)])) rfl rfl (hb hby d11_8)
    have pre7 : ∀ t, Steps p.tables e below (T6.setTop (mkF m 11 #[.val (.ref a)] [(.int u_inFrontAsPosted)])) t → Steps p.tables e below (s₁.setTop (entryFrame m #[(.ref a)] 1)) t := fun t k => pre5 t (st6 _ k)
    have pre8 : ∀ t, Steps p.tables e below (T6.setTop (mkF m 18 #[.val (.ref a)] [(.int u_inFrontAsPosted)])) t → Steps p.tables e below (s₁.setTop (entryFrame m #[(.ref a)] 1)) t := fun t k => pre7 t (by
      show Steps p.tables e below (T6.setTop (mkF m 11 #[.val (.ref a)] [(.int u_inFrontAsPosted)])) _
      refine XS.goto X6.here hx rfl (pc0 := 11) (pc' := 18) rfl (hb hby d11_11) (by decide) (by decide) ?_
      show Steps p.tables e below (T6.setTop (mkF m 18 #[.val (.ref a)] [(.int u_inFrontAsPosted)])) _
      exact k)
    obtain ⟨fs, hr, hrun, hended, hW, hsame⟩ := X6.leave (v := some (.int (nar .boolean u_inFrontAsPosted))) (fun h => by rw [Bd.returns] at h; cases h)
    refine ⟨_, _, pre8 _ ?_, hrun, hended, _, _, rfl, ?_, ⟨_, rfl⟩, hW, hsame.mono (by decide) (by decide)⟩
    · show Steps p.tables e below (T6.setTop (mkF m 18 #[.val (.ref a)] [(.int u_inFrontAsPosted)])) _
      exact retN X6 hx (t := .boolean) Bd.returns (by simp) (hb hby d11_18) hr
    · show Q11 Z a u_inFront u_frontMovesPosted u_inFrontAsPosted h0 n0 _ T6.heap _
      rw [e6]
      exact ⟨_, rfl, N0, rfl, by rw [F11, if_pos hc4]⟩
  · skip
    have pre9 : ∀ t, Steps p.tables e below (T2.setTop (mkF m 15 #[.val (.ref a)] [(.ref a)])) t → Steps p.tables e below (s₁.setTop (entryFrame m #[(.ref a)] 1)) t := fun t k => pre3 t (by
      show Steps p.tables e below (T2.setTop (mkF m 4 #[.val (.ref a)] [(.int u_frontMovesPosted)])) _
      refine XS.ifYes X2.here hx rfl (pc0 := 4) (pc' := 14) rfl (hb hby d11_4) rfl ((if0 _ _).trans (flt hc4).2.2.2) (by decide) (by decide) ?_
      show Steps p.tables e below (T2.setTop (mkF m 14 #[.val (.ref a)] [])) _
      refine XS.aloadN X2.here hx rfl (hb hby d11_14) rfl rfl ?_
      show Steps p.tables e below (T2.setTop (mkF m 15 #[.val (.ref a)] [(.ref a)])) _
      exact k)
    obtain ⟨T10, X10, e10, st10⟩ := getF X2 hx hZ hown (host := "") (Or.inl (hw _ (List.mem_of_getElem? (i := 56) rfl))) Via.refl e2 F_inFront (g := (mkF m 15 #[.val (.ref a)] [(.ref a)])) rfl rfl (hb hby d11_15)
    have pre11 : ∀ t, Steps p.tables e below (T10.setTop (mkF m 18 #[.val (.ref a)] [(.int u_inFront)])) t → Steps p.tables e below (s₁.setTop (entryFrame m #[(.ref a)] 1)) t := fun t k => pre9 t (st10 _ k)
    obtain ⟨fs, hr, hrun, hended, hW, hsame⟩ := X10.leave (v := some (.int (nar .boolean u_inFront))) (fun h => by rw [Bd.returns] at h; cases h)
    refine ⟨_, _, pre11 _ ?_, hrun, hended, _, _, rfl, ?_, ⟨_, rfl⟩, hW, hsame.mono (by decide) (by decide)⟩
    · show Steps p.tables e below (T10.setTop (mkF m 18 #[.val (.ref a)] [(.int u_inFront)])) _
      exact retN X10 hx (t := .boolean) Bd.returns (by simp) (hb hby d11_18) hr
    · show Q11 Z a u_inFront u_frontMovesPosted u_inFrontAsPosted h0 n0 _ T10.heap _
      rw [e10]
      exact ⟨_, rfl, N0, rfl, by rw [F11, if_neg hc4]⟩
def F12 (u_inFront : Int32) : Int32 := (nar .boolean u_inFront)
theorem d12_0 : decode prog_4_method_35_code 0 = .ok (.aload_n 0, 1) := by decide +kernel
theorem d12_1 : decode prog_4_method_35_code 1 = .ok (.getfield 26, 3) := by decide +kernel
theorem d12_4 : decode prog_4_method_35_code 4 = .ok (.ireturn, 1) := by decide +kernel
theorem ef_12 (m : MethodId) (x0 : Addr) : entryFrame m #[(.ref x0)] 1 = mkF m 0 #[.val (.ref x0)] [] := by first | (simp [entryFrame, mkF, argsToLocals, Value.category]; done) | rfl
def Q12 (Z : State) (a : Addr) (u_inFront : Int32) (h0 : Heap) (n0 : Nat) (v : Option Value) (h : Heap) (L : List Loc) : Prop := ∃ z : Int32, v = some (.int z) ∧ Fr n0 L ∧ h = h0 ∧ (z = F12 u_inFront)
set_option maxRecDepth 65536 in
set_option maxHeartbeats 40000000 in
theorem rm12 (l : Launch) (Z : State) (a0 : Array Value) (hw : ∀ d ∈ tables_1, d.before a0 Z = true) (ws : List Jvm.Cond) (a : Addr) (u_inFront : Int32) (h0 : Heap) (n0 : Nat) (Z0 : n0 ≤ h0.size) (F_inFront : Fld Z h0 a "com/example/lean_lifecycle/leanlifecycle/ActivityManager" "inFront" "Z" (.int u_inFront)) :
    MetFree l (⟨"com/example/lean_lifecycle/leanlifecycle/ActivityManager", "isInFront", "()Z"⟩ : MethodName) (head1 (Jvm.Cond.code (⟨"com/example/lean_lifecycle/leanlifecycle/ActivityManager", "isInFront", "()Z"⟩ : MethodName) prog_4_method_35_code 1 (some .boolean) :: ws) ({ frames := 0, cells := 0, slots := 0, locals := 0 } : Room)) (fun aa U => aa = #[(.ref a)] ∧ Z.Warmed39 U.vm ∧ U.heap = h0) (fun _ _ _ _ _ => True) (fun _ U o U' => ∃ v L, o = .returned v ∧ Q12 Z a u_inFront h0 n0 v U'.heap L ∧ FrameEnd U o U' L ({ frames := 0, cells := 0, slots := 0, locals := 0 } : Room).cells ({ frames := 0, cells := 0, slots := 0, locals := 0 } : Room).slots) := by
  refine MetFree.of_bodySF (plainFor_of_name pn_5) hisR ?_
  intro p e s m args below meth c s₁ Bd hml0 hP hK
  obtain ⟨rfl, hZ, hh⟩ := hP
  have hx := Bd.exec
  have hby := Bd.bytes
  have hml : c.maxLocals = 1 := hml0
  have hown : s.vm.findClass "com/example/lean_lifecycle/leanlifecycle/ActivityManager" = some m.cls := findClass_of_methodNamed Bd.named
  have hnm := (name_of_methodNamed Bd.named Bd.method).1
  have X0 : Stand p l e ({ frames := 0, cells := 0, slots := 0, locals := 0 } : Room) s m #[(.ref a)] below meth c s₁ [] 0 0 := Stand.of_body Bd
  have e0 : s₁.heap = h0 := by rw [← hh, Bd.state]; rfl
  have N0 := Fr.nil n0
  have pre0 : ∀ t, Steps p.tables e below (s₁.setTop (mkF m 0 #[.val (.ref a)] [])) t → Steps p.tables e below (s₁.setTop (entryFrame m #[(.ref a)] 1)) t := fun t k => castTop (ef_12 m a) k
  have pre1 : ∀ t, Steps p.tables e below (s₁.setTop (mkF m 1 #[.val (.ref a)] [(.ref a)])) t → Steps p.tables e below (s₁.setTop (entryFrame m #[(.ref a)] 1)) t := fun t k => pre0 t (by
    show Steps p.tables e below (s₁.setTop (mkF m 0 #[.val (.ref a)] [])) _
    refine XS.aloadN X0.here hx rfl (hb hby d12_0) rfl rfl ?_
    show Steps p.tables e below (s₁.setTop (mkF m 1 #[.val (.ref a)] [(.ref a)])) _
    exact k)
  obtain ⟨T2, X2, e2, st2⟩ := getF X0 hx hZ hown (host := "") (Or.inl (hw _ (List.mem_of_getElem? (i := 56) rfl))) Via.refl e0 F_inFront (g := (mkF m 1 #[.val (.ref a)] [(.ref a)])) rfl rfl (hb hby d12_1)
  have pre3 : ∀ t, Steps p.tables e below (T2.setTop (mkF m 4 #[.val (.ref a)] [(.int u_inFront)])) t → Steps p.tables e below (s₁.setTop (entryFrame m #[(.ref a)] 1)) t := fun t k => pre1 t (st2 _ k)
  obtain ⟨fs, hr, hrun, hended, hW, hsame⟩ := X2.leave (v := some (.int (nar .boolean u_inFront))) (fun h => by rw [Bd.returns] at h; cases h)
  refine ⟨_, _, pre3 _ ?_, hrun, hended, _, _, rfl, ?_, ⟨_, rfl⟩, hW, hsame.mono (by decide) (by decide)⟩
  · show Steps p.tables e below (T2.setTop (mkF m 4 #[.val (.ref a)] [(.int u_inFront)])) _
    exact retN X2 hx (t := .boolean) Bd.returns (by simp) (hb hby d12_4) hr
  · show Q12 Z a u_inFront h0 n0 _ T2.heap _
    rw [e2]
    exact ⟨_, rfl, N0, rfl, by rw [F12]⟩
set_option maxHeartbeats 8000000 in
theorem own_nz0_26 (x0 : Int32) (x1 : Int32) (x2 : Int32) (x3 : Int32) (v2 : Int32) (v4 : Int32) (hv2 : v2 = (if (x0 &&& (1 : Int32)) = (0 : Int32) then (0 : Int32) else (1 : Int32))) (hv4 : v4 = (x1 &&& (3 : Int32))) : (v4 + (1 : Int32)) ≠ (0 : Int32) := by
  exact own_nz x1 v4 hv4
theorem pd_1 : parseMethodDescriptor "(Z)V" = some ⟨[.boolean], none⟩ := by decide +kernel
theorem pd_2 : parseMethodDescriptor "()Z" = some ⟨[], some .boolean⟩ := by decide +kernel
set_option maxHeartbeats 8000000 in
theorem own_fin (x0 : Int32) (x1 : Int32) (x2 : Int32) (x3 : Int32) (v2 : Int32) (v4 : Int32) (v6 : Int32) (v8 : Int32) (v11 : Int32) (v14 : Int32) (v54 : Int32) (v55 : Int32) (v69 : Int32) (v70 : Int32) (v84 : Int32) (v85 : Int32) (v99 : Int32) (v113 : Int32) (v127 : Int32) (v131 : Int32) (v134 : Int32) (r138 : Int32) (v151 : Int32) (hv2 : v2 = (if (x0 &&& (1 : Int32)) = (0 : Int32) then (0 : Int32) else (1 : Int32))) (hv4 : v4 = (x1 &&& (3 : Int32))) (hv6 : v6 = ((x3 &&& (2147483647 : Int32)) % (v4 + (1 : Int32)))) (hv8 : v8 = (if (x2 &&& (1 : Int32)) = (0 : Int32) then (0 : Int32) else (1 : Int32))) (hv11 : v11 = (if (x2 &&& (2 : Int32)) = (0 : Int32) then (0 : Int32) else (1 : Int32))) (hv14 : v14 = (if (x2 &&& (4 : Int32)) = (0 : Int32) then (0 : Int32) else (1 : Int32))) (hv54 : v54 = (if v4 < (1 : Int32) then (0 : Int32) else ((0 : Int32) + (1 : Int32)))) (hv55 : v55 = (if v4 < (1 : Int32) then (0 : Int32) else (nar .boolean v8))) (hv69 : v69 = (if v4 < (2 : Int32) then v54 else (v54 + (1 : Int32)))) (hv70 : v70 = (if v4 < (2 : Int32) then v55 else (nar .boolean v11))) (hv84 : v84 = (if v4 < (3 : Int32) then v69 else (v69 + (1 : Int32)))) (hv85 : v85 = (if v4 < (3 : Int32) then v70 else (nar .boolean v14))) (hv99 : v99 = (if v6 < (1 : Int32) then v84 else (v84 - (1 : Int32)))) (hv113 : v113 = (if v6 < (2 : Int32) then v99 else (v99 - (1 : Int32)))) (hv127 : v127 = (if v6 < (3 : Int32) then v113 else (v113 - (1 : Int32)))) (hv131 : v131 = (if v4 = (3 : Int32) then v14 else (if v4 = (2 : Int32) then v11 else v8))) (hv134 : v134 = (if (0 : Int32) < (v4 - v6) then v131 else v2)) (P138 : r138 = F11 (nar .boolean v2) v127 v85) (hv151 : v151 = (if r138 = v134 then (if F12 (nar .boolean v2) = v2 then (1 : Int32) else (0 : Int32)) else (0 : Int32))) : v151 = (1 : Int32) := by
  have b2 := own_01 hv2
  have b7 := own_01 hv8
  have b10 := own_01 hv11
  have b13 := own_01 hv14
  have h45 := own_m x3 v4 v6 (own_k x1 v4 hv4) hv6
  clear hv2 hv4 hv6 hv8 hv11 hv14
  subst hv54 hv55 hv69 hv70 hv84 hv85 hv99 hv113 hv127 hv131 hv134 P138 hv151
  rcases b2 with rfl | rfl <;> rcases b7 with rfl | rfl <;> rcases b10 with rfl | rfl <;> rcases b13 with rfl | rfl <;> rcases h45 with ⟨rfl, rfl⟩ | ⟨rfl, rfl⟩ | ⟨rfl, rfl⟩ | ⟨rfl, rfl⟩ | ⟨rfl, rfl⟩ | ⟨rfl, rfl⟩ | ⟨rfl, rfl⟩ | ⟨rfl, rfl⟩ | ⟨rfl, rfl⟩ | ⟨rfl, rfl⟩ <;> decide +kernel
theorem pn_6 : plainName "com/example/lean_lifecycle/leanlifecycle/ActivityManagerPostFrontMovePinLaw" = true := by first | (simp [plainName, overriddenIn]; done) | decide +kernel
theorem ef_0 (m : MethodId) (x0 : Int32) (x1 : Int32) (x2 : Int32) (x3 : Int32) : entryFrame m #[(.int x0), (.int x1), (.int x2), (.int x3)] maxLocals = mkF m 0 #[.val (.int x0), .val (.int x1), .val (.int x2), .val (.int x3), .unset, .unset, .unset, .unset, .unset, .unset, .unset, .unset, .unset] [] := by first | (simp [entryFrame, mkF, argsToLocals, Value.category, maxLocals]; done) | rfl
def Q0 (Z : State) (x0 : Int32) (x1 : Int32) (x2 : Int32) (x3 : Int32) (w_DEFAULTCAPACITY_EMPTY_ELEMENTDATA : Addr) (h0 : Heap) (n0 : Nat) (v : Option Value) (h : Heap) (L : List Loc) : Prop := v = some (.int 1) ∧ Fr n0 L
set_option maxRecDepth 65536 in
set_option maxHeartbeats 40000000 in
theorem rm0 (l : Launch) (Z : State) (a0 : Array Value) (hw : ∀ d ∈ tables_1, d.before a0 Z = true) (ws : List Jvm.Cond) (x0 : Int32) (x1 : Int32) (x2 : Int32) (x3 : Int32) (w_DEFAULTCAPACITY_EMPTY_ELEMENTDATA : Addr) (h0 : Heap) (n0 : Nat) (Z0 : n0 ≤ h0.size) (S_DEFAULTCAPACITY_EMPTY_ELEMENTDATA : Sta Z h0 "java/util/ArrayList" "DEFAULTCAPACITY_EMPTY_ELEMENTDATA" "[Ljava/lang/Object;" (.ref w_DEFAULTCAPACITY_EMPTY_ELEMENTDATA)) :
    MetFree l x (head1 (Jvm.Cond.code x code maxLocals ret :: ws) room_1) (fun aa U => aa = #[(.int x0), (.int x1), (.int x2), (.int x3)] ∧ Z.Warmed39 U.vm ∧ U.heap = h0) (fun _ _ _ _ _ => True) (fun _ U o U' => ∃ v L, o = .returned v ∧ Q0 Z x0 x1 x2 x3 w_DEFAULTCAPACITY_EMPTY_ELEMENTDATA h0 n0 v U'.heap L ∧ FrameEnd U o U' L room_1.cells room_1.slots) := by
  refine MetFree.of_bodySF (plainFor_of_name pn_6) hisR ?_
  intro p e s m args below meth c s₁ Bd hml0 hP hK
  obtain ⟨rfl, hZ, hh⟩ := hP
  have hx := Bd.exec
  have hby := Bd.bytes
  have hml : c.maxLocals = 13 := hml0
  have hown : s.vm.findClass "com/example/lean_lifecycle/leanlifecycle/ActivityManagerPostFrontMovePinLaw" = some m.cls := findClass_of_methodNamed Bd.named
  have hnm := (name_of_methodNamed Bd.named Bd.method).1
  have X0 : Stand p l e room_1 s m #[(.int x0), (.int x1), (.int x2), (.int x3)] below meth c s₁ [] 0 0 := Stand.of_body Bd
  have e0 : s₁.heap = h0 := by rw [← hh, Bd.state]; rfl
  have N0 := Fr.nil n0
  have pre0 : ∀ t, Steps p.tables e below (s₁.setTop (mkF m 0 #[.val (.int x0), .val (.int x1), .val (.int x2), .val (.int x3), .unset, .unset, .unset, .unset, .unset, .unset, .unset, .unset, .unset] [])) t → Steps p.tables e below (s₁.setTop (entryFrame m #[(.int x0), (.int x1), (.int x2), (.int x3)] maxLocals)) t := fun t k => castTop (ef_0 m x0 x1 x2 x3) k
  obtain ⟨v2, hv2⟩ : ∃ z : Int32, z = (if (x0 &&& (1 : Int32)) = (0 : Int32) then (0 : Int32) else (1 : Int32)) := ⟨_, rfl⟩
  have pre3 : ∀ t, Steps p.tables e below (s₁.setTop (mkF m 11 #[.val (.int x0), .val (.int x1), .val (.int x2), .val (.int x3), .unset, .unset, .unset, .unset, .unset, .unset, .unset, .unset, .unset] [(.int v2)])) t → Steps p.tables e below (s₁.setTop (entryFrame m #[(.int x0), (.int x1), (.int x2), (.int x3)] maxLocals)) t := fun t k => pre0 t (by
    show Steps p.tables e below (s₁.setTop (mkF m 0 #[.val (.int x0), .val (.int x1), .val (.int x2), .val (.int x3), .unset, .unset, .unset, .unset, .unset, .unset, .unset, .unset, .unset] [])) _
    refine XS.iloadN X0.here hx rfl (hb hby at_0) rfl ?_
    show Steps p.tables e below (s₁.setTop (mkF m 1 #[.val (.int x0), .val (.int x1), .val (.int x2), .val (.int x3), .unset, .unset, .unset, .unset, .unset, .unset, .unset, .unset, .unset] [(.int x0)])) _
    refine XS.iconst X0.here hx rfl (hb hby at_1) ?_
    show Steps p.tables e below (s₁.setTop (mkF m 2 #[.val (.int x0), .val (.int x1), .val (.int x2), .val (.int x3), .unset, .unset, .unset, .unset, .unset, .unset, .unset, .unset, .unset] [(.int (1 : Int32)), (.int x0)])) _
    refine XS.iand X0.here hx rfl (hb hby at_2) rfl ?_
    show Steps p.tables e below (s₁.setTop (mkF m 3 #[.val (.int x0), .val (.int x1), .val (.int x2), .val (.int x3), .unset, .unset, .unset, .unset, .unset, .unset, .unset, .unset, .unset] [(.int (x0 &&& (1 : Int32)))])) _
    by_cases hc1 : (x0 &&& (1 : Int32)) = (0 : Int32)
    · skip
      refine XS.ifYes X0.here hx rfl (pc0 := 3) (pc' := 10) rfl (hb hby at_3) rfl ((if0 _ _).trans (teq hc1).1) (by decide) (by decide) ?_
      show Steps p.tables e below (s₁.setTop (mkF m 10 #[.val (.int x0), .val (.int x1), .val (.int x2), .val (.int x3), .unset, .unset, .unset, .unset, .unset, .unset, .unset, .unset, .unset] [])) _
      refine XS.iconst X0.here hx rfl (hb hby at_10) ?_
      show Steps p.tables e below (s₁.setTop (mkF m 11 #[.val (.int x0), .val (.int x1), .val (.int x2), .val (.int x3), .unset, .unset, .unset, .unset, .unset, .unset, .unset, .unset, .unset] [(.int (0 : Int32))])) _
      rw [show v2 = (0 : Int32) from by rw [hv2, if_pos hc1]] at k
      exact k
    · skip
      refine XS.ifNo X0.here hx rfl (hb hby at_3) rfl ((if0 _ _).trans (feq hc1).1) ?_
      show Steps p.tables e below (s₁.setTop (mkF m 6 #[.val (.int x0), .val (.int x1), .val (.int x2), .val (.int x3), .unset, .unset, .unset, .unset, .unset, .unset, .unset, .unset, .unset] [])) _
      refine XS.iconst X0.here hx rfl (hb hby at_6) ?_
      show Steps p.tables e below (s₁.setTop (mkF m 7 #[.val (.int x0), .val (.int x1), .val (.int x2), .val (.int x3), .unset, .unset, .unset, .unset, .unset, .unset, .unset, .unset, .unset] [(.int (1 : Int32))])) _
      refine XS.goto X0.here hx rfl (pc0 := 7) (pc' := 11) rfl (hb hby at_7) (by decide) (by decide) ?_
      show Steps p.tables e below (s₁.setTop (mkF m 11 #[.val (.int x0), .val (.int x1), .val (.int x2), .val (.int x3), .unset, .unset, .unset, .unset, .unset, .unset, .unset, .unset, .unset] [(.int (1 : Int32))])) _
      rw [show v2 = (1 : Int32) from by rw [hv2, if_neg hc1]] at k
      exact k)
  obtain ⟨v4, hv4⟩ : ∃ z : Int32, z = (x1 &&& (3 : Int32)) := ⟨_, rfl⟩
  have pre5 : ∀ t, Steps p.tables e below (s₁.setTop (mkF m 26 #[.val (.int x0), .val (.int x1), .val (.int x2), .val (.int x3), .val (.int v2), .val (.int v4), .unset, .unset, .unset, .unset, .unset, .unset, .unset] [(.int (v4 + (1 : Int32))), (.int (x3 &&& (2147483647 : Int32)))])) t → Steps p.tables e below (s₁.setTop (entryFrame m #[(.int x0), (.int x1), (.int x2), (.int x3)] maxLocals)) t := fun t k => pre3 t (by
    subst hv4
    show Steps p.tables e below (s₁.setTop (mkF m 11 #[.val (.int x0), .val (.int x1), .val (.int x2), .val (.int x3), .unset, .unset, .unset, .unset, .unset, .unset, .unset, .unset, .unset] [(.int v2)])) _
    refine XS.istore X0.here hx rfl (hb hby at_11) rfl (l' := #[.val (.int x0), .val (.int x1), .val (.int x2), .val (.int x3), .val (.int v2), .unset, .unset, .unset, .unset, .unset, .unset, .unset, .unset]) rfl ?_
    show Steps p.tables e below (s₁.setTop (mkF m 13 #[.val (.int x0), .val (.int x1), .val (.int x2), .val (.int x3), .val (.int v2), .unset, .unset, .unset, .unset, .unset, .unset, .unset, .unset] [])) _
    refine XS.iloadN X0.here hx rfl (hb hby at_13) rfl ?_
    show Steps p.tables e below (s₁.setTop (mkF m 14 #[.val (.int x0), .val (.int x1), .val (.int x2), .val (.int x3), .val (.int v2), .unset, .unset, .unset, .unset, .unset, .unset, .unset, .unset] [(.int x1)])) _
    refine XS.iconst X0.here hx rfl (hb hby at_14) ?_
    show Steps p.tables e below (s₁.setTop (mkF m 15 #[.val (.int x0), .val (.int x1), .val (.int x2), .val (.int x3), .val (.int v2), .unset, .unset, .unset, .unset, .unset, .unset, .unset, .unset] [(.int (3 : Int32)), (.int x1)])) _
    refine XS.iand X0.here hx rfl (hb hby at_15) rfl ?_
    show Steps p.tables e below (s₁.setTop (mkF m 16 #[.val (.int x0), .val (.int x1), .val (.int x2), .val (.int x3), .val (.int v2), .unset, .unset, .unset, .unset, .unset, .unset, .unset, .unset] [(.int (x1 &&& (3 : Int32)))])) _
    refine XS.istore X0.here hx rfl (hb hby at_16) rfl (l' := #[.val (.int x0), .val (.int x1), .val (.int x2), .val (.int x3), .val (.int v2), .val (.int (x1 &&& (3 : Int32))), .unset, .unset, .unset, .unset, .unset, .unset, .unset]) rfl ?_
    show Steps p.tables e below (s₁.setTop (mkF m 18 #[.val (.int x0), .val (.int x1), .val (.int x2), .val (.int x3), .val (.int v2), .val (.int (x1 &&& (3 : Int32))), .unset, .unset, .unset, .unset, .unset, .unset, .unset] [])) _
    refine XS.iloadN X0.here hx rfl (hb hby at_18) rfl ?_
    show Steps p.tables e below (s₁.setTop (mkF m 19 #[.val (.int x0), .val (.int x1), .val (.int x2), .val (.int x3), .val (.int v2), .val (.int (x1 &&& (3 : Int32))), .unset, .unset, .unset, .unset, .unset, .unset, .unset] [(.int x3)])) _
    refine X0.ldcInt hx hown (mvT hZ (hw _ (List.mem_of_getElem? (i := 0) rfl))) (g := (mkF m 19 #[.val (.int x0), .val (.int x1), .val (.int x2), .val (.int x3), .val (.int v2), .val (.int (x1 &&& (3 : Int32))), .unset, .unset, .unset, .unset, .unset, .unset, .unset] [(.int x3)])) rfl (hb hby at_19) _ ?_
    show Steps p.tables e below (s₁.setTop (mkF m 21 #[.val (.int x0), .val (.int x1), .val (.int x2), .val (.int x3), .val (.int v2), .val (.int (x1 &&& (3 : Int32))), .unset, .unset, .unset, .unset, .unset, .unset, .unset] [(.int (2147483647 : Int32)), (.int x3)])) _
    refine XS.iand X0.here hx rfl (hb hby at_21) rfl ?_
    show Steps p.tables e below (s₁.setTop (mkF m 22 #[.val (.int x0), .val (.int x1), .val (.int x2), .val (.int x3), .val (.int v2), .val (.int (x1 &&& (3 : Int32))), .unset, .unset, .unset, .unset, .unset, .unset, .unset] [(.int (x3 &&& (2147483647 : Int32)))])) _
    refine XS.iload X0.here hx rfl (hb hby at_22) rfl ?_
    show Steps p.tables e below (s₁.setTop (mkF m 24 #[.val (.int x0), .val (.int x1), .val (.int x2), .val (.int x3), .val (.int v2), .val (.int (x1 &&& (3 : Int32))), .unset, .unset, .unset, .unset, .unset, .unset, .unset] [(.int (x1 &&& (3 : Int32))), (.int (x3 &&& (2147483647 : Int32)))])) _
    refine XS.iconst X0.here hx rfl (hb hby at_24) ?_
    show Steps p.tables e below (s₁.setTop (mkF m 25 #[.val (.int x0), .val (.int x1), .val (.int x2), .val (.int x3), .val (.int v2), .val (.int (x1 &&& (3 : Int32))), .unset, .unset, .unset, .unset, .unset, .unset, .unset] [(.int (1 : Int32)), (.int (x1 &&& (3 : Int32))), (.int (x3 &&& (2147483647 : Int32)))])) _
    refine XS.iadd X0.here hx rfl (hb hby at_25) rfl ?_
    show Steps p.tables e below (s₁.setTop (mkF m 26 #[.val (.int x0), .val (.int x1), .val (.int x2), .val (.int x3), .val (.int v2), .val (.int (x1 &&& (3 : Int32))), .unset, .unset, .unset, .unset, .unset, .unset, .unset] [(.int ((x1 &&& (3 : Int32)) + (1 : Int32))), (.int (x3 &&& (2147483647 : Int32)))])) _
    exact k)
  obtain ⟨v6, hv6⟩ : ∃ z : Int32, z = ((x3 &&& (2147483647 : Int32)) % (v4 + (1 : Int32))) := ⟨_, rfl⟩
  obtain ⟨v8, hv8⟩ : ∃ z : Int32, z = (if (x2 &&& (1 : Int32)) = (0 : Int32) then (0 : Int32) else (1 : Int32)) := ⟨_, rfl⟩
  have pre9 : ∀ t, Steps p.tables e below (s₁.setTop (mkF m 40 #[.val (.int x0), .val (.int x1), .val (.int x2), .val (.int x3), .val (.int v2), .val (.int v4), .val (.int v6), .unset, .unset, .unset, .unset, .unset, .unset] [(.int v8)])) t → Steps p.tables e below (s₁.setTop (entryFrame m #[(.int x0), (.int x1), (.int x2), (.int x3)] maxLocals)) t := fun t k => pre5 t (by
    subst hv6
    show Steps p.tables e below (s₁.setTop (mkF m 26 #[.val (.int x0), .val (.int x1), .val (.int x2), .val (.int x3), .val (.int v2), .val (.int v4), .unset, .unset, .unset, .unset, .unset, .unset, .unset] [(.int (v4 + (1 : Int32))), (.int (x3 &&& (2147483647 : Int32)))])) _
    refine iremM X0 hx rfl (hb hby at_26) rfl (own_nz0_26 x0 x1 x2 x3 v2 v4 hv2 hv4) ?_
    show Steps p.tables e below (s₁.setTop (mkF m 27 #[.val (.int x0), .val (.int x1), .val (.int x2), .val (.int x3), .val (.int v2), .val (.int v4), .unset, .unset, .unset, .unset, .unset, .unset, .unset] [(.int ((x3 &&& (2147483647 : Int32)) % (v4 + (1 : Int32))))])) _
    refine XS.istore X0.here hx rfl (hb hby at_27) rfl (l' := #[.val (.int x0), .val (.int x1), .val (.int x2), .val (.int x3), .val (.int v2), .val (.int v4), .val (.int ((x3 &&& (2147483647 : Int32)) % (v4 + (1 : Int32)))), .unset, .unset, .unset, .unset, .unset, .unset]) rfl ?_
    show Steps p.tables e below (s₁.setTop (mkF m 29 #[.val (.int x0), .val (.int x1), .val (.int x2), .val (.int x3), .val (.int v2), .val (.int v4), .val (.int ((x3 &&& (2147483647 : Int32)) % (v4 + (1 : Int32)))), .unset, .unset, .unset, .unset, .unset, .unset] [])) _
    refine XS.iloadN X0.here hx rfl (hb hby at_29) rfl ?_
    show Steps p.tables e below (s₁.setTop (mkF m 30 #[.val (.int x0), .val (.int x1), .val (.int x2), .val (.int x3), .val (.int v2), .val (.int v4), .val (.int ((x3 &&& (2147483647 : Int32)) % (v4 + (1 : Int32)))), .unset, .unset, .unset, .unset, .unset, .unset] [(.int x2)])) _
    refine XS.iconst X0.here hx rfl (hb hby at_30) ?_
    show Steps p.tables e below (s₁.setTop (mkF m 31 #[.val (.int x0), .val (.int x1), .val (.int x2), .val (.int x3), .val (.int v2), .val (.int v4), .val (.int ((x3 &&& (2147483647 : Int32)) % (v4 + (1 : Int32)))), .unset, .unset, .unset, .unset, .unset, .unset] [(.int (1 : Int32)), (.int x2)])) _
    refine XS.iand X0.here hx rfl (hb hby at_31) rfl ?_
    show Steps p.tables e below (s₁.setTop (mkF m 32 #[.val (.int x0), .val (.int x1), .val (.int x2), .val (.int x3), .val (.int v2), .val (.int v4), .val (.int ((x3 &&& (2147483647 : Int32)) % (v4 + (1 : Int32)))), .unset, .unset, .unset, .unset, .unset, .unset] [(.int (x2 &&& (1 : Int32)))])) _
    by_cases hc7 : (x2 &&& (1 : Int32)) = (0 : Int32)
    · skip
      refine XS.ifYes X0.here hx rfl (pc0 := 32) (pc' := 39) rfl (hb hby at_32) rfl ((if0 _ _).trans (teq hc7).1) (by decide) (by decide) ?_
      show Steps p.tables e below (s₁.setTop (mkF m 39 #[.val (.int x0), .val (.int x1), .val (.int x2), .val (.int x3), .val (.int v2), .val (.int v4), .val (.int ((x3 &&& (2147483647 : Int32)) % (v4 + (1 : Int32)))), .unset, .unset, .unset, .unset, .unset, .unset] [])) _
      refine XS.iconst X0.here hx rfl (hb hby at_39) ?_
      show Steps p.tables e below (s₁.setTop (mkF m 40 #[.val (.int x0), .val (.int x1), .val (.int x2), .val (.int x3), .val (.int v2), .val (.int v4), .val (.int ((x3 &&& (2147483647 : Int32)) % (v4 + (1 : Int32)))), .unset, .unset, .unset, .unset, .unset, .unset] [(.int (0 : Int32))])) _
      rw [show v8 = (0 : Int32) from by rw [hv8, if_pos hc7]] at k
      exact k
    · skip
      refine XS.ifNo X0.here hx rfl (hb hby at_32) rfl ((if0 _ _).trans (feq hc7).1) ?_
      show Steps p.tables e below (s₁.setTop (mkF m 35 #[.val (.int x0), .val (.int x1), .val (.int x2), .val (.int x3), .val (.int v2), .val (.int v4), .val (.int ((x3 &&& (2147483647 : Int32)) % (v4 + (1 : Int32)))), .unset, .unset, .unset, .unset, .unset, .unset] [])) _
      refine XS.iconst X0.here hx rfl (hb hby at_35) ?_
      show Steps p.tables e below (s₁.setTop (mkF m 36 #[.val (.int x0), .val (.int x1), .val (.int x2), .val (.int x3), .val (.int v2), .val (.int v4), .val (.int ((x3 &&& (2147483647 : Int32)) % (v4 + (1 : Int32)))), .unset, .unset, .unset, .unset, .unset, .unset] [(.int (1 : Int32))])) _
      refine XS.goto X0.here hx rfl (pc0 := 36) (pc' := 40) rfl (hb hby at_36) (by decide) (by decide) ?_
      show Steps p.tables e below (s₁.setTop (mkF m 40 #[.val (.int x0), .val (.int x1), .val (.int x2), .val (.int x3), .val (.int v2), .val (.int v4), .val (.int ((x3 &&& (2147483647 : Int32)) % (v4 + (1 : Int32)))), .unset, .unset, .unset, .unset, .unset, .unset] [(.int (1 : Int32))])) _
      rw [show v8 = (1 : Int32) from by rw [hv8, if_neg hc7]] at k
      exact k)
  obtain ⟨v11, hv11⟩ : ∃ z : Int32, z = (if (x2 &&& (2 : Int32)) = (0 : Int32) then (0 : Int32) else (1 : Int32)) := ⟨_, rfl⟩
  have pre12 : ∀ t, Steps p.tables e below (s₁.setTop (mkF m 53 #[.val (.int x0), .val (.int x1), .val (.int x2), .val (.int x3), .val (.int v2), .val (.int v4), .val (.int v6), .val (.int v8), .unset, .unset, .unset, .unset, .unset] [(.int v11)])) t → Steps p.tables e below (s₁.setTop (entryFrame m #[(.int x0), (.int x1), (.int x2), (.int x3)] maxLocals)) t := fun t k => pre9 t (by
    show Steps p.tables e below (s₁.setTop (mkF m 40 #[.val (.int x0), .val (.int x1), .val (.int x2), .val (.int x3), .val (.int v2), .val (.int v4), .val (.int v6), .unset, .unset, .unset, .unset, .unset, .unset] [(.int v8)])) _
    refine XS.istore X0.here hx rfl (hb hby at_40) rfl (l' := #[.val (.int x0), .val (.int x1), .val (.int x2), .val (.int x3), .val (.int v2), .val (.int v4), .val (.int v6), .val (.int v8), .unset, .unset, .unset, .unset, .unset]) rfl ?_
    show Steps p.tables e below (s₁.setTop (mkF m 42 #[.val (.int x0), .val (.int x1), .val (.int x2), .val (.int x3), .val (.int v2), .val (.int v4), .val (.int v6), .val (.int v8), .unset, .unset, .unset, .unset, .unset] [])) _
    refine XS.iloadN X0.here hx rfl (hb hby at_42) rfl ?_
    show Steps p.tables e below (s₁.setTop (mkF m 43 #[.val (.int x0), .val (.int x1), .val (.int x2), .val (.int x3), .val (.int v2), .val (.int v4), .val (.int v6), .val (.int v8), .unset, .unset, .unset, .unset, .unset] [(.int x2)])) _
    refine XS.iconst X0.here hx rfl (hb hby at_43) ?_
    show Steps p.tables e below (s₁.setTop (mkF m 44 #[.val (.int x0), .val (.int x1), .val (.int x2), .val (.int x3), .val (.int v2), .val (.int v4), .val (.int v6), .val (.int v8), .unset, .unset, .unset, .unset, .unset] [(.int (2 : Int32)), (.int x2)])) _
    refine XS.iand X0.here hx rfl (hb hby at_44) rfl ?_
    show Steps p.tables e below (s₁.setTop (mkF m 45 #[.val (.int x0), .val (.int x1), .val (.int x2), .val (.int x3), .val (.int v2), .val (.int v4), .val (.int v6), .val (.int v8), .unset, .unset, .unset, .unset, .unset] [(.int (x2 &&& (2 : Int32)))])) _
    by_cases hc10 : (x2 &&& (2 : Int32)) = (0 : Int32)
    · skip
      refine XS.ifYes X0.here hx rfl (pc0 := 45) (pc' := 52) rfl (hb hby at_45) rfl ((if0 _ _).trans (teq hc10).1) (by decide) (by decide) ?_
      show Steps p.tables e below (s₁.setTop (mkF m 52 #[.val (.int x0), .val (.int x1), .val (.int x2), .val (.int x3), .val (.int v2), .val (.int v4), .val (.int v6), .val (.int v8), .unset, .unset, .unset, .unset, .unset] [])) _
      refine XS.iconst X0.here hx rfl (hb hby at_52) ?_
      show Steps p.tables e below (s₁.setTop (mkF m 53 #[.val (.int x0), .val (.int x1), .val (.int x2), .val (.int x3), .val (.int v2), .val (.int v4), .val (.int v6), .val (.int v8), .unset, .unset, .unset, .unset, .unset] [(.int (0 : Int32))])) _
      rw [show v11 = (0 : Int32) from by rw [hv11, if_pos hc10]] at k
      exact k
    · skip
      refine XS.ifNo X0.here hx rfl (hb hby at_45) rfl ((if0 _ _).trans (feq hc10).1) ?_
      show Steps p.tables e below (s₁.setTop (mkF m 48 #[.val (.int x0), .val (.int x1), .val (.int x2), .val (.int x3), .val (.int v2), .val (.int v4), .val (.int v6), .val (.int v8), .unset, .unset, .unset, .unset, .unset] [])) _
      refine XS.iconst X0.here hx rfl (hb hby at_48) ?_
      show Steps p.tables e below (s₁.setTop (mkF m 49 #[.val (.int x0), .val (.int x1), .val (.int x2), .val (.int x3), .val (.int v2), .val (.int v4), .val (.int v6), .val (.int v8), .unset, .unset, .unset, .unset, .unset] [(.int (1 : Int32))])) _
      refine XS.goto X0.here hx rfl (pc0 := 49) (pc' := 53) rfl (hb hby at_49) (by decide) (by decide) ?_
      show Steps p.tables e below (s₁.setTop (mkF m 53 #[.val (.int x0), .val (.int x1), .val (.int x2), .val (.int x3), .val (.int v2), .val (.int v4), .val (.int v6), .val (.int v8), .unset, .unset, .unset, .unset, .unset] [(.int (1 : Int32))])) _
      rw [show v11 = (1 : Int32) from by rw [hv11, if_neg hc10]] at k
      exact k)
  obtain ⟨v14, hv14⟩ : ∃ z : Int32, z = (if (x2 &&& (4 : Int32)) = (0 : Int32) then (0 : Int32) else (1 : Int32)) := ⟨_, rfl⟩
  have pre15 : ∀ t, Steps p.tables e below (s₁.setTop (mkF m 66 #[.val (.int x0), .val (.int x1), .val (.int x2), .val (.int x3), .val (.int v2), .val (.int v4), .val (.int v6), .val (.int v8), .val (.int v11), .unset, .unset, .unset, .unset] [(.int v14)])) t → Steps p.tables e below (s₁.setTop (entryFrame m #[(.int x0), (.int x1), (.int x2), (.int x3)] maxLocals)) t := fun t k => pre12 t (by
    show Steps p.tables e below (s₁.setTop (mkF m 53 #[.val (.int x0), .val (.int x1), .val (.int x2), .val (.int x3), .val (.int v2), .val (.int v4), .val (.int v6), .val (.int v8), .unset, .unset, .unset, .unset, .unset] [(.int v11)])) _
    refine XS.istore X0.here hx rfl (hb hby at_53) rfl (l' := #[.val (.int x0), .val (.int x1), .val (.int x2), .val (.int x3), .val (.int v2), .val (.int v4), .val (.int v6), .val (.int v8), .val (.int v11), .unset, .unset, .unset, .unset]) rfl ?_
    show Steps p.tables e below (s₁.setTop (mkF m 55 #[.val (.int x0), .val (.int x1), .val (.int x2), .val (.int x3), .val (.int v2), .val (.int v4), .val (.int v6), .val (.int v8), .val (.int v11), .unset, .unset, .unset, .unset] [])) _
    refine XS.iloadN X0.here hx rfl (hb hby at_55) rfl ?_
    show Steps p.tables e below (s₁.setTop (mkF m 56 #[.val (.int x0), .val (.int x1), .val (.int x2), .val (.int x3), .val (.int v2), .val (.int v4), .val (.int v6), .val (.int v8), .val (.int v11), .unset, .unset, .unset, .unset] [(.int x2)])) _
    refine XS.iconst X0.here hx rfl (hb hby at_56) ?_
    show Steps p.tables e below (s₁.setTop (mkF m 57 #[.val (.int x0), .val (.int x1), .val (.int x2), .val (.int x3), .val (.int v2), .val (.int v4), .val (.int v6), .val (.int v8), .val (.int v11), .unset, .unset, .unset, .unset] [(.int (4 : Int32)), (.int x2)])) _
    refine XS.iand X0.here hx rfl (hb hby at_57) rfl ?_
    show Steps p.tables e below (s₁.setTop (mkF m 58 #[.val (.int x0), .val (.int x1), .val (.int x2), .val (.int x3), .val (.int v2), .val (.int v4), .val (.int v6), .val (.int v8), .val (.int v11), .unset, .unset, .unset, .unset] [(.int (x2 &&& (4 : Int32)))])) _
    by_cases hc13 : (x2 &&& (4 : Int32)) = (0 : Int32)
    · skip
      refine XS.ifYes X0.here hx rfl (pc0 := 58) (pc' := 65) rfl (hb hby at_58) rfl ((if0 _ _).trans (teq hc13).1) (by decide) (by decide) ?_
      show Steps p.tables e below (s₁.setTop (mkF m 65 #[.val (.int x0), .val (.int x1), .val (.int x2), .val (.int x3), .val (.int v2), .val (.int v4), .val (.int v6), .val (.int v8), .val (.int v11), .unset, .unset, .unset, .unset] [])) _
      refine XS.iconst X0.here hx rfl (hb hby at_65) ?_
      show Steps p.tables e below (s₁.setTop (mkF m 66 #[.val (.int x0), .val (.int x1), .val (.int x2), .val (.int x3), .val (.int v2), .val (.int v4), .val (.int v6), .val (.int v8), .val (.int v11), .unset, .unset, .unset, .unset] [(.int (0 : Int32))])) _
      rw [show v14 = (0 : Int32) from by rw [hv14, if_pos hc13]] at k
      exact k
    · skip
      refine XS.ifNo X0.here hx rfl (hb hby at_58) rfl ((if0 _ _).trans (feq hc13).1) ?_
      show Steps p.tables e below (s₁.setTop (mkF m 61 #[.val (.int x0), .val (.int x1), .val (.int x2), .val (.int x3), .val (.int v2), .val (.int v4), .val (.int v6), .val (.int v8), .val (.int v11), .unset, .unset, .unset, .unset] [])) _
      refine XS.iconst X0.here hx rfl (hb hby at_61) ?_
      show Steps p.tables e below (s₁.setTop (mkF m 62 #[.val (.int x0), .val (.int x1), .val (.int x2), .val (.int x3), .val (.int v2), .val (.int v4), .val (.int v6), .val (.int v8), .val (.int v11), .unset, .unset, .unset, .unset] [(.int (1 : Int32))])) _
      refine XS.goto X0.here hx rfl (pc0 := 62) (pc' := 66) rfl (hb hby at_62) (by decide) (by decide) ?_
      show Steps p.tables e below (s₁.setTop (mkF m 66 #[.val (.int x0), .val (.int x1), .val (.int x2), .val (.int x3), .val (.int v2), .val (.int v4), .val (.int v6), .val (.int v8), .val (.int v11), .unset, .unset, .unset, .unset] [(.int (1 : Int32))])) _
      rw [show v14 = (1 : Int32) from by rw [hv14, if_neg hc13]] at k
      exact k)
  have pre16 : ∀ t, Steps p.tables e below (s₁.setTop (mkF m 68 #[.val (.int x0), .val (.int x1), .val (.int x2), .val (.int x3), .val (.int v2), .val (.int v4), .val (.int v6), .val (.int v8), .val (.int v11), .val (.int v14), .unset, .unset, .unset] [])) t → Steps p.tables e below (s₁.setTop (entryFrame m #[(.int x0), (.int x1), (.int x2), (.int x3)] maxLocals)) t := fun t k => pre15 t (by
    show Steps p.tables e below (s₁.setTop (mkF m 66 #[.val (.int x0), .val (.int x1), .val (.int x2), .val (.int x3), .val (.int v2), .val (.int v4), .val (.int v6), .val (.int v8), .val (.int v11), .unset, .unset, .unset, .unset] [(.int v14)])) _
    refine XS.istore X0.here hx rfl (hb hby at_66) rfl (l' := #[.val (.int x0), .val (.int x1), .val (.int x2), .val (.int x3), .val (.int v2), .val (.int v4), .val (.int v6), .val (.int v8), .val (.int v11), .val (.int v14), .unset, .unset, .unset]) rfl ?_
    show Steps p.tables e below (s₁.setTop (mkF m 68 #[.val (.int x0), .val (.int x1), .val (.int x2), .val (.int x3), .val (.int v2), .val (.int v4), .val (.int v6), .val (.int v8), .val (.int v11), .val (.int v14), .unset, .unset, .unset] [])) _
    exact k)
  obtain ⟨T17, h17, X17, e17, E17, A17, D17, -, st17⟩ := newO X0 hx hZ hown (hw _ (List.mem_of_getElem? (i := 1) rfl)) (hw _ (List.mem_of_getElem? (i := 2) rfl)) (hw _ (List.mem_of_getElem? (i := 3) rfl)) e0 (g := (mkF m 68 #[.val (.int x0), .val (.int x1), .val (.int x2), .val (.int x3), .val (.int v2), .val (.int v4), .val (.int v6), .val (.int v8), .val (.int v11), .val (.int v14), .unset, .unset, .unset] [])) rfl (hb hby at_68) (by decide) (by decide)
  obtain ⟨b17, g17⟩ : ∃ z, z = h0.size := ⟨_, rfl⟩
  rw [← g17] at A17 D17 st17
  have g_b17 : n0 ≤ b17 := Nat.le_trans Z0 (Nat.le_of_eq g17.symm)
  have c18 := (S_DEFAULTCAPACITY_EMPTY_ELEMENTDATA).ext E17
  have Zz17 : n0 ≤ h17.size := Nat.le_trans Z0 E17.1
  have F_task_b17 : Fld Z h17 b17 "com/example/lean_lifecycle/leanlifecycle/ActivityManager" "task" "Ljava/util/List;" .null := D17 (Or.inr (hw _ (List.mem_of_getElem? (i := 35) rfl))) (ty := (.object "java/util/List")) (by decide)
  have F_entries_b17 : Fld Z h17 b17 "com/example/lean_lifecycle/leanlifecycle/ActivityManager" "entries" "Ljava/util/Map;" .null := D17 (Or.inr (hw _ (List.mem_of_getElem? (i := 53) rfl))) (ty := (.object "java/util/Map")) (by decide)
  have F_toFinish_b17 : Fld Z h17 b17 "com/example/lean_lifecycle/leanlifecycle/ActivityManager" "toFinish" "Ljava/util/Map;" .null := D17 (Or.inr (hw _ (List.mem_of_getElem? (i := 55) rfl))) (ty := (.object "java/util/Map")) (by decide)
  have F_inFront_b17 : Fld Z h17 b17 "com/example/lean_lifecycle/leanlifecycle/ActivityManager" "inFront" "Z" (.int (0 : Int32)) := D17 (Or.inl (hw _ (List.mem_of_getElem? (i := 57) rfl))) (ty := .boolean) (by decide)
  have F_frontMovesPosted_b17 : Fld Z h17 b17 "com/example/lean_lifecycle/leanlifecycle/ActivityManager" "frontMovesPosted" "I" (.int (0 : Int32)) := D17 (Or.inl (hw _ (List.mem_of_getElem? (i := 69) rfl))) (ty := .int) (by decide)
  have F_inFrontAsPosted_b17 : Fld Z h17 b17 "com/example/lean_lifecycle/leanlifecycle/ActivityManager" "inFrontAsPosted" "Z" (.int (0 : Int32)) := D17 (Or.inl (hw _ (List.mem_of_getElem? (i := 71) rfl))) (ty := .boolean) (by decide)
  have pre19 : ∀ t, Steps p.tables e below (T17.setTop (mkF m 71 #[.val (.int x0), .val (.int x1), .val (.int x2), .val (.int x3), .val (.int v2), .val (.int v4), .val (.int v6), .val (.int v8), .val (.int v11), .val (.int v14), .unset, .unset, .unset] [(.ref b17)])) t → Steps p.tables e below (s₁.setTop (entryFrame m #[(.int x0), (.int x1), (.int x2), (.int x3)] maxLocals)) t := fun t k => pre16 t (st17 _ k)
  have pre20 : ∀ t, Steps p.tables e below (T17.setTop (mkF m 72 #[.val (.int x0), .val (.int x1), .val (.int x2), .val (.int x3), .val (.int v2), .val (.int v4), .val (.int v6), .val (.int v8), .val (.int v11), .val (.int v14), .unset, .unset, .unset] [(.ref b17), (.ref b17)])) t → Steps p.tables e below (s₁.setTop (entryFrame m #[(.int x0), (.int x1), (.int x2), (.int x3)] maxLocals)) t := fun t k => pre19 t (by
    show Steps p.tables e below (T17.setTop (mkF m 71 #[.val (.int x0), .val (.int x1), .val (.int x2), .val (.int x3), .val (.int v2), .val (.int v4), .val (.int v6), .val (.int v8), .val (.int v11), .val (.int v14), .unset, .unset, .unset] [(.ref b17)])) _
    refine XS.dup X17.here hx rfl (hb hby at_71) rfl rfl ?_
    show Steps p.tables e below (T17.setTop (mkF m 72 #[.val (.int x0), .val (.int x1), .val (.int x2), .val (.int x3), .val (.int v2), .val (.int v4), .val (.int v6), .val (.int v8), .val (.int v11), .val (.int v14), .unset, .unset, .unset] [(.ref b17), (.ref b17)])) _
    exact k)
  obtain ⟨_, _, ⟨T22, L22, k22, n22⟩, -, X22, ⟨Lc22, hQ22, l22, y22, z22⟩, st22⟩ := X17.specialBack hx (y := (⟨"com/example/lean_lifecycle/leanlifecycle/ActivityManager", "<init>", "()V"⟩ : MethodName)) rfl hown (mvT hZ (hw _ (List.mem_of_getElem? (i := 4) rfl))) (mvT hZ (hw _ (List.mem_of_getElem? (i := 5) rfl))) (mvT hZ (hw _ (List.mem_of_getElem? (i := 6) rfl))) (by decide) (backOf (W := 1) (rm1 l Z a0 hw [] b17  w_DEFAULTCAPACITY_EMPTY_ELEMENTDATA h17 n0 Zz17 A17 F_task_b17 F_entries_b17 F_toFinish_b17 F_inFront_b17 F_frontMovesPosted_b17 F_inFrontAsPosted_b17 c18 g_b17) hZ (hw _ (List.mem_of_getElem? (i := 6) rfl)) (hw _ (List.mem_of_getElem? (i := 3) rfl)) (by decide) (by decide)) (g := (mkF m 72 #[.val (.int x0), .val (.int x1), .val (.int x2), .val (.int x3), .val (.int v2), .val (.int v4), .val (.int v6), .val (.int v8), .val (.int v11), .val (.int v14), .unset, .unset, .unset] [(.ref b17), (.ref b17)])) rfl (by rw [hml]; rfl) (Steps.refl _) (a := b17) (argsL := []) (rest := [(.ref b17)]) (lenOf pd_0 rfl) rfl (by show 2 * 0 + _ ≤ _; exact Nat.le_of_eq rfl) (hb hby at_72) (fun _ _ => ⟨rfl, e17, (by decide : 1 + 3 ≤ _), (by decide : 6 + 19 ≤ _)⟩)
  dsimp only [Pt.U, Pt.locs, Pt.cells, Pt.slots] at X22 l22 y22 z22 st22 hQ22
  subst l22 y22 z22
  obtain ⟨rfl, N22q, K22, Ec22, Fc22_inFront, Fc22_frontMovesPosted, Fc22_inFrontAsPosted⟩ := hQ22
  have N22 := Fr.app N0 N22q
  have pre23 : ∀ t, Steps p.tables e below (T22.setTop (mkF m 75 #[.val (.int x0), .val (.int x1), .val (.int x2), .val (.int x3), .val (.int v2), .val (.int v4), .val (.int v6), .val (.int v8), .val (.int v11), .val (.int v14), .unset, .unset, .unset] [(.ref b17)])) t → Steps p.tables e below (s₁.setTop (entryFrame m #[(.int x0), (.int x1), (.int x2), (.int x3)] maxLocals)) t := fun t k => pre20 t (st22.trans k)
  have Zz22 : n0 ≤ T22.heap.size := Nat.le_trans Zz17 K22.1
  have c24 := own_sta c18 K22 A17
  have c25 := (A17).keep K22
  have pre32 : ∀ t, Steps p.tables e below (T22.setTop (mkF m 81 #[.val (.int x0), .val (.int x1), .val (.int x2), .val (.int x3), .val (.int v2), .val (.int v4), .val (.int v6), .val (.int v8), .val (.int v11), .val (.int v14), .val (.ref b17), .unset, .unset] [(.int v2), (.ref b17)])) t → Steps p.tables e below (s₁.setTop (entryFrame m #[(.int x0), (.int x1), (.int x2), (.int x3)] maxLocals)) t := fun t k => pre23 t (by
    show Steps p.tables e below (T22.setTop (mkF m 75 #[.val (.int x0), .val (.int x1), .val (.int x2), .val (.int x3), .val (.int v2), .val (.int v4), .val (.int v6), .val (.int v8), .val (.int v11), .val (.int v14), .unset, .unset, .unset] [(.ref b17)])) _
    refine XS.astore X22.here hx rfl (hb hby at_75) rfl rfl (l' := #[.val (.int x0), .val (.int x1), .val (.int x2), .val (.int x3), .val (.int v2), .val (.int v4), .val (.int v6), .val (.int v8), .val (.int v11), .val (.int v14), .val (.ref b17), .unset, .unset]) rfl ?_
    show Steps p.tables e below (T22.setTop (mkF m 77 #[.val (.int x0), .val (.int x1), .val (.int x2), .val (.int x3), .val (.int v2), .val (.int v4), .val (.int v6), .val (.int v8), .val (.int v11), .val (.int v14), .val (.ref b17), .unset, .unset] [])) _
    refine XS.aload X22.here hx rfl (hb hby at_77) rfl rfl ?_
    show Steps p.tables e below (T22.setTop (mkF m 79 #[.val (.int x0), .val (.int x1), .val (.int x2), .val (.int x3), .val (.int v2), .val (.int v4), .val (.int v6), .val (.int v8), .val (.int v11), .val (.int v14), .val (.ref b17), .unset, .unset] [(.ref b17)])) _
    refine XS.iload X22.here hx rfl (hb hby at_79) rfl ?_
    show Steps p.tables e below (T22.setTop (mkF m 81 #[.val (.int x0), .val (.int x1), .val (.int x2), .val (.int x3), .val (.int v2), .val (.int v4), .val (.int v6), .val (.int v8), .val (.int v11), .val (.int v14), .val (.ref b17), .unset, .unset] [(.int v2), (.ref b17)])) _
    exact k)
  obtain ⟨cq34, kq34, q34a, q34b, q34c⟩ := isOf hZ rfl Ec22
  obtain ⟨_, _, ⟨T34, L34, k34, n34⟩, -, X34, ⟨Lc34, hQ34, l34, y34, z34⟩, st34⟩ := X22.virtualBack hx (y := (⟨"com/example/lean_lifecycle/leanlifecycle/ActivityManager", "setInFront", "(Z)V"⟩ : MethodName)) (z := (⟨"com/example/lean_lifecycle/leanlifecycle/ActivityManager", "setInFront", "(Z)V"⟩ : MethodName)) hown (mvT hZ (hw _ (List.mem_of_getElem? (i := 58) rfl))) (mvT hZ (hw _ (List.mem_of_getElem? (i := 59) rfl))) (notFace_of_selects (args := #[]) (mvT hZ (hw _ (List.mem_of_getElem? (i := 61) rfl)))) (mvT hZ (hw _ (List.mem_of_getElem? (i := 61) rfl))) (mvT hZ (hw _ (List.mem_of_getElem? (i := 60) rfl))) (by decide) (backOf (W := 0) (rm8 l Z a0 hw [] b17 v2 (1 : Int32) (0 : Int32) (0 : Int32)  T22.heap n0 Zz22 Ec22 Fc22_inFront Fc22_frontMovesPosted Fc22_inFrontAsPosted g_b17) hZ (hw _ (List.mem_of_getElem? (i := 62) rfl)) (hw _ (List.mem_of_getElem? (i := 3) rfl)) (by decide) (by decide)) q34a q34c (g := (mkF m 81 #[.val (.int x0), .val (.int x1), .val (.int x2), .val (.int x3), .val (.int v2), .val (.int v4), .val (.int v6), .val (.int v8), .val (.int v11), .val (.int v14), .val (.ref b17), .unset, .unset] [(.int v2), (.ref b17)])) rfl (by rw [hml]; rfl) (Steps.refl _) (argsL := [(.int v2)]) (rest := []) (lenOf pd_1 rfl) rfl (by show 2 * 0 + _ ≤ _; exact Nat.le_of_eq rfl) (hb hby at_81) (fun _ _ => ⟨rfl, rfl, (by decide : 4 + 0 ≤ _), (by decide : 25 + 0 ≤ _)⟩)
  dsimp only [Pt.U, Pt.locs, Pt.cells, Pt.slots] at X34 l34 y34 z34 st34 hQ34
  subst l34 y34 z34
  obtain ⟨rfl, N34q, K34, Ec34, Fc34_inFront, Fc34_frontMovesPosted, Fc34_inFrontAsPosted⟩ := hQ34
  have N34 := Fr.app N22 N34q
  have pre35 : ∀ t, Steps p.tables e below (T34.setTop (mkF m 84 #[.val (.int x0), .val (.int x1), .val (.int x2), .val (.int x3), .val (.int v2), .val (.int v4), .val (.int v6), .val (.int v8), .val (.int v11), .val (.int v14), .val (.ref b17), .unset, .unset] [])) t → Steps p.tables e below (s₁.setTop (entryFrame m #[(.int x0), (.int x1), (.int x2), (.int x3)] maxLocals)) t := fun t k => pre32 t (st34.trans k)
  have Zz34 : n0 ≤ T34.heap.size := Nat.le_trans Zz22 K34.1
  have c36 := own_sta c24 K34 Ec22
  have c37 := (Ec22).keep K34
  have pre41 : ∀ t, Steps p.tables e below (T34.setTop (mkF m 87 #[.val (.int x0), .val (.int x1), .val (.int x2), .val (.int x3), .val (.int v2), .val (.int v4), .val (.int v6), .val (.int v8), .val (.int v11), .val (.int v14), .val (.ref b17), .unset, .unset] [(.int (1 : Int32)), (.int v4)])) t → Steps p.tables e below (s₁.setTop (entryFrame m #[(.int x0), (.int x1), (.int x2), (.int x3)] maxLocals)) t := fun t k => pre35 t (by
    show Steps p.tables e below (T34.setTop (mkF m 84 #[.val (.int x0), .val (.int x1), .val (.int x2), .val (.int x3), .val (.int v2), .val (.int v4), .val (.int v6), .val (.int v8), .val (.int v11), .val (.int v14), .val (.ref b17), .unset, .unset] [])) _
    refine XS.iload X34.here hx rfl (hb hby at_84) rfl ?_
    show Steps p.tables e below (T34.setTop (mkF m 86 #[.val (.int x0), .val (.int x1), .val (.int x2), .val (.int x3), .val (.int v2), .val (.int v4), .val (.int v6), .val (.int v8), .val (.int v11), .val (.int v14), .val (.ref b17), .unset, .unset] [(.int v4)])) _
    refine XS.iconst X34.here hx rfl (hb hby at_86) ?_
    show Steps p.tables e below (T34.setTop (mkF m 87 #[.val (.int x0), .val (.int x1), .val (.int x2), .val (.int x3), .val (.int v2), .val (.int v4), .val (.int v6), .val (.int v8), .val (.int v11), .val (.int v14), .val (.ref b17), .unset, .unset] [(.int (1 : Int32)), (.int v4)])) _
    exact k)
  obtain ⟨v54, hv54⟩ : ∃ z : Int32, z = (if v4 < (1 : Int32) then (0 : Int32) else ((0 : Int32) + (1 : Int32))) := ⟨_, rfl⟩
  obtain ⟨v55, hv55⟩ : ∃ z : Int32, z = (if v4 < (1 : Int32) then (0 : Int32) else (nar .boolean v8)) := ⟨_, rfl⟩
  obtain ⟨T53, L53, X53, N53, Zz53, f53_0, f53_1, f53_2, f53_3, pre56⟩ : ∃ (T53 : State) (L53 : List Loc), Stand p l e room_1 s m #[(.int x0), (.int x1), (.int x2), (.int x3)] below meth c T53 L53 4 25 ∧ Fr n0 L53 ∧ n0 ≤ T53.heap.size ∧ (Exa Z T53.heap b17 "com/example/lean_lifecycle/leanlifecycle/ActivityManager") ∧ (Fld Z T53.heap b17 "com/example/lean_lifecycle/leanlifecycle/ActivityManager" "inFront" "Z" (.int (nar .boolean v2))) ∧ (Fld Z T53.heap b17 "com/example/lean_lifecycle/leanlifecycle/ActivityManager" "frontMovesPosted" "I" (.int v54)) ∧ (Fld Z T53.heap b17 "com/example/lean_lifecycle/leanlifecycle/ActivityManager" "inFrontAsPosted" "Z" (.int v55)) ∧ ∀ t, Steps p.tables e below (T53.setTop (mkF m 97 #[.val (.int x0), .val (.int x1), .val (.int x2), .val (.int x3), .val (.int v2), .val (.int v4), .val (.int v6), .val (.int v8), .val (.int v11), .val (.int v14), .val (.ref b17), .unset, .unset] [])) t → Steps p.tables e below (s₁.setTop (entryFrame m #[(.int x0), (.int x1), (.int x2), (.int x3)] maxLocals)) t := by
    by_cases hc42 : v4 < (1 : Int32)
    · skip
      have pre43 : ∀ t, Steps p.tables e below (T34.setTop (mkF m 97 #[.val (.int x0), .val (.int x1), .val (.int x2), .val (.int x3), .val (.int v2), .val (.int v4), .val (.int v6), .val (.int v8), .val (.int v11), .val (.int v14), .val (.ref b17), .unset, .unset] [])) t → Steps p.tables e below (s₁.setTop (entryFrame m #[(.int x0), (.int x1), (.int x2), (.int x3)] maxLocals)) t := fun t k => pre41 t (by
        show Steps p.tables e below (T34.setTop (mkF m 87 #[.val (.int x0), .val (.int x1), .val (.int x2), .val (.int x3), .val (.int v2), .val (.int v4), .val (.int v6), .val (.int v8), .val (.int v11), .val (.int v14), .val (.ref b17), .unset, .unset] [(.int (1 : Int32)), (.int v4)])) _
        refine XS.icmpYes X34.here hx rfl (pc0 := 87) (pc' := 97) rfl (hb hby at_87) rfl (tlt hc42).1 (by decide) (by decide) ?_
        show Steps p.tables e below (T34.setTop (mkF m 97 #[.val (.int x0), .val (.int x1), .val (.int x2), .val (.int x3), .val (.int v2), .val (.int v4), .val (.int v6), .val (.int v8), .val (.int v11), .val (.int v14), .val (.ref b17), .unset, .unset] [])) _
        exact k)
      rw [if_pos hc42] at hv54
      rw [if_pos hc42] at hv55
      subst hv54 hv55
      exact ⟨_, _, X34, N34, Zz34, Ec34, Fc34_inFront, Fc34_frontMovesPosted, Fc34_inFrontAsPosted, pre43⟩
    · skip
      have pre44 : ∀ t, Steps p.tables e below (T34.setTop (mkF m 94 #[.val (.int x0), .val (.int x1), .val (.int x2), .val (.int x3), .val (.int v2), .val (.int v4), .val (.int v6), .val (.int v8), .val (.int v11), .val (.int v14), .val (.ref b17), .unset, .unset] [(.int v8), (.ref b17)])) t → Steps p.tables e below (s₁.setTop (entryFrame m #[(.int x0), (.int x1), (.int x2), (.int x3)] maxLocals)) t := fun t k => pre41 t (by
        show Steps p.tables e below (T34.setTop (mkF m 87 #[.val (.int x0), .val (.int x1), .val (.int x2), .val (.int x3), .val (.int v2), .val (.int v4), .val (.int v6), .val (.int v8), .val (.int v11), .val (.int v14), .val (.ref b17), .unset, .unset] [(.int (1 : Int32)), (.int v4)])) _
        refine XS.icmpNo X34.here hx rfl (hb hby at_87) rfl (flt hc42).1 ?_
        show Steps p.tables e below (T34.setTop (mkF m 90 #[.val (.int x0), .val (.int x1), .val (.int x2), .val (.int x3), .val (.int v2), .val (.int v4), .val (.int v6), .val (.int v8), .val (.int v11), .val (.int v14), .val (.ref b17), .unset, .unset] [])) _
        refine XS.aload X34.here hx rfl (hb hby at_90) rfl rfl ?_
        show Steps p.tables e below (T34.setTop (mkF m 92 #[.val (.int x0), .val (.int x1), .val (.int x2), .val (.int x3), .val (.int v2), .val (.int v4), .val (.int v6), .val (.int v8), .val (.int v11), .val (.int v14), .val (.ref b17), .unset, .unset] [(.ref b17)])) _
        refine XS.iload X34.here hx rfl (hb hby at_92) rfl ?_
        show Steps p.tables e below (T34.setTop (mkF m 94 #[.val (.int x0), .val (.int x1), .val (.int x2), .val (.int x3), .val (.int v2), .val (.int v4), .val (.int v6), .val (.int v8), .val (.int v11), .val (.int v14), .val (.ref b17), .unset, .unset] [(.int v8), (.ref b17)])) _
        exact k)
      obtain ⟨cq46, kq46, q46a, q46b, q46c⟩ := isOf hZ rfl Ec34
      obtain ⟨_, _, ⟨T46, L46, k46, n46⟩, -, X46, ⟨Lc46, hQ46, l46, y46, z46⟩, st46⟩ := X34.virtualBack hx (y := (⟨"com/example/lean_lifecycle/leanlifecycle/ActivityManager", "postFrontMove", "(Z)V"⟩ : MethodName)) (z := (⟨"com/example/lean_lifecycle/leanlifecycle/ActivityManager", "postFrontMove", "(Z)V"⟩ : MethodName)) hown (mvT hZ (hw _ (List.mem_of_getElem? (i := 63) rfl))) (mvT hZ (hw _ (List.mem_of_getElem? (i := 64) rfl))) (notFace_of_selects (args := #[]) (mvT hZ (hw _ (List.mem_of_getElem? (i := 66) rfl)))) (mvT hZ (hw _ (List.mem_of_getElem? (i := 66) rfl))) (mvT hZ (hw _ (List.mem_of_getElem? (i := 65) rfl))) (by decide) (backOf (W := 0) (rm9 l Z a0 hw [] b17 v8 (nar .boolean v2) (0 : Int32) (0 : Int32)  T34.heap n0 Zz34 Ec34 Fc34_inFront Fc34_frontMovesPosted Fc34_inFrontAsPosted g_b17) hZ (hw _ (List.mem_of_getElem? (i := 67) rfl)) (hw _ (List.mem_of_getElem? (i := 3) rfl)) (by decide) (by decide)) q46a q46c (g := (mkF m 94 #[.val (.int x0), .val (.int x1), .val (.int x2), .val (.int x3), .val (.int v2), .val (.int v4), .val (.int v6), .val (.int v8), .val (.int v11), .val (.int v14), .val (.ref b17), .unset, .unset] [(.int v8), (.ref b17)])) rfl (by rw [hml]; rfl) (Steps.refl _) (argsL := [(.int v8)]) (rest := []) (lenOf pd_1 rfl) rfl (by show 2 * 0 + _ ≤ _; exact Nat.le_of_eq rfl) (hb hby at_94) (fun _ _ => ⟨rfl, rfl, (by decide : 4 + 0 ≤ _), (by decide : 25 + 0 ≤ _)⟩)
      dsimp only [Pt.U, Pt.locs, Pt.cells, Pt.slots] at X46 l46 y46 z46 st46 hQ46
      subst l46 y46 z46
      obtain ⟨rfl, N46q, K46, Ec46, Fc46_inFront, Fc46_frontMovesPosted, Fc46_inFrontAsPosted⟩ := hQ46
      have N46 := Fr.app N34 N46q
      have pre47 : ∀ t, Steps p.tables e below (T46.setTop (mkF m 97 #[.val (.int x0), .val (.int x1), .val (.int x2), .val (.int x3), .val (.int v2), .val (.int v4), .val (.int v6), .val (.int v8), .val (.int v11), .val (.int v14), .val (.ref b17), .unset, .unset] [])) t → Steps p.tables e below (s₁.setTop (entryFrame m #[(.int x0), (.int x1), (.int x2), (.int x3)] maxLocals)) t := fun t k => pre44 t (st46.trans k)
      have Zz46 : n0 ≤ T46.heap.size := Nat.le_trans Zz34 K46.1
      have c48 := own_sta c36 K46 Ec34
      have c49 := (Ec34).keep K46
      rw [if_neg hc42] at hv54
      rw [if_neg hc42] at hv55
      subst hv54 hv55
      exact ⟨_, _, X46, N46, Zz46, Ec46, Fc46_inFront, Fc46_frontMovesPosted, Fc46_inFrontAsPosted, pre47⟩
  have pre57 : ∀ t, Steps p.tables e below (T53.setTop (mkF m 100 #[.val (.int x0), .val (.int x1), .val (.int x2), .val (.int x3), .val (.int v2), .val (.int v4), .val (.int v6), .val (.int v8), .val (.int v11), .val (.int v14), .val (.ref b17), .unset, .unset] [(.int (2 : Int32)), (.int v4)])) t → Steps p.tables e below (s₁.setTop (entryFrame m #[(.int x0), (.int x1), (.int x2), (.int x3)] maxLocals)) t := fun t k => pre56 t (by
    show Steps p.tables e below (T53.setTop (mkF m 97 #[.val (.int x0), .val (.int x1), .val (.int x2), .val (.int x3), .val (.int v2), .val (.int v4), .val (.int v6), .val (.int v8), .val (.int v11), .val (.int v14), .val (.ref b17), .unset, .unset] [])) _
    refine XS.iload X53.here hx rfl (hb hby at_97) rfl ?_
    show Steps p.tables e below (T53.setTop (mkF m 99 #[.val (.int x0), .val (.int x1), .val (.int x2), .val (.int x3), .val (.int v2), .val (.int v4), .val (.int v6), .val (.int v8), .val (.int v11), .val (.int v14), .val (.ref b17), .unset, .unset] [(.int v4)])) _
    refine XS.iconst X53.here hx rfl (hb hby at_99) ?_
    show Steps p.tables e below (T53.setTop (mkF m 100 #[.val (.int x0), .val (.int x1), .val (.int x2), .val (.int x3), .val (.int v2), .val (.int v4), .val (.int v6), .val (.int v8), .val (.int v11), .val (.int v14), .val (.ref b17), .unset, .unset] [(.int (2 : Int32)), (.int v4)])) _
    exact k)
  obtain ⟨v69, hv69⟩ : ∃ z : Int32, z = (if v4 < (2 : Int32) then v54 else (v54 + (1 : Int32))) := ⟨_, rfl⟩
  obtain ⟨v70, hv70⟩ : ∃ z : Int32, z = (if v4 < (2 : Int32) then v55 else (nar .boolean v11)) := ⟨_, rfl⟩
  obtain ⟨T68, L68, X68, N68, Zz68, f68_0, f68_1, f68_2, f68_3, pre71⟩ : ∃ (T68 : State) (L68 : List Loc), Stand p l e room_1 s m #[(.int x0), (.int x1), (.int x2), (.int x3)] below meth c T68 L68 4 25 ∧ Fr n0 L68 ∧ n0 ≤ T68.heap.size ∧ (Exa Z T68.heap b17 "com/example/lean_lifecycle/leanlifecycle/ActivityManager") ∧ (Fld Z T68.heap b17 "com/example/lean_lifecycle/leanlifecycle/ActivityManager" "inFront" "Z" (.int (nar .boolean v2))) ∧ (Fld Z T68.heap b17 "com/example/lean_lifecycle/leanlifecycle/ActivityManager" "frontMovesPosted" "I" (.int v69)) ∧ (Fld Z T68.heap b17 "com/example/lean_lifecycle/leanlifecycle/ActivityManager" "inFrontAsPosted" "Z" (.int v70)) ∧ ∀ t, Steps p.tables e below (T68.setTop (mkF m 110 #[.val (.int x0), .val (.int x1), .val (.int x2), .val (.int x3), .val (.int v2), .val (.int v4), .val (.int v6), .val (.int v8), .val (.int v11), .val (.int v14), .val (.ref b17), .unset, .unset] [])) t → Steps p.tables e below (s₁.setTop (entryFrame m #[(.int x0), (.int x1), (.int x2), (.int x3)] maxLocals)) t := by
    by_cases hc58 : v4 < (2 : Int32)
    · skip
      have pre59 : ∀ t, Steps p.tables e below (T53.setTop (mkF m 110 #[.val (.int x0), .val (.int x1), .val (.int x2), .val (.int x3), .val (.int v2), .val (.int v4), .val (.int v6), .val (.int v8), .val (.int v11), .val (.int v14), .val (.ref b17), .unset, .unset] [])) t → Steps p.tables e below (s₁.setTop (entryFrame m #[(.int x0), (.int x1), (.int x2), (.int x3)] maxLocals)) t := fun t k => pre57 t (by
        show Steps p.tables e below (T53.setTop (mkF m 100 #[.val (.int x0), .val (.int x1), .val (.int x2), .val (.int x3), .val (.int v2), .val (.int v4), .val (.int v6), .val (.int v8), .val (.int v11), .val (.int v14), .val (.ref b17), .unset, .unset] [(.int (2 : Int32)), (.int v4)])) _
        refine XS.icmpYes X53.here hx rfl (pc0 := 100) (pc' := 110) rfl (hb hby at_100) rfl (tlt hc58).1 (by decide) (by decide) ?_
        show Steps p.tables e below (T53.setTop (mkF m 110 #[.val (.int x0), .val (.int x1), .val (.int x2), .val (.int x3), .val (.int v2), .val (.int v4), .val (.int v6), .val (.int v8), .val (.int v11), .val (.int v14), .val (.ref b17), .unset, .unset] [])) _
        exact k)
      rw [if_pos hc58] at hv69
      rw [if_pos hc58] at hv70
      subst hv69 hv70
      exact ⟨_, _, X53, N53, Zz53, f53_0, f53_1, f53_2, f53_3, pre59⟩
    · skip
      have pre60 : ∀ t, Steps p.tables e below (T53.setTop (mkF m 107 #[.val (.int x0), .val (.int x1), .val (.int x2), .val (.int x3), .val (.int v2), .val (.int v4), .val (.int v6), .val (.int v8), .val (.int v11), .val (.int v14), .val (.ref b17), .unset, .unset] [(.int v11), (.ref b17)])) t → Steps p.tables e below (s₁.setTop (entryFrame m #[(.int x0), (.int x1), (.int x2), (.int x3)] maxLocals)) t := fun t k => pre57 t (by
        show Steps p.tables e below (T53.setTop (mkF m 100 #[.val (.int x0), .val (.int x1), .val (.int x2), .val (.int x3), .val (.int v2), .val (.int v4), .val (.int v6), .val (.int v8), .val (.int v11), .val (.int v14), .val (.ref b17), .unset, .unset] [(.int (2 : Int32)), (.int v4)])) _
        refine XS.icmpNo X53.here hx rfl (hb hby at_100) rfl (flt hc58).1 ?_
        show Steps p.tables e below (T53.setTop (mkF m 103 #[.val (.int x0), .val (.int x1), .val (.int x2), .val (.int x3), .val (.int v2), .val (.int v4), .val (.int v6), .val (.int v8), .val (.int v11), .val (.int v14), .val (.ref b17), .unset, .unset] [])) _
        refine XS.aload X53.here hx rfl (hb hby at_103) rfl rfl ?_
        show Steps p.tables e below (T53.setTop (mkF m 105 #[.val (.int x0), .val (.int x1), .val (.int x2), .val (.int x3), .val (.int v2), .val (.int v4), .val (.int v6), .val (.int v8), .val (.int v11), .val (.int v14), .val (.ref b17), .unset, .unset] [(.ref b17)])) _
        refine XS.iload X53.here hx rfl (hb hby at_105) rfl ?_
        show Steps p.tables e below (T53.setTop (mkF m 107 #[.val (.int x0), .val (.int x1), .val (.int x2), .val (.int x3), .val (.int v2), .val (.int v4), .val (.int v6), .val (.int v8), .val (.int v11), .val (.int v14), .val (.ref b17), .unset, .unset] [(.int v11), (.ref b17)])) _
        exact k)
      obtain ⟨cq62, kq62, q62a, q62b, q62c⟩ := isOf hZ rfl f53_0
      obtain ⟨_, _, ⟨T62, L62, k62, n62⟩, -, X62, ⟨Lc62, hQ62, l62, y62, z62⟩, st62⟩ := X53.virtualBack hx (y := (⟨"com/example/lean_lifecycle/leanlifecycle/ActivityManager", "postFrontMove", "(Z)V"⟩ : MethodName)) (z := (⟨"com/example/lean_lifecycle/leanlifecycle/ActivityManager", "postFrontMove", "(Z)V"⟩ : MethodName)) hown (mvT hZ (hw _ (List.mem_of_getElem? (i := 63) rfl))) (mvT hZ (hw _ (List.mem_of_getElem? (i := 64) rfl))) (notFace_of_selects (args := #[]) (mvT hZ (hw _ (List.mem_of_getElem? (i := 66) rfl)))) (mvT hZ (hw _ (List.mem_of_getElem? (i := 66) rfl))) (mvT hZ (hw _ (List.mem_of_getElem? (i := 65) rfl))) (by decide) (backOf (W := 0) (rm9 l Z a0 hw [] b17 v11 (nar .boolean v2) v54 v55  T53.heap n0 Zz53 f53_0 f53_1 f53_2 f53_3 g_b17) hZ (hw _ (List.mem_of_getElem? (i := 67) rfl)) (hw _ (List.mem_of_getElem? (i := 3) rfl)) (by decide) (by decide)) q62a q62c (g := (mkF m 107 #[.val (.int x0), .val (.int x1), .val (.int x2), .val (.int x3), .val (.int v2), .val (.int v4), .val (.int v6), .val (.int v8), .val (.int v11), .val (.int v14), .val (.ref b17), .unset, .unset] [(.int v11), (.ref b17)])) rfl (by rw [hml]; rfl) (Steps.refl _) (argsL := [(.int v11)]) (rest := []) (lenOf pd_1 rfl) rfl (by show 2 * 0 + _ ≤ _; exact Nat.le_of_eq rfl) (hb hby at_107) (fun _ _ => ⟨rfl, rfl, (by decide : 4 + 0 ≤ _), (by decide : 25 + 0 ≤ _)⟩)
      dsimp only [Pt.U, Pt.locs, Pt.cells, Pt.slots] at X62 l62 y62 z62 st62 hQ62
      subst l62 y62 z62
      obtain ⟨rfl, N62q, K62, Ec62, Fc62_inFront, Fc62_frontMovesPosted, Fc62_inFrontAsPosted⟩ := hQ62
      have N62 := Fr.app N53 N62q
      have pre63 : ∀ t, Steps p.tables e below (T62.setTop (mkF m 110 #[.val (.int x0), .val (.int x1), .val (.int x2), .val (.int x3), .val (.int v2), .val (.int v4), .val (.int v6), .val (.int v8), .val (.int v11), .val (.int v14), .val (.ref b17), .unset, .unset] [])) t → Steps p.tables e below (s₁.setTop (entryFrame m #[(.int x0), (.int x1), (.int x2), (.int x3)] maxLocals)) t := fun t k => pre60 t (st62.trans k)
      have Zz62 : n0 ≤ T62.heap.size := Nat.le_trans Zz53 K62.1
      have c64 := (f53_0).keep K62
      rw [if_neg hc58] at hv69
      rw [if_neg hc58] at hv70
      subst hv69 hv70
      exact ⟨_, _, X62, N62, Zz62, Ec62, Fc62_inFront, Fc62_frontMovesPosted, Fc62_inFrontAsPosted, pre63⟩
  have pre72 : ∀ t, Steps p.tables e below (T68.setTop (mkF m 113 #[.val (.int x0), .val (.int x1), .val (.int x2), .val (.int x3), .val (.int v2), .val (.int v4), .val (.int v6), .val (.int v8), .val (.int v11), .val (.int v14), .val (.ref b17), .unset, .unset] [(.int (3 : Int32)), (.int v4)])) t → Steps p.tables e below (s₁.setTop (entryFrame m #[(.int x0), (.int x1), (.int x2), (.int x3)] maxLocals)) t := fun t k => pre71 t (by
    show Steps p.tables e below (T68.setTop (mkF m 110 #[.val (.int x0), .val (.int x1), .val (.int x2), .val (.int x3), .val (.int v2), .val (.int v4), .val (.int v6), .val (.int v8), .val (.int v11), .val (.int v14), .val (.ref b17), .unset, .unset] [])) _
    refine XS.iload X68.here hx rfl (hb hby at_110) rfl ?_
    show Steps p.tables e below (T68.setTop (mkF m 112 #[.val (.int x0), .val (.int x1), .val (.int x2), .val (.int x3), .val (.int v2), .val (.int v4), .val (.int v6), .val (.int v8), .val (.int v11), .val (.int v14), .val (.ref b17), .unset, .unset] [(.int v4)])) _
    refine XS.iconst X68.here hx rfl (hb hby at_112) ?_
    show Steps p.tables e below (T68.setTop (mkF m 113 #[.val (.int x0), .val (.int x1), .val (.int x2), .val (.int x3), .val (.int v2), .val (.int v4), .val (.int v6), .val (.int v8), .val (.int v11), .val (.int v14), .val (.ref b17), .unset, .unset] [(.int (3 : Int32)), (.int v4)])) _
    exact k)
  obtain ⟨v84, hv84⟩ : ∃ z : Int32, z = (if v4 < (3 : Int32) then v69 else (v69 + (1 : Int32))) := ⟨_, rfl⟩
  obtain ⟨v85, hv85⟩ : ∃ z : Int32, z = (if v4 < (3 : Int32) then v70 else (nar .boolean v14)) := ⟨_, rfl⟩
  obtain ⟨T83, L83, X83, N83, Zz83, f83_0, f83_1, f83_2, f83_3, pre86⟩ : ∃ (T83 : State) (L83 : List Loc), Stand p l e room_1 s m #[(.int x0), (.int x1), (.int x2), (.int x3)] below meth c T83 L83 4 25 ∧ Fr n0 L83 ∧ n0 ≤ T83.heap.size ∧ (Exa Z T83.heap b17 "com/example/lean_lifecycle/leanlifecycle/ActivityManager") ∧ (Fld Z T83.heap b17 "com/example/lean_lifecycle/leanlifecycle/ActivityManager" "inFront" "Z" (.int (nar .boolean v2))) ∧ (Fld Z T83.heap b17 "com/example/lean_lifecycle/leanlifecycle/ActivityManager" "frontMovesPosted" "I" (.int v84)) ∧ (Fld Z T83.heap b17 "com/example/lean_lifecycle/leanlifecycle/ActivityManager" "inFrontAsPosted" "Z" (.int v85)) ∧ ∀ t, Steps p.tables e below (T83.setTop (mkF m 123 #[.val (.int x0), .val (.int x1), .val (.int x2), .val (.int x3), .val (.int v2), .val (.int v4), .val (.int v6), .val (.int v8), .val (.int v11), .val (.int v14), .val (.ref b17), .unset, .unset] [])) t → Steps p.tables e below (s₁.setTop (entryFrame m #[(.int x0), (.int x1), (.int x2), (.int x3)] maxLocals)) t := by
    by_cases hc73 : v4 < (3 : Int32)
    · skip
      have pre74 : ∀ t, Steps p.tables e below (T68.setTop (mkF m 123 #[.val (.int x0), .val (.int x1), .val (.int x2), .val (.int x3), .val (.int v2), .val (.int v4), .val (.int v6), .val (.int v8), .val (.int v11), .val (.int v14), .val (.ref b17), .unset, .unset] [])) t → Steps p.tables e below (s₁.setTop (entryFrame m #[(.int x0), (.int x1), (.int x2), (.int x3)] maxLocals)) t := fun t k => pre72 t (by
        show Steps p.tables e below (T68.setTop (mkF m 113 #[.val (.int x0), .val (.int x1), .val (.int x2), .val (.int x3), .val (.int v2), .val (.int v4), .val (.int v6), .val (.int v8), .val (.int v11), .val (.int v14), .val (.ref b17), .unset, .unset] [(.int (3 : Int32)), (.int v4)])) _
        refine XS.icmpYes X68.here hx rfl (pc0 := 113) (pc' := 123) rfl (hb hby at_113) rfl (tlt hc73).1 (by decide) (by decide) ?_
        show Steps p.tables e below (T68.setTop (mkF m 123 #[.val (.int x0), .val (.int x1), .val (.int x2), .val (.int x3), .val (.int v2), .val (.int v4), .val (.int v6), .val (.int v8), .val (.int v11), .val (.int v14), .val (.ref b17), .unset, .unset] [])) _
        exact k)
      rw [if_pos hc73] at hv84
      rw [if_pos hc73] at hv85
      subst hv84 hv85
      exact ⟨_, _, X68, N68, Zz68, f68_0, f68_1, f68_2, f68_3, pre74⟩
    · skip
      have pre75 : ∀ t, Steps p.tables e below (T68.setTop (mkF m 120 #[.val (.int x0), .val (.int x1), .val (.int x2), .val (.int x3), .val (.int v2), .val (.int v4), .val (.int v6), .val (.int v8), .val (.int v11), .val (.int v14), .val (.ref b17), .unset, .unset] [(.int v14), (.ref b17)])) t → Steps p.tables e below (s₁.setTop (entryFrame m #[(.int x0), (.int x1), (.int x2), (.int x3)] maxLocals)) t := fun t k => pre72 t (by
        show Steps p.tables e below (T68.setTop (mkF m 113 #[.val (.int x0), .val (.int x1), .val (.int x2), .val (.int x3), .val (.int v2), .val (.int v4), .val (.int v6), .val (.int v8), .val (.int v11), .val (.int v14), .val (.ref b17), .unset, .unset] [(.int (3 : Int32)), (.int v4)])) _
        refine XS.icmpNo X68.here hx rfl (hb hby at_113) rfl (flt hc73).1 ?_
        show Steps p.tables e below (T68.setTop (mkF m 116 #[.val (.int x0), .val (.int x1), .val (.int x2), .val (.int x3), .val (.int v2), .val (.int v4), .val (.int v6), .val (.int v8), .val (.int v11), .val (.int v14), .val (.ref b17), .unset, .unset] [])) _
        refine XS.aload X68.here hx rfl (hb hby at_116) rfl rfl ?_
        show Steps p.tables e below (T68.setTop (mkF m 118 #[.val (.int x0), .val (.int x1), .val (.int x2), .val (.int x3), .val (.int v2), .val (.int v4), .val (.int v6), .val (.int v8), .val (.int v11), .val (.int v14), .val (.ref b17), .unset, .unset] [(.ref b17)])) _
        refine XS.iload X68.here hx rfl (hb hby at_118) rfl ?_
        show Steps p.tables e below (T68.setTop (mkF m 120 #[.val (.int x0), .val (.int x1), .val (.int x2), .val (.int x3), .val (.int v2), .val (.int v4), .val (.int v6), .val (.int v8), .val (.int v11), .val (.int v14), .val (.ref b17), .unset, .unset] [(.int v14), (.ref b17)])) _
        exact k)
      obtain ⟨cq77, kq77, q77a, q77b, q77c⟩ := isOf hZ rfl f68_0
      obtain ⟨_, _, ⟨T77, L77, k77, n77⟩, -, X77, ⟨Lc77, hQ77, l77, y77, z77⟩, st77⟩ := X68.virtualBack hx (y := (⟨"com/example/lean_lifecycle/leanlifecycle/ActivityManager", "postFrontMove", "(Z)V"⟩ : MethodName)) (z := (⟨"com/example/lean_lifecycle/leanlifecycle/ActivityManager", "postFrontMove", "(Z)V"⟩ : MethodName)) hown (mvT hZ (hw _ (List.mem_of_getElem? (i := 63) rfl))) (mvT hZ (hw _ (List.mem_of_getElem? (i := 64) rfl))) (notFace_of_selects (args := #[]) (mvT hZ (hw _ (List.mem_of_getElem? (i := 66) rfl)))) (mvT hZ (hw _ (List.mem_of_getElem? (i := 66) rfl))) (mvT hZ (hw _ (List.mem_of_getElem? (i := 65) rfl))) (by decide) (backOf (W := 0) (rm9 l Z a0 hw [] b17 v14 (nar .boolean v2) v69 v70  T68.heap n0 Zz68 f68_0 f68_1 f68_2 f68_3 g_b17) hZ (hw _ (List.mem_of_getElem? (i := 67) rfl)) (hw _ (List.mem_of_getElem? (i := 3) rfl)) (by decide) (by decide)) q77a q77c (g := (mkF m 120 #[.val (.int x0), .val (.int x1), .val (.int x2), .val (.int x3), .val (.int v2), .val (.int v4), .val (.int v6), .val (.int v8), .val (.int v11), .val (.int v14), .val (.ref b17), .unset, .unset] [(.int v14), (.ref b17)])) rfl (by rw [hml]; rfl) (Steps.refl _) (argsL := [(.int v14)]) (rest := []) (lenOf pd_1 rfl) rfl (by show 2 * 0 + _ ≤ _; exact Nat.le_of_eq rfl) (hb hby at_120) (fun _ _ => ⟨rfl, rfl, (by decide : 4 + 0 ≤ _), (by decide : 25 + 0 ≤ _)⟩)
      dsimp only [Pt.U, Pt.locs, Pt.cells, Pt.slots] at X77 l77 y77 z77 st77 hQ77
      subst l77 y77 z77
      obtain ⟨rfl, N77q, K77, Ec77, Fc77_inFront, Fc77_frontMovesPosted, Fc77_inFrontAsPosted⟩ := hQ77
      have N77 := Fr.app N68 N77q
      have pre78 : ∀ t, Steps p.tables e below (T77.setTop (mkF m 123 #[.val (.int x0), .val (.int x1), .val (.int x2), .val (.int x3), .val (.int v2), .val (.int v4), .val (.int v6), .val (.int v8), .val (.int v11), .val (.int v14), .val (.ref b17), .unset, .unset] [])) t → Steps p.tables e below (s₁.setTop (entryFrame m #[(.int x0), (.int x1), (.int x2), (.int x3)] maxLocals)) t := fun t k => pre75 t (st77.trans k)
      have Zz77 : n0 ≤ T77.heap.size := Nat.le_trans Zz68 K77.1
      have c79 := (f68_0).keep K77
      rw [if_neg hc73] at hv84
      rw [if_neg hc73] at hv85
      subst hv84 hv85
      exact ⟨_, _, X77, N77, Zz77, Ec77, Fc77_inFront, Fc77_frontMovesPosted, Fc77_inFrontAsPosted, pre78⟩
  have pre87 : ∀ t, Steps p.tables e below (T83.setTop (mkF m 126 #[.val (.int x0), .val (.int x1), .val (.int x2), .val (.int x3), .val (.int v2), .val (.int v4), .val (.int v6), .val (.int v8), .val (.int v11), .val (.int v14), .val (.ref b17), .unset, .unset] [(.int (1 : Int32)), (.int v6)])) t → Steps p.tables e below (s₁.setTop (entryFrame m #[(.int x0), (.int x1), (.int x2), (.int x3)] maxLocals)) t := fun t k => pre86 t (by
    show Steps p.tables e below (T83.setTop (mkF m 123 #[.val (.int x0), .val (.int x1), .val (.int x2), .val (.int x3), .val (.int v2), .val (.int v4), .val (.int v6), .val (.int v8), .val (.int v11), .val (.int v14), .val (.ref b17), .unset, .unset] [])) _
    refine XS.iload X83.here hx rfl (hb hby at_123) rfl ?_
    show Steps p.tables e below (T83.setTop (mkF m 125 #[.val (.int x0), .val (.int x1), .val (.int x2), .val (.int x3), .val (.int v2), .val (.int v4), .val (.int v6), .val (.int v8), .val (.int v11), .val (.int v14), .val (.ref b17), .unset, .unset] [(.int v6)])) _
    refine XS.iconst X83.here hx rfl (hb hby at_125) ?_
    show Steps p.tables e below (T83.setTop (mkF m 126 #[.val (.int x0), .val (.int x1), .val (.int x2), .val (.int x3), .val (.int v2), .val (.int v4), .val (.int v6), .val (.int v8), .val (.int v11), .val (.int v14), .val (.ref b17), .unset, .unset] [(.int (1 : Int32)), (.int v6)])) _
    exact k)
  obtain ⟨v99, hv99⟩ : ∃ z : Int32, z = (if v6 < (1 : Int32) then v84 else (v84 - (1 : Int32))) := ⟨_, rfl⟩
  obtain ⟨T98, L98, X98, N98, Zz98, f98_0, f98_1, f98_2, f98_3, pre100⟩ : ∃ (T98 : State) (L98 : List Loc), Stand p l e room_1 s m #[(.int x0), (.int x1), (.int x2), (.int x3)] below meth c T98 L98 4 25 ∧ Fr n0 L98 ∧ n0 ≤ T98.heap.size ∧ (Exa Z T98.heap b17 "com/example/lean_lifecycle/leanlifecycle/ActivityManager") ∧ (Fld Z T98.heap b17 "com/example/lean_lifecycle/leanlifecycle/ActivityManager" "inFront" "Z" (.int (nar .boolean v2))) ∧ (Fld Z T98.heap b17 "com/example/lean_lifecycle/leanlifecycle/ActivityManager" "frontMovesPosted" "I" (.int v99)) ∧ (Fld Z T98.heap b17 "com/example/lean_lifecycle/leanlifecycle/ActivityManager" "inFrontAsPosted" "Z" (.int v85)) ∧ ∀ t, Steps p.tables e below (T98.setTop (mkF m 134 #[.val (.int x0), .val (.int x1), .val (.int x2), .val (.int x3), .val (.int v2), .val (.int v4), .val (.int v6), .val (.int v8), .val (.int v11), .val (.int v14), .val (.ref b17), .unset, .unset] [])) t → Steps p.tables e below (s₁.setTop (entryFrame m #[(.int x0), (.int x1), (.int x2), (.int x3)] maxLocals)) t := by
    by_cases hc88 : v6 < (1 : Int32)
    · skip
      have pre89 : ∀ t, Steps p.tables e below (T83.setTop (mkF m 134 #[.val (.int x0), .val (.int x1), .val (.int x2), .val (.int x3), .val (.int v2), .val (.int v4), .val (.int v6), .val (.int v8), .val (.int v11), .val (.int v14), .val (.ref b17), .unset, .unset] [])) t → Steps p.tables e below (s₁.setTop (entryFrame m #[(.int x0), (.int x1), (.int x2), (.int x3)] maxLocals)) t := fun t k => pre87 t (by
        show Steps p.tables e below (T83.setTop (mkF m 126 #[.val (.int x0), .val (.int x1), .val (.int x2), .val (.int x3), .val (.int v2), .val (.int v4), .val (.int v6), .val (.int v8), .val (.int v11), .val (.int v14), .val (.ref b17), .unset, .unset] [(.int (1 : Int32)), (.int v6)])) _
        refine XS.icmpYes X83.here hx rfl (pc0 := 126) (pc' := 134) rfl (hb hby at_126) rfl (tlt hc88).1 (by decide) (by decide) ?_
        show Steps p.tables e below (T83.setTop (mkF m 134 #[.val (.int x0), .val (.int x1), .val (.int x2), .val (.int x3), .val (.int v2), .val (.int v4), .val (.int v6), .val (.int v8), .val (.int v11), .val (.int v14), .val (.ref b17), .unset, .unset] [])) _
        exact k)
      rw [if_pos hc88] at hv99
      subst hv99
      exact ⟨_, _, X83, N83, Zz83, f83_0, f83_1, f83_2, f83_3, pre89⟩
    · skip
      have pre90 : ∀ t, Steps p.tables e below (T83.setTop (mkF m 131 #[.val (.int x0), .val (.int x1), .val (.int x2), .val (.int x3), .val (.int v2), .val (.int v4), .val (.int v6), .val (.int v8), .val (.int v11), .val (.int v14), .val (.ref b17), .unset, .unset] [(.ref b17)])) t → Steps p.tables e below (s₁.setTop (entryFrame m #[(.int x0), (.int x1), (.int x2), (.int x3)] maxLocals)) t := fun t k => pre87 t (by
        show Steps p.tables e below (T83.setTop (mkF m 126 #[.val (.int x0), .val (.int x1), .val (.int x2), .val (.int x3), .val (.int v2), .val (.int v4), .val (.int v6), .val (.int v8), .val (.int v11), .val (.int v14), .val (.ref b17), .unset, .unset] [(.int (1 : Int32)), (.int v6)])) _
        refine XS.icmpNo X83.here hx rfl (hb hby at_126) rfl (flt hc88).1 ?_
        show Steps p.tables e below (T83.setTop (mkF m 129 #[.val (.int x0), .val (.int x1), .val (.int x2), .val (.int x3), .val (.int v2), .val (.int v4), .val (.int v6), .val (.int v8), .val (.int v11), .val (.int v14), .val (.ref b17), .unset, .unset] [])) _
        refine XS.aload X83.here hx rfl (hb hby at_129) rfl rfl ?_
        show Steps p.tables e below (T83.setTop (mkF m 131 #[.val (.int x0), .val (.int x1), .val (.int x2), .val (.int x3), .val (.int v2), .val (.int v4), .val (.int v6), .val (.int v8), .val (.int v11), .val (.int v14), .val (.ref b17), .unset, .unset] [(.ref b17)])) _
        exact k)
      obtain ⟨cq92, kq92, q92a, q92b, q92c⟩ := isOf hZ rfl f83_0
      obtain ⟨_, _, ⟨T92, L92, k92, n92⟩, -, X92, ⟨Lc92, hQ92, l92, y92, z92⟩, st92⟩ := X83.virtualBack hx (y := (⟨"com/example/lean_lifecycle/leanlifecycle/ActivityManager", "endFrontMove", "()V"⟩ : MethodName)) (z := (⟨"com/example/lean_lifecycle/leanlifecycle/ActivityManager", "endFrontMove", "()V"⟩ : MethodName)) hown (mvT hZ (hw _ (List.mem_of_getElem? (i := 72) rfl))) (mvT hZ (hw _ (List.mem_of_getElem? (i := 73) rfl))) (notFace_of_selects (args := #[]) (mvT hZ (hw _ (List.mem_of_getElem? (i := 75) rfl)))) (mvT hZ (hw _ (List.mem_of_getElem? (i := 75) rfl))) (mvT hZ (hw _ (List.mem_of_getElem? (i := 74) rfl))) (by decide) (backOf (W := 0) (rm10 l Z a0 hw [] b17 (nar .boolean v2) v84 v85  T83.heap n0 Zz83 f83_0 f83_1 f83_2 f83_3 g_b17) hZ (hw _ (List.mem_of_getElem? (i := 76) rfl)) (hw _ (List.mem_of_getElem? (i := 3) rfl)) (by decide) (by decide)) q92a q92c (g := (mkF m 131 #[.val (.int x0), .val (.int x1), .val (.int x2), .val (.int x3), .val (.int v2), .val (.int v4), .val (.int v6), .val (.int v8), .val (.int v11), .val (.int v14), .val (.ref b17), .unset, .unset] [(.ref b17)])) rfl (by rw [hml]; rfl) (Steps.refl _) (argsL := []) (rest := []) (lenOf pd_0 rfl) rfl (by show 2 * 0 + _ ≤ _; exact Nat.le_of_eq rfl) (hb hby at_131) (fun _ _ => ⟨rfl, rfl, (by decide : 4 + 0 ≤ _), (by decide : 25 + 0 ≤ _)⟩)
      dsimp only [Pt.U, Pt.locs, Pt.cells, Pt.slots] at X92 l92 y92 z92 st92 hQ92
      subst l92 y92 z92
      obtain ⟨rfl, N92q, K92, Ec92, Fc92_inFront, Fc92_frontMovesPosted, Fc92_inFrontAsPosted⟩ := hQ92
      have N92 := Fr.app N83 N92q
      have pre93 : ∀ t, Steps p.tables e below (T92.setTop (mkF m 134 #[.val (.int x0), .val (.int x1), .val (.int x2), .val (.int x3), .val (.int v2), .val (.int v4), .val (.int v6), .val (.int v8), .val (.int v11), .val (.int v14), .val (.ref b17), .unset, .unset] [])) t → Steps p.tables e below (s₁.setTop (entryFrame m #[(.int x0), (.int x1), (.int x2), (.int x3)] maxLocals)) t := fun t k => pre90 t (st92.trans k)
      have Zz92 : n0 ≤ T92.heap.size := Nat.le_trans Zz83 K92.1
      have c94 := (f83_0).keep K92
      rw [if_neg hc88] at hv99
      subst hv99
      exact ⟨_, _, X92, N92, Zz92, Ec92, Fc92_inFront, Fc92_frontMovesPosted, Fc92_inFrontAsPosted, pre93⟩
  have pre101 : ∀ t, Steps p.tables e below (T98.setTop (mkF m 137 #[.val (.int x0), .val (.int x1), .val (.int x2), .val (.int x3), .val (.int v2), .val (.int v4), .val (.int v6), .val (.int v8), .val (.int v11), .val (.int v14), .val (.ref b17), .unset, .unset] [(.int (2 : Int32)), (.int v6)])) t → Steps p.tables e below (s₁.setTop (entryFrame m #[(.int x0), (.int x1), (.int x2), (.int x3)] maxLocals)) t := fun t k => pre100 t (by
    show Steps p.tables e below (T98.setTop (mkF m 134 #[.val (.int x0), .val (.int x1), .val (.int x2), .val (.int x3), .val (.int v2), .val (.int v4), .val (.int v6), .val (.int v8), .val (.int v11), .val (.int v14), .val (.ref b17), .unset, .unset] [])) _
    refine XS.iload X98.here hx rfl (hb hby at_134) rfl ?_
    show Steps p.tables e below (T98.setTop (mkF m 136 #[.val (.int x0), .val (.int x1), .val (.int x2), .val (.int x3), .val (.int v2), .val (.int v4), .val (.int v6), .val (.int v8), .val (.int v11), .val (.int v14), .val (.ref b17), .unset, .unset] [(.int v6)])) _
    refine XS.iconst X98.here hx rfl (hb hby at_136) ?_
    show Steps p.tables e below (T98.setTop (mkF m 137 #[.val (.int x0), .val (.int x1), .val (.int x2), .val (.int x3), .val (.int v2), .val (.int v4), .val (.int v6), .val (.int v8), .val (.int v11), .val (.int v14), .val (.ref b17), .unset, .unset] [(.int (2 : Int32)), (.int v6)])) _
    exact k)
  obtain ⟨v113, hv113⟩ : ∃ z : Int32, z = (if v6 < (2 : Int32) then v99 else (v99 - (1 : Int32))) := ⟨_, rfl⟩
  obtain ⟨T112, L112, X112, N112, Zz112, f112_0, f112_1, f112_2, f112_3, pre114⟩ : ∃ (T112 : State) (L112 : List Loc), Stand p l e room_1 s m #[(.int x0), (.int x1), (.int x2), (.int x3)] below meth c T112 L112 4 25 ∧ Fr n0 L112 ∧ n0 ≤ T112.heap.size ∧ (Exa Z T112.heap b17 "com/example/lean_lifecycle/leanlifecycle/ActivityManager") ∧ (Fld Z T112.heap b17 "com/example/lean_lifecycle/leanlifecycle/ActivityManager" "inFront" "Z" (.int (nar .boolean v2))) ∧ (Fld Z T112.heap b17 "com/example/lean_lifecycle/leanlifecycle/ActivityManager" "frontMovesPosted" "I" (.int v113)) ∧ (Fld Z T112.heap b17 "com/example/lean_lifecycle/leanlifecycle/ActivityManager" "inFrontAsPosted" "Z" (.int v85)) ∧ ∀ t, Steps p.tables e below (T112.setTop (mkF m 145 #[.val (.int x0), .val (.int x1), .val (.int x2), .val (.int x3), .val (.int v2), .val (.int v4), .val (.int v6), .val (.int v8), .val (.int v11), .val (.int v14), .val (.ref b17), .unset, .unset] [])) t → Steps p.tables e below (s₁.setTop (entryFrame m #[(.int x0), (.int x1), (.int x2), (.int x3)] maxLocals)) t := by
    by_cases hc102 : v6 < (2 : Int32)
    · skip
      have pre103 : ∀ t, Steps p.tables e below (T98.setTop (mkF m 145 #[.val (.int x0), .val (.int x1), .val (.int x2), .val (.int x3), .val (.int v2), .val (.int v4), .val (.int v6), .val (.int v8), .val (.int v11), .val (.int v14), .val (.ref b17), .unset, .unset] [])) t → Steps p.tables e below (s₁.setTop (entryFrame m #[(.int x0), (.int x1), (.int x2), (.int x3)] maxLocals)) t := fun t k => pre101 t (by
        show Steps p.tables e below (T98.setTop (mkF m 137 #[.val (.int x0), .val (.int x1), .val (.int x2), .val (.int x3), .val (.int v2), .val (.int v4), .val (.int v6), .val (.int v8), .val (.int v11), .val (.int v14), .val (.ref b17), .unset, .unset] [(.int (2 : Int32)), (.int v6)])) _
        refine XS.icmpYes X98.here hx rfl (pc0 := 137) (pc' := 145) rfl (hb hby at_137) rfl (tlt hc102).1 (by decide) (by decide) ?_
        show Steps p.tables e below (T98.setTop (mkF m 145 #[.val (.int x0), .val (.int x1), .val (.int x2), .val (.int x3), .val (.int v2), .val (.int v4), .val (.int v6), .val (.int v8), .val (.int v11), .val (.int v14), .val (.ref b17), .unset, .unset] [])) _
        exact k)
      rw [if_pos hc102] at hv113
      subst hv113
      exact ⟨_, _, X98, N98, Zz98, f98_0, f98_1, f98_2, f98_3, pre103⟩
    · skip
      have pre104 : ∀ t, Steps p.tables e below (T98.setTop (mkF m 142 #[.val (.int x0), .val (.int x1), .val (.int x2), .val (.int x3), .val (.int v2), .val (.int v4), .val (.int v6), .val (.int v8), .val (.int v11), .val (.int v14), .val (.ref b17), .unset, .unset] [(.ref b17)])) t → Steps p.tables e below (s₁.setTop (entryFrame m #[(.int x0), (.int x1), (.int x2), (.int x3)] maxLocals)) t := fun t k => pre101 t (by
        show Steps p.tables e below (T98.setTop (mkF m 137 #[.val (.int x0), .val (.int x1), .val (.int x2), .val (.int x3), .val (.int v2), .val (.int v4), .val (.int v6), .val (.int v8), .val (.int v11), .val (.int v14), .val (.ref b17), .unset, .unset] [(.int (2 : Int32)), (.int v6)])) _
        refine XS.icmpNo X98.here hx rfl (hb hby at_137) rfl (flt hc102).1 ?_
        show Steps p.tables e below (T98.setTop (mkF m 140 #[.val (.int x0), .val (.int x1), .val (.int x2), .val (.int x3), .val (.int v2), .val (.int v4), .val (.int v6), .val (.int v8), .val (.int v11), .val (.int v14), .val (.ref b17), .unset, .unset] [])) _
        refine XS.aload X98.here hx rfl (hb hby at_140) rfl rfl ?_
        show Steps p.tables e below (T98.setTop (mkF m 142 #[.val (.int x0), .val (.int x1), .val (.int x2), .val (.int x3), .val (.int v2), .val (.int v4), .val (.int v6), .val (.int v8), .val (.int v11), .val (.int v14), .val (.ref b17), .unset, .unset] [(.ref b17)])) _
        exact k)
      obtain ⟨cq106, kq106, q106a, q106b, q106c⟩ := isOf hZ rfl f98_0
      obtain ⟨_, _, ⟨T106, L106, k106, n106⟩, -, X106, ⟨Lc106, hQ106, l106, y106, z106⟩, st106⟩ := X98.virtualBack hx (y := (⟨"com/example/lean_lifecycle/leanlifecycle/ActivityManager", "endFrontMove", "()V"⟩ : MethodName)) (z := (⟨"com/example/lean_lifecycle/leanlifecycle/ActivityManager", "endFrontMove", "()V"⟩ : MethodName)) hown (mvT hZ (hw _ (List.mem_of_getElem? (i := 72) rfl))) (mvT hZ (hw _ (List.mem_of_getElem? (i := 73) rfl))) (notFace_of_selects (args := #[]) (mvT hZ (hw _ (List.mem_of_getElem? (i := 75) rfl)))) (mvT hZ (hw _ (List.mem_of_getElem? (i := 75) rfl))) (mvT hZ (hw _ (List.mem_of_getElem? (i := 74) rfl))) (by decide) (backOf (W := 0) (rm10 l Z a0 hw [] b17 (nar .boolean v2) v99 v85  T98.heap n0 Zz98 f98_0 f98_1 f98_2 f98_3 g_b17) hZ (hw _ (List.mem_of_getElem? (i := 76) rfl)) (hw _ (List.mem_of_getElem? (i := 3) rfl)) (by decide) (by decide)) q106a q106c (g := (mkF m 142 #[.val (.int x0), .val (.int x1), .val (.int x2), .val (.int x3), .val (.int v2), .val (.int v4), .val (.int v6), .val (.int v8), .val (.int v11), .val (.int v14), .val (.ref b17), .unset, .unset] [(.ref b17)])) rfl (by rw [hml]; rfl) (Steps.refl _) (argsL := []) (rest := []) (lenOf pd_0 rfl) rfl (by show 2 * 0 + _ ≤ _; exact Nat.le_of_eq rfl) (hb hby at_142) (fun _ _ => ⟨rfl, rfl, (by decide : 4 + 0 ≤ _), (by decide : 25 + 0 ≤ _)⟩)
      dsimp only [Pt.U, Pt.locs, Pt.cells, Pt.slots] at X106 l106 y106 z106 st106 hQ106
      subst l106 y106 z106
      obtain ⟨rfl, N106q, K106, Ec106, Fc106_inFront, Fc106_frontMovesPosted, Fc106_inFrontAsPosted⟩ := hQ106
      have N106 := Fr.app N98 N106q
      have pre107 : ∀ t, Steps p.tables e below (T106.setTop (mkF m 145 #[.val (.int x0), .val (.int x1), .val (.int x2), .val (.int x3), .val (.int v2), .val (.int v4), .val (.int v6), .val (.int v8), .val (.int v11), .val (.int v14), .val (.ref b17), .unset, .unset] [])) t → Steps p.tables e below (s₁.setTop (entryFrame m #[(.int x0), (.int x1), (.int x2), (.int x3)] maxLocals)) t := fun t k => pre104 t (st106.trans k)
      have Zz106 : n0 ≤ T106.heap.size := Nat.le_trans Zz98 K106.1
      have c108 := (f98_0).keep K106
      rw [if_neg hc102] at hv113
      subst hv113
      exact ⟨_, _, X106, N106, Zz106, Ec106, Fc106_inFront, Fc106_frontMovesPosted, Fc106_inFrontAsPosted, pre107⟩
  have pre115 : ∀ t, Steps p.tables e below (T112.setTop (mkF m 148 #[.val (.int x0), .val (.int x1), .val (.int x2), .val (.int x3), .val (.int v2), .val (.int v4), .val (.int v6), .val (.int v8), .val (.int v11), .val (.int v14), .val (.ref b17), .unset, .unset] [(.int (3 : Int32)), (.int v6)])) t → Steps p.tables e below (s₁.setTop (entryFrame m #[(.int x0), (.int x1), (.int x2), (.int x3)] maxLocals)) t := fun t k => pre114 t (by
    show Steps p.tables e below (T112.setTop (mkF m 145 #[.val (.int x0), .val (.int x1), .val (.int x2), .val (.int x3), .val (.int v2), .val (.int v4), .val (.int v6), .val (.int v8), .val (.int v11), .val (.int v14), .val (.ref b17), .unset, .unset] [])) _
    refine XS.iload X112.here hx rfl (hb hby at_145) rfl ?_
    show Steps p.tables e below (T112.setTop (mkF m 147 #[.val (.int x0), .val (.int x1), .val (.int x2), .val (.int x3), .val (.int v2), .val (.int v4), .val (.int v6), .val (.int v8), .val (.int v11), .val (.int v14), .val (.ref b17), .unset, .unset] [(.int v6)])) _
    refine XS.iconst X112.here hx rfl (hb hby at_147) ?_
    show Steps p.tables e below (T112.setTop (mkF m 148 #[.val (.int x0), .val (.int x1), .val (.int x2), .val (.int x3), .val (.int v2), .val (.int v4), .val (.int v6), .val (.int v8), .val (.int v11), .val (.int v14), .val (.ref b17), .unset, .unset] [(.int (3 : Int32)), (.int v6)])) _
    exact k)
  obtain ⟨v127, hv127⟩ : ∃ z : Int32, z = (if v6 < (3 : Int32) then v113 else (v113 - (1 : Int32))) := ⟨_, rfl⟩
  obtain ⟨T126, L126, X126, N126, Zz126, f126_0, f126_1, f126_2, f126_3, pre128⟩ : ∃ (T126 : State) (L126 : List Loc), Stand p l e room_1 s m #[(.int x0), (.int x1), (.int x2), (.int x3)] below meth c T126 L126 4 25 ∧ Fr n0 L126 ∧ n0 ≤ T126.heap.size ∧ (Exa Z T126.heap b17 "com/example/lean_lifecycle/leanlifecycle/ActivityManager") ∧ (Fld Z T126.heap b17 "com/example/lean_lifecycle/leanlifecycle/ActivityManager" "inFront" "Z" (.int (nar .boolean v2))) ∧ (Fld Z T126.heap b17 "com/example/lean_lifecycle/leanlifecycle/ActivityManager" "frontMovesPosted" "I" (.int v127)) ∧ (Fld Z T126.heap b17 "com/example/lean_lifecycle/leanlifecycle/ActivityManager" "inFrontAsPosted" "Z" (.int v85)) ∧ ∀ t, Steps p.tables e below (T126.setTop (mkF m 156 #[.val (.int x0), .val (.int x1), .val (.int x2), .val (.int x3), .val (.int v2), .val (.int v4), .val (.int v6), .val (.int v8), .val (.int v11), .val (.int v14), .val (.ref b17), .unset, .unset] [])) t → Steps p.tables e below (s₁.setTop (entryFrame m #[(.int x0), (.int x1), (.int x2), (.int x3)] maxLocals)) t := by
    by_cases hc116 : v6 < (3 : Int32)
    · skip
      have pre117 : ∀ t, Steps p.tables e below (T112.setTop (mkF m 156 #[.val (.int x0), .val (.int x1), .val (.int x2), .val (.int x3), .val (.int v2), .val (.int v4), .val (.int v6), .val (.int v8), .val (.int v11), .val (.int v14), .val (.ref b17), .unset, .unset] [])) t → Steps p.tables e below (s₁.setTop (entryFrame m #[(.int x0), (.int x1), (.int x2), (.int x3)] maxLocals)) t := fun t k => pre115 t (by
        show Steps p.tables e below (T112.setTop (mkF m 148 #[.val (.int x0), .val (.int x1), .val (.int x2), .val (.int x3), .val (.int v2), .val (.int v4), .val (.int v6), .val (.int v8), .val (.int v11), .val (.int v14), .val (.ref b17), .unset, .unset] [(.int (3 : Int32)), (.int v6)])) _
        refine XS.icmpYes X112.here hx rfl (pc0 := 148) (pc' := 156) rfl (hb hby at_148) rfl (tlt hc116).1 (by decide) (by decide) ?_
        show Steps p.tables e below (T112.setTop (mkF m 156 #[.val (.int x0), .val (.int x1), .val (.int x2), .val (.int x3), .val (.int v2), .val (.int v4), .val (.int v6), .val (.int v8), .val (.int v11), .val (.int v14), .val (.ref b17), .unset, .unset] [])) _
        exact k)
      rw [if_pos hc116] at hv127
      subst hv127
      exact ⟨_, _, X112, N112, Zz112, f112_0, f112_1, f112_2, f112_3, pre117⟩
    · skip
      have pre118 : ∀ t, Steps p.tables e below (T112.setTop (mkF m 153 #[.val (.int x0), .val (.int x1), .val (.int x2), .val (.int x3), .val (.int v2), .val (.int v4), .val (.int v6), .val (.int v8), .val (.int v11), .val (.int v14), .val (.ref b17), .unset, .unset] [(.ref b17)])) t → Steps p.tables e below (s₁.setTop (entryFrame m #[(.int x0), (.int x1), (.int x2), (.int x3)] maxLocals)) t := fun t k => pre115 t (by
        show Steps p.tables e below (T112.setTop (mkF m 148 #[.val (.int x0), .val (.int x1), .val (.int x2), .val (.int x3), .val (.int v2), .val (.int v4), .val (.int v6), .val (.int v8), .val (.int v11), .val (.int v14), .val (.ref b17), .unset, .unset] [(.int (3 : Int32)), (.int v6)])) _
        refine XS.icmpNo X112.here hx rfl (hb hby at_148) rfl (flt hc116).1 ?_
        show Steps p.tables e below (T112.setTop (mkF m 151 #[.val (.int x0), .val (.int x1), .val (.int x2), .val (.int x3), .val (.int v2), .val (.int v4), .val (.int v6), .val (.int v8), .val (.int v11), .val (.int v14), .val (.ref b17), .unset, .unset] [])) _
        refine XS.aload X112.here hx rfl (hb hby at_151) rfl rfl ?_
        show Steps p.tables e below (T112.setTop (mkF m 153 #[.val (.int x0), .val (.int x1), .val (.int x2), .val (.int x3), .val (.int v2), .val (.int v4), .val (.int v6), .val (.int v8), .val (.int v11), .val (.int v14), .val (.ref b17), .unset, .unset] [(.ref b17)])) _
        exact k)
      obtain ⟨cq120, kq120, q120a, q120b, q120c⟩ := isOf hZ rfl f112_0
      obtain ⟨_, _, ⟨T120, L120, k120, n120⟩, -, X120, ⟨Lc120, hQ120, l120, y120, z120⟩, st120⟩ := X112.virtualBack hx (y := (⟨"com/example/lean_lifecycle/leanlifecycle/ActivityManager", "endFrontMove", "()V"⟩ : MethodName)) (z := (⟨"com/example/lean_lifecycle/leanlifecycle/ActivityManager", "endFrontMove", "()V"⟩ : MethodName)) hown (mvT hZ (hw _ (List.mem_of_getElem? (i := 72) rfl))) (mvT hZ (hw _ (List.mem_of_getElem? (i := 73) rfl))) (notFace_of_selects (args := #[]) (mvT hZ (hw _ (List.mem_of_getElem? (i := 75) rfl)))) (mvT hZ (hw _ (List.mem_of_getElem? (i := 75) rfl))) (mvT hZ (hw _ (List.mem_of_getElem? (i := 74) rfl))) (by decide) (backOf (W := 0) (rm10 l Z a0 hw [] b17 (nar .boolean v2) v113 v85  T112.heap n0 Zz112 f112_0 f112_1 f112_2 f112_3 g_b17) hZ (hw _ (List.mem_of_getElem? (i := 76) rfl)) (hw _ (List.mem_of_getElem? (i := 3) rfl)) (by decide) (by decide)) q120a q120c (g := (mkF m 153 #[.val (.int x0), .val (.int x1), .val (.int x2), .val (.int x3), .val (.int v2), .val (.int v4), .val (.int v6), .val (.int v8), .val (.int v11), .val (.int v14), .val (.ref b17), .unset, .unset] [(.ref b17)])) rfl (by rw [hml]; rfl) (Steps.refl _) (argsL := []) (rest := []) (lenOf pd_0 rfl) rfl (by show 2 * 0 + _ ≤ _; exact Nat.le_of_eq rfl) (hb hby at_153) (fun _ _ => ⟨rfl, rfl, (by decide : 4 + 0 ≤ _), (by decide : 25 + 0 ≤ _)⟩)
      dsimp only [Pt.U, Pt.locs, Pt.cells, Pt.slots] at X120 l120 y120 z120 st120 hQ120
      subst l120 y120 z120
      obtain ⟨rfl, N120q, K120, Ec120, Fc120_inFront, Fc120_frontMovesPosted, Fc120_inFrontAsPosted⟩ := hQ120
      have N120 := Fr.app N112 N120q
      have pre121 : ∀ t, Steps p.tables e below (T120.setTop (mkF m 156 #[.val (.int x0), .val (.int x1), .val (.int x2), .val (.int x3), .val (.int v2), .val (.int v4), .val (.int v6), .val (.int v8), .val (.int v11), .val (.int v14), .val (.ref b17), .unset, .unset] [])) t → Steps p.tables e below (s₁.setTop (entryFrame m #[(.int x0), (.int x1), (.int x2), (.int x3)] maxLocals)) t := fun t k => pre118 t (st120.trans k)
      have Zz120 : n0 ≤ T120.heap.size := Nat.le_trans Zz112 K120.1
      have c122 := (f112_0).keep K120
      rw [if_neg hc116] at hv127
      subst hv127
      exact ⟨_, _, X120, N120, Zz120, Ec120, Fc120_inFront, Fc120_frontMovesPosted, Fc120_inFrontAsPosted, pre121⟩
  obtain ⟨v131, hv131⟩ : ∃ z : Int32, z = (if v4 = (3 : Int32) then v14 else (if v4 = (2 : Int32) then v11 else v8)) := ⟨_, rfl⟩
  have pre132 : ∀ t, Steps p.tables e below (T126.setTop (mkF m 180 #[.val (.int x0), .val (.int x1), .val (.int x2), .val (.int x3), .val (.int v2), .val (.int v4), .val (.int v6), .val (.int v8), .val (.int v11), .val (.int v14), .val (.ref b17), .unset, .unset] [(.int v131)])) t → Steps p.tables e below (s₁.setTop (entryFrame m #[(.int x0), (.int x1), (.int x2), (.int x3)] maxLocals)) t := fun t k => pre128 t (by
    show Steps p.tables e below (T126.setTop (mkF m 156 #[.val (.int x0), .val (.int x1), .val (.int x2), .val (.int x3), .val (.int v2), .val (.int v4), .val (.int v6), .val (.int v8), .val (.int v11), .val (.int v14), .val (.ref b17), .unset, .unset] [])) _
    refine XS.iload X126.here hx rfl (hb hby at_156) rfl ?_
    show Steps p.tables e below (T126.setTop (mkF m 158 #[.val (.int x0), .val (.int x1), .val (.int x2), .val (.int x3), .val (.int v2), .val (.int v4), .val (.int v6), .val (.int v8), .val (.int v11), .val (.int v14), .val (.ref b17), .unset, .unset] [(.int v4)])) _
    refine XS.iconst X126.here hx rfl (hb hby at_158) ?_
    show Steps p.tables e below (T126.setTop (mkF m 159 #[.val (.int x0), .val (.int x1), .val (.int x2), .val (.int x3), .val (.int v2), .val (.int v4), .val (.int v6), .val (.int v8), .val (.int v11), .val (.int v14), .val (.ref b17), .unset, .unset] [(.int (3 : Int32)), (.int v4)])) _
    by_cases hc129 : v4 = (3 : Int32)
    · skip
      refine XS.icmpNo X126.here hx rfl (hb hby at_159) rfl (teq hc129).2 ?_
      show Steps p.tables e below (T126.setTop (mkF m 162 #[.val (.int x0), .val (.int x1), .val (.int x2), .val (.int x3), .val (.int v2), .val (.int v4), .val (.int v6), .val (.int v8), .val (.int v11), .val (.int v14), .val (.ref b17), .unset, .unset] [])) _
      refine XS.iload X126.here hx rfl (hb hby at_162) rfl ?_
      show Steps p.tables e below (T126.setTop (mkF m 164 #[.val (.int x0), .val (.int x1), .val (.int x2), .val (.int x3), .val (.int v2), .val (.int v4), .val (.int v6), .val (.int v8), .val (.int v11), .val (.int v14), .val (.ref b17), .unset, .unset] [(.int v14)])) _
      refine XS.goto X126.here hx rfl (pc0 := 164) (pc' := 180) rfl (hb hby at_164) (by decide) (by decide) ?_
      show Steps p.tables e below (T126.setTop (mkF m 180 #[.val (.int x0), .val (.int x1), .val (.int x2), .val (.int x3), .val (.int v2), .val (.int v4), .val (.int v6), .val (.int v8), .val (.int v11), .val (.int v14), .val (.ref b17), .unset, .unset] [(.int v14)])) _
      rw [show v131 = v14 from by rw [hv131, if_pos hc129]] at k
      exact k
    · skip
      refine XS.icmpYes X126.here hx rfl (pc0 := 159) (pc' := 167) rfl (hb hby at_159) rfl (feq hc129).2 (by decide) (by decide) ?_
      show Steps p.tables e below (T126.setTop (mkF m 167 #[.val (.int x0), .val (.int x1), .val (.int x2), .val (.int x3), .val (.int v2), .val (.int v4), .val (.int v6), .val (.int v8), .val (.int v11), .val (.int v14), .val (.ref b17), .unset, .unset] [])) _
      refine XS.iload X126.here hx rfl (hb hby at_167) rfl ?_
      show Steps p.tables e below (T126.setTop (mkF m 169 #[.val (.int x0), .val (.int x1), .val (.int x2), .val (.int x3), .val (.int v2), .val (.int v4), .val (.int v6), .val (.int v8), .val (.int v11), .val (.int v14), .val (.ref b17), .unset, .unset] [(.int v4)])) _
      refine XS.iconst X126.here hx rfl (hb hby at_169) ?_
      show Steps p.tables e below (T126.setTop (mkF m 170 #[.val (.int x0), .val (.int x1), .val (.int x2), .val (.int x3), .val (.int v2), .val (.int v4), .val (.int v6), .val (.int v8), .val (.int v11), .val (.int v14), .val (.ref b17), .unset, .unset] [(.int (2 : Int32)), (.int v4)])) _
      by_cases hc130 : v4 = (2 : Int32)
      · skip
        refine XS.icmpNo X126.here hx rfl (hb hby at_170) rfl (teq hc130).2 ?_
        show Steps p.tables e below (T126.setTop (mkF m 173 #[.val (.int x0), .val (.int x1), .val (.int x2), .val (.int x3), .val (.int v2), .val (.int v4), .val (.int v6), .val (.int v8), .val (.int v11), .val (.int v14), .val (.ref b17), .unset, .unset] [])) _
        refine XS.iload X126.here hx rfl (hb hby at_173) rfl ?_
        show Steps p.tables e below (T126.setTop (mkF m 175 #[.val (.int x0), .val (.int x1), .val (.int x2), .val (.int x3), .val (.int v2), .val (.int v4), .val (.int v6), .val (.int v8), .val (.int v11), .val (.int v14), .val (.ref b17), .unset, .unset] [(.int v11)])) _
        refine XS.goto X126.here hx rfl (pc0 := 175) (pc' := 180) rfl (hb hby at_175) (by decide) (by decide) ?_
        show Steps p.tables e below (T126.setTop (mkF m 180 #[.val (.int x0), .val (.int x1), .val (.int x2), .val (.int x3), .val (.int v2), .val (.int v4), .val (.int v6), .val (.int v8), .val (.int v11), .val (.int v14), .val (.ref b17), .unset, .unset] [(.int v11)])) _
        rw [show v131 = v11 from by rw [hv131, if_neg hc129, if_pos hc130]] at k
        exact k
      · skip
        refine XS.icmpYes X126.here hx rfl (pc0 := 170) (pc' := 178) rfl (hb hby at_170) rfl (feq hc130).2 (by decide) (by decide) ?_
        show Steps p.tables e below (T126.setTop (mkF m 178 #[.val (.int x0), .val (.int x1), .val (.int x2), .val (.int x3), .val (.int v2), .val (.int v4), .val (.int v6), .val (.int v8), .val (.int v11), .val (.int v14), .val (.ref b17), .unset, .unset] [])) _
        refine XS.iload X126.here hx rfl (hb hby at_178) rfl ?_
        show Steps p.tables e below (T126.setTop (mkF m 180 #[.val (.int x0), .val (.int x1), .val (.int x2), .val (.int x3), .val (.int v2), .val (.int v4), .val (.int v6), .val (.int v8), .val (.int v11), .val (.int v14), .val (.ref b17), .unset, .unset] [(.int v8)])) _
        rw [show v131 = v8 from by rw [hv131, if_neg hc129, if_neg hc130]] at k
        exact k)
  obtain ⟨v134, hv134⟩ : ∃ z : Int32, z = (if (0 : Int32) < (v4 - v6) then v131 else v2) := ⟨_, rfl⟩
  have pre135 : ∀ t, Steps p.tables e below (T126.setTop (mkF m 197 #[.val (.int x0), .val (.int x1), .val (.int x2), .val (.int x3), .val (.int v2), .val (.int v4), .val (.int v6), .val (.int v8), .val (.int v11), .val (.int v14), .val (.ref b17), .val (.int v131), .unset] [(.int v134)])) t → Steps p.tables e below (s₁.setTop (entryFrame m #[(.int x0), (.int x1), (.int x2), (.int x3)] maxLocals)) t := fun t k => pre132 t (by
    show Steps p.tables e below (T126.setTop (mkF m 180 #[.val (.int x0), .val (.int x1), .val (.int x2), .val (.int x3), .val (.int v2), .val (.int v4), .val (.int v6), .val (.int v8), .val (.int v11), .val (.int v14), .val (.ref b17), .unset, .unset] [(.int v131)])) _
    refine XS.istore X126.here hx rfl (hb hby at_180) rfl (l' := #[.val (.int x0), .val (.int x1), .val (.int x2), .val (.int x3), .val (.int v2), .val (.int v4), .val (.int v6), .val (.int v8), .val (.int v11), .val (.int v14), .val (.ref b17), .val (.int v131), .unset]) rfl ?_
    show Steps p.tables e below (T126.setTop (mkF m 182 #[.val (.int x0), .val (.int x1), .val (.int x2), .val (.int x3), .val (.int v2), .val (.int v4), .val (.int v6), .val (.int v8), .val (.int v11), .val (.int v14), .val (.ref b17), .val (.int v131), .unset] [])) _
    refine XS.iload X126.here hx rfl (hb hby at_182) rfl ?_
    show Steps p.tables e below (T126.setTop (mkF m 184 #[.val (.int x0), .val (.int x1), .val (.int x2), .val (.int x3), .val (.int v2), .val (.int v4), .val (.int v6), .val (.int v8), .val (.int v11), .val (.int v14), .val (.ref b17), .val (.int v131), .unset] [(.int v4)])) _
    refine XS.iload X126.here hx rfl (hb hby at_184) rfl ?_
    show Steps p.tables e below (T126.setTop (mkF m 186 #[.val (.int x0), .val (.int x1), .val (.int x2), .val (.int x3), .val (.int v2), .val (.int v4), .val (.int v6), .val (.int v8), .val (.int v11), .val (.int v14), .val (.ref b17), .val (.int v131), .unset] [(.int v6), (.int v4)])) _
    refine XS.isub X126.here hx rfl (hb hby at_186) rfl ?_
    show Steps p.tables e below (T126.setTop (mkF m 187 #[.val (.int x0), .val (.int x1), .val (.int x2), .val (.int x3), .val (.int v2), .val (.int v4), .val (.int v6), .val (.int v8), .val (.int v11), .val (.int v14), .val (.ref b17), .val (.int v131), .unset] [(.int (v4 - v6))])) _
    by_cases hc133 : (0 : Int32) < (v4 - v6)
    · skip
      refine XS.ifNo X126.here hx rfl (hb hby at_187) rfl ((if0 _ _).trans (tlt hc133).2.2.2) ?_
      show Steps p.tables e below (T126.setTop (mkF m 190 #[.val (.int x0), .val (.int x1), .val (.int x2), .val (.int x3), .val (.int v2), .val (.int v4), .val (.int v6), .val (.int v8), .val (.int v11), .val (.int v14), .val (.ref b17), .val (.int v131), .unset] [])) _
      refine XS.iload X126.here hx rfl (hb hby at_190) rfl ?_
      show Steps p.tables e below (T126.setTop (mkF m 192 #[.val (.int x0), .val (.int x1), .val (.int x2), .val (.int x3), .val (.int v2), .val (.int v4), .val (.int v6), .val (.int v8), .val (.int v11), .val (.int v14), .val (.ref b17), .val (.int v131), .unset] [(.int v131)])) _
      refine XS.goto X126.here hx rfl (pc0 := 192) (pc' := 197) rfl (hb hby at_192) (by decide) (by decide) ?_
      show Steps p.tables e below (T126.setTop (mkF m 197 #[.val (.int x0), .val (.int x1), .val (.int x2), .val (.int x3), .val (.int v2), .val (.int v4), .val (.int v6), .val (.int v8), .val (.int v11), .val (.int v14), .val (.ref b17), .val (.int v131), .unset] [(.int v131)])) _
      rw [show v134 = v131 from by rw [hv134, if_pos hc133]] at k
      exact k
    · skip
      refine XS.ifYes X126.here hx rfl (pc0 := 187) (pc' := 195) rfl (hb hby at_187) rfl ((if0 _ _).trans (flt hc133).2.2.2) (by decide) (by decide) ?_
      show Steps p.tables e below (T126.setTop (mkF m 195 #[.val (.int x0), .val (.int x1), .val (.int x2), .val (.int x3), .val (.int v2), .val (.int v4), .val (.int v6), .val (.int v8), .val (.int v11), .val (.int v14), .val (.ref b17), .val (.int v131), .unset] [])) _
      refine XS.iload X126.here hx rfl (hb hby at_195) rfl ?_
      show Steps p.tables e below (T126.setTop (mkF m 197 #[.val (.int x0), .val (.int x1), .val (.int x2), .val (.int x3), .val (.int v2), .val (.int v4), .val (.int v6), .val (.int v8), .val (.int v11), .val (.int v14), .val (.ref b17), .val (.int v131), .unset] [(.int v2)])) _
      rw [show v134 = v2 from by rw [hv134, if_neg hc133]] at k
      exact k)
  have pre136 : ∀ t, Steps p.tables e below (T126.setTop (mkF m 201 #[.val (.int x0), .val (.int x1), .val (.int x2), .val (.int x3), .val (.int v2), .val (.int v4), .val (.int v6), .val (.int v8), .val (.int v11), .val (.int v14), .val (.ref b17), .val (.int v131), .val (.int v134)] [(.ref b17)])) t → Steps p.tables e below (s₁.setTop (entryFrame m #[(.int x0), (.int x1), (.int x2), (.int x3)] maxLocals)) t := fun t k => pre135 t (by
    show Steps p.tables e below (T126.setTop (mkF m 197 #[.val (.int x0), .val (.int x1), .val (.int x2), .val (.int x3), .val (.int v2), .val (.int v4), .val (.int v6), .val (.int v8), .val (.int v11), .val (.int v14), .val (.ref b17), .val (.int v131), .unset] [(.int v134)])) _
    refine XS.istore X126.here hx rfl (hb hby at_197) rfl (l' := #[.val (.int x0), .val (.int x1), .val (.int x2), .val (.int x3), .val (.int v2), .val (.int v4), .val (.int v6), .val (.int v8), .val (.int v11), .val (.int v14), .val (.ref b17), .val (.int v131), .val (.int v134)]) rfl ?_
    show Steps p.tables e below (T126.setTop (mkF m 199 #[.val (.int x0), .val (.int x1), .val (.int x2), .val (.int x3), .val (.int v2), .val (.int v4), .val (.int v6), .val (.int v8), .val (.int v11), .val (.int v14), .val (.ref b17), .val (.int v131), .val (.int v134)] [])) _
    refine XS.aload X126.here hx rfl (hb hby at_199) rfl rfl ?_
    show Steps p.tables e below (T126.setTop (mkF m 201 #[.val (.int x0), .val (.int x1), .val (.int x2), .val (.int x3), .val (.int v2), .val (.int v4), .val (.int v6), .val (.int v8), .val (.int v11), .val (.int v14), .val (.ref b17), .val (.int v131), .val (.int v134)] [(.ref b17)])) _
    exact k)
  obtain ⟨cq138, kq138, q138a, q138b, q138c⟩ := isOf hZ rfl f126_0
  obtain ⟨_, _, ⟨T138, L138, k138, n138⟩, -, X138, ⟨Lc138, hQ138, l138, y138, z138⟩, st138⟩ := X126.virtualBack hx (y := (⟨"com/example/lean_lifecycle/leanlifecycle/ActivityManager", "isInFrontAsPosted", "()Z"⟩ : MethodName)) (z := (⟨"com/example/lean_lifecycle/leanlifecycle/ActivityManager", "isInFrontAsPosted", "()Z"⟩ : MethodName)) hown (mvT hZ (hw _ (List.mem_of_getElem? (i := 77) rfl))) (mvT hZ (hw _ (List.mem_of_getElem? (i := 78) rfl))) (notFace_of_selects (args := #[]) (mvT hZ (hw _ (List.mem_of_getElem? (i := 80) rfl)))) (mvT hZ (hw _ (List.mem_of_getElem? (i := 80) rfl))) (mvT hZ (hw _ (List.mem_of_getElem? (i := 79) rfl))) (by decide) (backOf (W := 0) (rm11 l Z a0 hw [] b17 (nar .boolean v2) v127 v85 T126.heap n0 Zz126 f126_1 f126_2 f126_3) hZ (hw _ (List.mem_of_getElem? (i := 81) rfl)) (hw _ (List.mem_of_getElem? (i := 3) rfl)) (by decide) (by decide)) q138a q138c (g := (mkF m 201 #[.val (.int x0), .val (.int x1), .val (.int x2), .val (.int x3), .val (.int v2), .val (.int v4), .val (.int v6), .val (.int v8), .val (.int v11), .val (.int v14), .val (.ref b17), .val (.int v131), .val (.int v134)] [(.ref b17)])) rfl (by rw [hml]; rfl) (Steps.refl _) (argsL := []) (rest := []) (lenOf pd_2 rfl) rfl (by show 2 * 0 + _ ≤ _; exact Nat.le_of_eq rfl) (hb hby at_201) (fun _ _ => ⟨rfl, rfl, (by decide : 4 + 0 ≤ _), (by decide : 25 + 0 ≤ _)⟩)
  dsimp only [Pt.U, Pt.locs, Pt.cells, Pt.slots] at X138 l138 y138 z138 st138 hQ138
  subst l138 y138 z138
  obtain ⟨r138, rfl, N138q, e138, P138⟩ := hQ138
  have N138 := Fr.app N126 N138q
  have pre139 : ∀ t, Steps p.tables e below (T138.setTop (mkF m 204 #[.val (.int x0), .val (.int x1), .val (.int x2), .val (.int x3), .val (.int v2), .val (.int v4), .val (.int v6), .val (.int v8), .val (.int v11), .val (.int v14), .val (.ref b17), .val (.int v131), .val (.int v134)] [(.int r138)])) t → Steps p.tables e below (s₁.setTop (entryFrame m #[(.int x0), (.int x1), (.int x2), (.int x3)] maxLocals)) t := fun t k => pre136 t (st138.trans k)
  have pre140 : ∀ t, Steps p.tables e below (T138.setTop (mkF m 206 #[.val (.int x0), .val (.int x1), .val (.int x2), .val (.int x3), .val (.int v2), .val (.int v4), .val (.int v6), .val (.int v8), .val (.int v11), .val (.int v14), .val (.ref b17), .val (.int v131), .val (.int v134)] [(.int v134), (.int r138)])) t → Steps p.tables e below (s₁.setTop (entryFrame m #[(.int x0), (.int x1), (.int x2), (.int x3)] maxLocals)) t := fun t k => pre139 t (by
    show Steps p.tables e below (T138.setTop (mkF m 204 #[.val (.int x0), .val (.int x1), .val (.int x2), .val (.int x3), .val (.int v2), .val (.int v4), .val (.int v6), .val (.int v8), .val (.int v11), .val (.int v14), .val (.ref b17), .val (.int v131), .val (.int v134)] [(.int r138)])) _
    refine XS.iload X138.here hx rfl (hb hby at_204) rfl ?_
    show Steps p.tables e below (T138.setTop (mkF m 206 #[.val (.int x0), .val (.int x1), .val (.int x2), .val (.int x3), .val (.int v2), .val (.int v4), .val (.int v6), .val (.int v8), .val (.int v11), .val (.int v14), .val (.ref b17), .val (.int v131), .val (.int v134)] [(.int v134), (.int r138)])) _
    exact k)
  obtain ⟨v151, hv151⟩ : ∃ z : Int32, z = (if r138 = v134 then (if F12 (nar .boolean v2) = v2 then (1 : Int32) else (0 : Int32)) else (0 : Int32)) := ⟨_, rfl⟩
  obtain ⟨T150, L150, X150, N150, Zz150, eh150, pre152⟩ : ∃ (T150 : State) (L150 : List Loc), Stand p l e room_1 s m #[(.int x0), (.int x1), (.int x2), (.int x3)] below meth c T150 L150 4 25 ∧ Fr n0 L150 ∧ n0 ≤ T150.heap.size ∧ (T150.heap = T126.heap) ∧ ∀ t, Steps p.tables e below (T150.setTop (mkF m 224 #[.val (.int x0), .val (.int x1), .val (.int x2), .val (.int x3), .val (.int v2), .val (.int v4), .val (.int v6), .val (.int v8), .val (.int v11), .val (.int v14), .val (.ref b17), .val (.int v131), .val (.int v134)] [(.int v151)])) t → Steps p.tables e below (s₁.setTop (entryFrame m #[(.int x0), (.int x1), (.int x2), (.int x3)] maxLocals)) t := by
    by_cases hc141 : r138 = v134
    · skip
      have pre142 : ∀ t, Steps p.tables e below (T138.setTop (mkF m 211 #[.val (.int x0), .val (.int x1), .val (.int x2), .val (.int x3), .val (.int v2), .val (.int v4), .val (.int v6), .val (.int v8), .val (.int v11), .val (.int v14), .val (.ref b17), .val (.int v131), .val (.int v134)] [(.ref b17)])) t → Steps p.tables e below (s₁.setTop (entryFrame m #[(.int x0), (.int x1), (.int x2), (.int x3)] maxLocals)) t := fun t k => pre140 t (by
        show Steps p.tables e below (T138.setTop (mkF m 206 #[.val (.int x0), .val (.int x1), .val (.int x2), .val (.int x3), .val (.int v2), .val (.int v4), .val (.int v6), .val (.int v8), .val (.int v11), .val (.int v14), .val (.ref b17), .val (.int v131), .val (.int v134)] [(.int v134), (.int r138)])) _
        refine XS.icmpNo X138.here hx rfl (hb hby at_206) rfl (teq hc141).2 ?_
        show Steps p.tables e below (T138.setTop (mkF m 209 #[.val (.int x0), .val (.int x1), .val (.int x2), .val (.int x3), .val (.int v2), .val (.int v4), .val (.int v6), .val (.int v8), .val (.int v11), .val (.int v14), .val (.ref b17), .val (.int v131), .val (.int v134)] [])) _
        refine XS.aload X138.here hx rfl (hb hby at_209) rfl rfl ?_
        show Steps p.tables e below (T138.setTop (mkF m 211 #[.val (.int x0), .val (.int x1), .val (.int x2), .val (.int x3), .val (.int v2), .val (.int v4), .val (.int v6), .val (.int v8), .val (.int v11), .val (.int v14), .val (.ref b17), .val (.int v131), .val (.int v134)] [(.ref b17)])) _
        exact k)
      obtain ⟨cq144, kq144, q144a, q144b, q144c⟩ := isOf hZ e138 f126_0
      obtain ⟨_, _, ⟨T144, L144, k144, n144⟩, -, X144, ⟨Lc144, hQ144, l144, y144, z144⟩, st144⟩ := X138.virtualBack hx (y := (⟨"com/example/lean_lifecycle/leanlifecycle/ActivityManager", "isInFront", "()Z"⟩ : MethodName)) (z := (⟨"com/example/lean_lifecycle/leanlifecycle/ActivityManager", "isInFront", "()Z"⟩ : MethodName)) hown (mvT hZ (hw _ (List.mem_of_getElem? (i := 82) rfl))) (mvT hZ (hw _ (List.mem_of_getElem? (i := 83) rfl))) (notFace_of_selects (args := #[]) (mvT hZ (hw _ (List.mem_of_getElem? (i := 85) rfl)))) (mvT hZ (hw _ (List.mem_of_getElem? (i := 85) rfl))) (mvT hZ (hw _ (List.mem_of_getElem? (i := 84) rfl))) (by decide) (backOf (W := 0) (rm12 l Z a0 hw [] b17 (nar .boolean v2) T126.heap n0 Zz126 f126_1) hZ (hw _ (List.mem_of_getElem? (i := 86) rfl)) (hw _ (List.mem_of_getElem? (i := 3) rfl)) (by decide) (by decide)) q144a q144c (g := (mkF m 211 #[.val (.int x0), .val (.int x1), .val (.int x2), .val (.int x3), .val (.int v2), .val (.int v4), .val (.int v6), .val (.int v8), .val (.int v11), .val (.int v14), .val (.ref b17), .val (.int v131), .val (.int v134)] [(.ref b17)])) rfl (by rw [hml]; rfl) (Steps.refl _) (argsL := []) (rest := []) (lenOf pd_2 rfl) rfl (by show 2 * 0 + _ ≤ _; exact Nat.le_of_eq rfl) (hb hby at_211) (fun _ _ => ⟨rfl, e138, (by decide : 4 + 0 ≤ _), (by decide : 25 + 0 ≤ _)⟩)
      dsimp only [Pt.U, Pt.locs, Pt.cells, Pt.slots] at X144 l144 y144 z144 st144 hQ144
      subst l144 y144 z144
      obtain ⟨r144, rfl, N144q, e144, P144⟩ := hQ144
      have N144 := Fr.app N138 N144q
      have pre145 : ∀ t, Steps p.tables e below (T144.setTop (mkF m 214 #[.val (.int x0), .val (.int x1), .val (.int x2), .val (.int x3), .val (.int v2), .val (.int v4), .val (.int v6), .val (.int v8), .val (.int v11), .val (.int v14), .val (.ref b17), .val (.int v131), .val (.int v134)] [(.int r144)])) t → Steps p.tables e below (s₁.setTop (entryFrame m #[(.int x0), (.int x1), (.int x2), (.int x3)] maxLocals)) t := fun t k => pre142 t (st144.trans k)
      obtain ⟨v147, hv147⟩ : ∃ z : Int32, z = (if r144 = v2 then (1 : Int32) else (0 : Int32)) := ⟨_, rfl⟩
      have pre148 : ∀ t, Steps p.tables e below (T144.setTop (mkF m 224 #[.val (.int x0), .val (.int x1), .val (.int x2), .val (.int x3), .val (.int v2), .val (.int v4), .val (.int v6), .val (.int v8), .val (.int v11), .val (.int v14), .val (.ref b17), .val (.int v131), .val (.int v134)] [(.int v147)])) t → Steps p.tables e below (s₁.setTop (entryFrame m #[(.int x0), (.int x1), (.int x2), (.int x3)] maxLocals)) t := fun t k => pre145 t (by
        show Steps p.tables e below (T144.setTop (mkF m 214 #[.val (.int x0), .val (.int x1), .val (.int x2), .val (.int x3), .val (.int v2), .val (.int v4), .val (.int v6), .val (.int v8), .val (.int v11), .val (.int v14), .val (.ref b17), .val (.int v131), .val (.int v134)] [(.int r144)])) _
        refine XS.iload X144.here hx rfl (hb hby at_214) rfl ?_
        show Steps p.tables e below (T144.setTop (mkF m 216 #[.val (.int x0), .val (.int x1), .val (.int x2), .val (.int x3), .val (.int v2), .val (.int v4), .val (.int v6), .val (.int v8), .val (.int v11), .val (.int v14), .val (.ref b17), .val (.int v131), .val (.int v134)] [(.int v2), (.int r144)])) _
        by_cases hc146 : r144 = v2
        · skip
          refine XS.icmpNo X144.here hx rfl (hb hby at_216) rfl (teq hc146).2 ?_
          show Steps p.tables e below (T144.setTop (mkF m 219 #[.val (.int x0), .val (.int x1), .val (.int x2), .val (.int x3), .val (.int v2), .val (.int v4), .val (.int v6), .val (.int v8), .val (.int v11), .val (.int v14), .val (.ref b17), .val (.int v131), .val (.int v134)] [])) _
          refine XS.iconst X144.here hx rfl (hb hby at_219) ?_
          show Steps p.tables e below (T144.setTop (mkF m 220 #[.val (.int x0), .val (.int x1), .val (.int x2), .val (.int x3), .val (.int v2), .val (.int v4), .val (.int v6), .val (.int v8), .val (.int v11), .val (.int v14), .val (.ref b17), .val (.int v131), .val (.int v134)] [(.int (1 : Int32))])) _
          refine XS.goto X144.here hx rfl (pc0 := 220) (pc' := 224) rfl (hb hby at_220) (by decide) (by decide) ?_
          show Steps p.tables e below (T144.setTop (mkF m 224 #[.val (.int x0), .val (.int x1), .val (.int x2), .val (.int x3), .val (.int v2), .val (.int v4), .val (.int v6), .val (.int v8), .val (.int v11), .val (.int v14), .val (.ref b17), .val (.int v131), .val (.int v134)] [(.int (1 : Int32))])) _
          rw [show v147 = (1 : Int32) from by rw [hv147, if_pos hc146]] at k
          exact k
        · skip
          refine XS.icmpYes X144.here hx rfl (pc0 := 216) (pc' := 223) rfl (hb hby at_216) rfl (feq hc146).2 (by decide) (by decide) ?_
          show Steps p.tables e below (T144.setTop (mkF m 223 #[.val (.int x0), .val (.int x1), .val (.int x2), .val (.int x3), .val (.int v2), .val (.int v4), .val (.int v6), .val (.int v8), .val (.int v11), .val (.int v14), .val (.ref b17), .val (.int v131), .val (.int v134)] [])) _
          refine XS.iconst X144.here hx rfl (hb hby at_223) ?_
          show Steps p.tables e below (T144.setTop (mkF m 224 #[.val (.int x0), .val (.int x1), .val (.int x2), .val (.int x3), .val (.int v2), .val (.int v4), .val (.int v6), .val (.int v8), .val (.int v11), .val (.int v14), .val (.ref b17), .val (.int v131), .val (.int v134)] [(.int (0 : Int32))])) _
          rw [show v147 = (0 : Int32) from by rw [hv147, if_neg hc146]] at k
          exact k)
      rw [if_pos hc141] at hv151
      subst hv147
      subst P144
      subst hv151
      exact ⟨_, _, X144, N144, by rw [e144]; exact Zz126, e144, pre148⟩
    · skip
      have pre149 : ∀ t, Steps p.tables e below (T138.setTop (mkF m 224 #[.val (.int x0), .val (.int x1), .val (.int x2), .val (.int x3), .val (.int v2), .val (.int v4), .val (.int v6), .val (.int v8), .val (.int v11), .val (.int v14), .val (.ref b17), .val (.int v131), .val (.int v134)] [(.int (0 : Int32))])) t → Steps p.tables e below (s₁.setTop (entryFrame m #[(.int x0), (.int x1), (.int x2), (.int x3)] maxLocals)) t := fun t k => pre140 t (by
        show Steps p.tables e below (T138.setTop (mkF m 206 #[.val (.int x0), .val (.int x1), .val (.int x2), .val (.int x3), .val (.int v2), .val (.int v4), .val (.int v6), .val (.int v8), .val (.int v11), .val (.int v14), .val (.ref b17), .val (.int v131), .val (.int v134)] [(.int v134), (.int r138)])) _
        refine XS.icmpYes X138.here hx rfl (pc0 := 206) (pc' := 223) rfl (hb hby at_206) rfl (feq hc141).2 (by decide) (by decide) ?_
        show Steps p.tables e below (T138.setTop (mkF m 223 #[.val (.int x0), .val (.int x1), .val (.int x2), .val (.int x3), .val (.int v2), .val (.int v4), .val (.int v6), .val (.int v8), .val (.int v11), .val (.int v14), .val (.ref b17), .val (.int v131), .val (.int v134)] [])) _
        refine XS.iconst X138.here hx rfl (hb hby at_223) ?_
        show Steps p.tables e below (T138.setTop (mkF m 224 #[.val (.int x0), .val (.int x1), .val (.int x2), .val (.int x3), .val (.int v2), .val (.int v4), .val (.int v6), .val (.int v8), .val (.int v11), .val (.int v14), .val (.ref b17), .val (.int v131), .val (.int v134)] [(.int (0 : Int32))])) _
        exact k)
      rw [if_neg hc141] at hv151
      subst hv151
      exact ⟨_, _, X138, N138, by rw [e138]; exact Zz126, e138, pre149⟩
  obtain rfl : v151 = (1 : Int32) := by exact own_fin x0 x1 x2 x3 v2 v4 v6 v8 v11 v14 v54 v55 v69 v70 v84 v85 v99 v113 v127 v131 v134 r138 v151 hv2 hv4 hv6 hv8 hv11 hv14 hv54 hv55 hv69 hv70 hv84 hv85 hv99 hv113 hv127 hv131 hv134 P138 hv151
  obtain ⟨fs, hr, hrun, hended, hW, hsame⟩ := X150.leave (v := some (.int (1 : Int32))) (fun h => by rw [Bd.returns] at h; cases h)
  refine ⟨_, _, pre152 _ ?_, hrun, hended, _, _, rfl, ?_, ⟨_, rfl⟩, hW, hsame.mono (by decide) (by decide)⟩
  · show Steps p.tables e below (T150.setTop (mkF m 224 #[.val (.int x0), .val (.int x1), .val (.int x2), .val (.int x3), .val (.int v2), .val (.int v4), .val (.int v6), .val (.int v8), .val (.int v11), .val (.int v14), .val (.ref b17), .val (.int v131), .val (.int v134)] [(.int (1 : Int32))])) _
    exact retN X150 hx (t := .boolean) Bd.returns (by simp) (hb hby at_224) hr
  · show Q0 Z x0 x1 x2 x3 w_DEFAULTCAPACITY_EMPTY_ELEMENTDATA h0 n0 _ T150.heap _
    rw [eh150]
    exact ⟨rfl, N150⟩
set_option maxRecDepth 65536 in
set_option maxHeartbeats 40000000 in
theorem comes_1 {Post : Tables → Env → Array Value → State → Outcome → State → Prop} (hpost : ∀ tb e args s v u, (limb_1_1.after args s (.returned v) u = true ∧ limb_1_2.after args s (.returned v) u = true ∧ True) → FrameEnd s (.returned v) u (Jvm.fieldLocs frame_1_writes args s ++ Jvm.arrayLocs frame_1_arrays args s ++ Jvm.staticLocs frame_1_statics s) 16 128 → Post tb e args s (.returned v) u) :
    ArmFor flags0 classFile x code maxLocals ret World_1 tables_1 room_1 Calls_1 rest_1 Pre_1 Post := by
  intro l hfl _ _ p e ha hc hk s m args below hf hA hF happ hP
  obtain ⟨hcalls, hrest, hpre⟩ := hP
  obtain ⟨-, -, -, hnamed, -, -, -, hat⟩ := (Spec.applies_iff hf).mp happ
  obtain ⟨hg, hn⟩ := and_e (Cond.before_iff.mp (show (Jvm.Cond.and given_1 narrow_1).before args s = true from hpre))
  obtain ⟨hcount, hg0⟩ := and_e hg
  obtain ⟨ha0, hg1⟩ := and_e hg0
  obtain ⟨ha1, hg2⟩ := and_e hg1
  obtain ⟨ha2, hg3⟩ := and_e hg2
  have ha3 := hg3
  obtain ⟨w0, w1, w2, w3, rfl⟩ : ∃ w0 w1 w2 w3 : Value, args = #[w0, w1, w2, w3] := by
    have hs : args.size = 4 := by simpa [Cond.value, given_1] using hcount
    obtain ⟨L⟩ := args
    match L, hs with
    | [w0, w1, w2, w3], _ => exact ⟨w0, w1, w2, w3, rfl⟩
  have hw := fun d (hd : d ∈ tables_1) => atoms_spec (ws := Jvm.Cond.code x code maxLocals ret :: tables_1) hat d (List.mem_cons_of_mem _ hd)
  obtain ⟨i0, ei0⟩ := is_v ha0
  obtain rfl : w0 = (.int i0) := Option.some.inj ei0
  obtain ⟨i1, ei1⟩ := is_v ha1
  obtain rfl : w1 = (.int i1) := Option.some.inj ei1
  obtain ⟨i2, ei2⟩ := is_v ha2
  obtain rfl : w2 = (.int i2) := Option.some.inj ei2
  obtain ⟨i3, ei3⟩ := is_v ha3
  obtain rfl : w3 = (.int i3) := Option.some.inj ei3
  obtain ⟨hsets, hown0⟩ := atoms_of _ (rest_1_c_eq ▸ (show rest_1_c.before _ s = true from hrest))
  obtain ⟨ws0, _, _, _, es0, -⟩ := Cond.exactly_spec (hsets _ (List.mem_of_getElem? (i := 7) rfl))
  have S0 : Sta s s.heap "java/util/ArrayList" "DEFAULTCAPACITY_EMPTY_ELEMENTDATA" "[Ljava/lang/Object;" (.ref ws0) := Sta.start es0 (Or.inr ⟨hw _ (List.mem_of_getElem? (i := 12) rfl), hsets _ (List.mem_of_getElem? (i := 2) rfl)⟩)
  obtain ⟨n, o, h1, h2, h3, _, L, rfl, ⟨rfl, N⟩, hq⟩ := rm0 l s _ hw tables_1 i0 i1 i2 i3 ws0 s.heap s.heap.size (Nat.le_refl _) S0 p e ha hc hk s m _ below hf ((Spec.applies_iff_loose hf).mp happ).1 ⟨rfl, State.Warmed39.refl s, rfl⟩ trivial
  refine ⟨n, _, h1, h2, h3, hpost _ _ _ _ _ _ ⟨Cond.after_iff.mpr rfl, Cond.after_iff.mpr (eq_i res_at (Term.int_eval (1)) rfl), trivial⟩ ⟨hq.1, hq.2.1, (hq.2.2.sift fun y hy => Or.inr (N y hy)).mono (by decide) (by decide)⟩⟩
theorem main_1_1 : Claimed_1_1 := comes_1 fun _ _ _ _ _ _ h hF => ⟨h.1, hF⟩
theorem main_1_2 : Claimed_1_2 := comes_1 fun _ _ _ _ _ _ h hF => ⟨h.2.1, hF⟩
end Jvm.Pilot.@@N@@
namespace Jvm.Pilot.@@N@@
open Jvm Jvm.ClassFile Sem Op Lib Jvm.Free Jvm.Stand Jvm.Pilot.@@N@@.Jvm.D
/-! MADE BY PROGRAM (witnessworld.py) out of the Statement's table words and the real class files: 21 classes; the members and pool entries that the words name. The judged class is class 1, her method 1. -/
namespace start1
open Jvm.ClassFile
def u (s : String) : CpInfo := .utf8 (stringToUtf16 s)
/-- a pool by its gaps: so many unusable entries, then the entry; so many at the end -/
def gap : Nat → List CpInfo → List CpInfo
  | 0, r => r
  | n + 1, r => .unusable :: gap n r
def poolList (es : List (Nat × CpInfo)) (last : Nat) : List CpInfo := es.foldr (fun e r => gap e.1 (e.2 :: r)) (gap last [])
def pool (es : List (Nat × CpInfo)) (last : Nat) : Array CpInfo := ⟨poolList es last⟩
def fileOf (pool : Array CpInfo) (this : Nat) (attrs : Array Attribute := #[]) (ms : Array MethodInfo := #[]) (fl : Nat := 33) (sup : Nat := 0) (ifs : Array Nat := #[]) (fds : Array FieldInfo := #[]) : ClassFile where
  minorVersion := 0
  majorVersion := 65
  constantPool := pool
  accessFlags := fl
  thisClass := this
  superClass := sup
  interfaces := ifs
  fields := fds
  methods := ms
  attributes := attrs
def plain (name : String) (sup : Option ClassId) : Class where
  name := name
  kind := .ordinary
  loader := none
  accessFlags := 33
  super := sup
  interfaces := #[]
  cf := none
  fields := #[]
  methods := #[]
  instanceTypes := #[]
  staticTypes := #[]
  resolved := #[]
  callSites := []
  init := .initialized
  statics := none
  mirror := none

def pool0 : Array CpInfo := pool [(5, u "<init>"), (0, u "()V"), (1, .class_ 10), (1, u "java/lang/Object")] 113

def k0c0 : Code := { maxStack := 0, maxLocals := 1, code := object_method_1_code, exceptionTable := #[], attributes := #[] }
def k0m0 : Method := { name := "<init>", desc := "()V", sig := { parameters := [], returnType := none }, accessFlags := 1, code := some k0c0 }
/-- java/lang/Object -/
def k0 : Class := { plain "java/lang/Object" none with
  accessFlags := 33
  interfaces := #[]
  cf := some (fileOf pool0 8 #[] #[{ accessFlags := 1, nameIndex := 5, descriptorIndex := 6, attributes := #[] }] 33 0 #[] #[])
  fields := #[]
  methods := #[k0m0]
  instanceTypes := #[]
  staticTypes := #[]
  resolved := Array.replicate 124 none
  statics := none }

def pool1 : Array CpInfo := pool [(2, .class_ 4), (0, .nameAndType 5 6), (0, u "java/lang/Object"), (0, u "<init>"), (0, u "()V"), (0, .integer 2147483647), (0, .class_ 9), (0, u "com/example/lean_lifecycle/leanlifecycle/ActivityManager"), (0, .methodref 8 3), (0, .methodref 8 12), (0, .nameAndType 13 14), (0, u "setInFront"), (0, u "(Z)V"), (0, .methodref 8 16), (0, .nameAndType 17 14), (0, u "postFrontMove"), (0, .methodref 8 19), (0, .nameAndType 20 6), (0, u "endFrontMove"), (0, .methodref 8 22), (0, .nameAndType 23 24), (0, u "isInFrontAsPosted"), (0, u "()Z"), (0, .methodref 8 26), (0, .nameAndType 27 24), (0, u "isInFront"), (0, .class_ 29), (0, u "com/example/lean_lifecycle/leanlifecycle/ActivityManagerPostFrontMovePinLaw"), (2, u "law"), (0, u "(IIII)Z")] 3

def k1m0 : Method := { name := "<init>", desc := "()V", sig := { parameters := [], returnType := none }, accessFlags := 1, code := none }
def k1c1 : Code := { maxStack := 3, maxLocals := 13, code := code, exceptionTable := #[], attributes := #[] }
def k1m1 : Method := { name := "law", desc := "(IIII)Z", sig := { parameters := [.int, .int, .int, .int], returnType := some .boolean }, accessFlags := 9, code := some k1c1 }
/-- com/example/lean_lifecycle/leanlifecycle/ActivityManagerPostFrontMovePinLaw -/
def k1 : Class := { plain "com/example/lean_lifecycle/leanlifecycle/ActivityManagerPostFrontMovePinLaw" (some 0) with
  accessFlags := 49
  interfaces := #[]
  cf := some (fileOf pool1 28 #[] #[{ accessFlags := 1, nameIndex := 5, descriptorIndex := 6, attributes := #[] }, { accessFlags := 9, nameIndex := 32, descriptorIndex := 33, attributes := #[] }] 49 2 #[] #[])
  fields := #[]
  methods := #[k1m0, k1m1]
  instanceTypes := #[]
  staticTypes := #[]
  resolved := Array.replicate 37 none
  statics := none }

def pool2 : Array CpInfo := pool [(1, .methodref 2 3), (0, .class_ 4), (0, .nameAndType 5 6), (0, u "java/lang/Object"), (0, u "<init>"), (0, u "()V"), (0, .class_ 8), (0, u "java/util/ArrayList"), (0, .methodref 7 3), (0, .fieldref 11 12), (0, .class_ 13), (0, .nameAndType 14 15), (0, u "com/example/lean_lifecycle/leanlifecycle/ActivityManager"), (0, u "task"), (0, u "Ljava/util/List;"), (0, .class_ 17), (0, u "java/util/HashMap"), (0, .methodref 16 3), (0, .fieldref 11 20), (0, .nameAndType 21 22), (0, u "entries"), (0, u "Ljava/util/Map;"), (0, .fieldref 11 24), (0, .nameAndType 25 22), (0, u "toFinish"), (0, .fieldref 11 27), (0, .nameAndType 28 29), (0, u "inFront"), (0, u "Z"), (18, u "()Z"), (216, .fieldref 11 266), (0, .nameAndType 267 268), (0, u "frontMovesPosted"), (0, u "I"), (0, .fieldref 11 270), (0, .nameAndType 271 29), (0, u "inFrontAsPosted"), (36, u "isInFront"), (0, u "setInFront"), (0, u "(Z)V"), (0, u "isInFrontAsPosted"), (0, u "postFrontMove"), (0, u "endFrontMove")] 39

def k2c0 : Code := { maxStack := 3, maxLocals := 1, code := prog_4_method_1_code, exceptionTable := #[], attributes := #[] }
def k2m0 : Method := { name := "<init>", desc := "()V", sig := { parameters := [], returnType := none }, accessFlags := 0, code := some k2c0 }
def k2c1 : Code := { maxStack := 1, maxLocals := 1, code := prog_4_method_35_code, exceptionTable := #[], attributes := #[] }
def k2m1 : Method := { name := "isInFront", desc := "()Z", sig := { parameters := [], returnType := some .boolean }, accessFlags := 0, code := some k2c1 }
def k2c2 : Code := { maxStack := 2, maxLocals := 2, code := prog_4_method_36_code, exceptionTable := #[], attributes := #[] }
def k2m2 : Method := { name := "setInFront", desc := "(Z)V", sig := { parameters := [.boolean], returnType := none }, accessFlags := 0, code := some k2c2 }
def k2c3 : Code := { maxStack := 1, maxLocals := 1, code := prog_4_method_37_code, exceptionTable := #[], attributes := #[] }
def k2m3 : Method := { name := "isInFrontAsPosted", desc := "()Z", sig := { parameters := [], returnType := some .boolean }, accessFlags := 0, code := some k2c3 }
def k2c4 : Code := { maxStack := 3, maxLocals := 2, code := prog_4_method_38_code, exceptionTable := #[], attributes := #[] }
def k2m4 : Method := { name := "postFrontMove", desc := "(Z)V", sig := { parameters := [.boolean], returnType := none }, accessFlags := 0, code := some k2c4 }
def k2c5 : Code := { maxStack := 3, maxLocals := 1, code := prog_4_method_39_code, exceptionTable := #[], attributes := #[] }
def k2m5 : Method := { name := "endFrontMove", desc := "()V", sig := { parameters := [], returnType := none }, accessFlags := 0, code := some k2c5 }
/-- com/example/lean_lifecycle/leanlifecycle/ActivityManager -/
def k2 : Class := { plain "com/example/lean_lifecycle/leanlifecycle/ActivityManager" (some 0) with
  accessFlags := 33
  interfaces := #[]
  cf := some (fileOf pool2 11 #[] #[{ accessFlags := 0, nameIndex := 5, descriptorIndex := 6, attributes := #[] }, { accessFlags := 0, nameIndex := 308, descriptorIndex := 48, attributes := #[] }, { accessFlags := 0, nameIndex := 309, descriptorIndex := 310, attributes := #[] }, { accessFlags := 0, nameIndex := 311, descriptorIndex := 48, attributes := #[] }, { accessFlags := 0, nameIndex := 312, descriptorIndex := 310, attributes := #[] }, { accessFlags := 0, nameIndex := 313, descriptorIndex := 6, attributes := #[] }] 33 2 #[] #[{ accessFlags := 18, nameIndex := 14, descriptorIndex := 15, attributes := #[] }, { accessFlags := 18, nameIndex := 21, descriptorIndex := 22, attributes := #[] }, { accessFlags := 18, nameIndex := 25, descriptorIndex := 22, attributes := #[] }, { accessFlags := 2, nameIndex := 28, descriptorIndex := 29, attributes := #[] }, { accessFlags := 2, nameIndex := 267, descriptorIndex := 268, attributes := #[] }, { accessFlags := 2, nameIndex := 271, descriptorIndex := 29, attributes := #[] }])
  fields := #[{ name := "task", type := (.object "java/util/List"), accessFlags := 18, slot := 0, constantValue := 0 }, { name := "entries", type := (.object "java/util/Map"), accessFlags := 18, slot := 1, constantValue := 0 }, { name := "toFinish", type := (.object "java/util/Map"), accessFlags := 18, slot := 2, constantValue := 0 }, { name := "inFront", type := .boolean, accessFlags := 2, slot := 3, constantValue := 0 }, { name := "frontMovesPosted", type := .int, accessFlags := 2, slot := 4, constantValue := 0 }, { name := "inFrontAsPosted", type := .boolean, accessFlags := 2, slot := 5, constantValue := 0 }]
  methods := #[k2m0, k2m1, k2m2, k2m3, k2m4, k2m5]
  instanceTypes := #[(.object "java/util/List"), (.object "java/util/Map"), (.object "java/util/Map"), .boolean, .int, .boolean]
  staticTypes := #[]
  resolved := Array.replicate 353 none
  statics := none }

def pool3 : Array CpInfo := pool [(8, .class_ 10), (1, u "java/lang/Iterable"), (24, .class_ 36), (0, u "java/lang/Object")] 25

/-- java/lang/Iterable -/
def k3 : Class := { plain "java/lang/Iterable" (some 0) with
  accessFlags := 1537
  interfaces := #[]
  cf := some (fileOf pool3 8 #[] #[] 1537 35 #[] #[])
  fields := #[]
  methods := #[]
  instanceTypes := #[]
  staticTypes := #[]
  resolved := Array.replicate 62 none
  statics := none }

def pool4 : Array CpInfo := pool [(10, .class_ 12), (1, u "java/util/Collection"), (47, .class_ 61), (0, u "java/lang/Object"), (0, .class_ 63), (0, u "java/lang/Iterable")] 51

/-- java/util/Collection -/
def k4 : Class := { plain "java/util/Collection" (some 0) with
  accessFlags := 1537
  interfaces := #[3]
  cf := some (fileOf pool4 10 #[] #[] 1537 60 #[62] #[])
  fields := #[]
  methods := #[]
  instanceTypes := #[]
  staticTypes := #[]
  resolved := Array.replicate 115 none
  statics := none }

def pool5 : Array CpInfo := pool [(1, .methodref 2 3), (0, .class_ 4), (0, .nameAndType 5 6), (0, u "java/lang/Object"), (0, u "<init>"), (0, u "()V"), (1, .class_ 10), (1, u "java/util/AbstractCollection"), (66, .class_ 78), (0, u "java/util/Collection")] 81

def k5c0 : Code := { maxStack := 1, maxLocals := 1, code := jdk_22_method_1_code, exceptionTable := #[], attributes := #[] }
def k5m0 : Method := { name := "<init>", desc := "()V", sig := { parameters := [], returnType := none }, accessFlags := 4, code := some k5c0 }
/-- java/util/AbstractCollection -/
def k5 : Class := { plain "java/util/AbstractCollection" (some 0) with
  accessFlags := 1057
  interfaces := #[4]
  cf := some (fileOf pool5 8 #[] #[{ accessFlags := 4, nameIndex := 5, descriptorIndex := 6, attributes := #[] }] 1057 2 #[77] #[])
  fields := #[]
  methods := #[k5m0]
  instanceTypes := #[]
  staticTypes := #[]
  resolved := Array.replicate 160 none
  statics := none }

def pool6 : Array CpInfo := pool [(8, .class_ 10), (1, u "java/util/SequencedCollection"), (15, .class_ 27), (0, u "java/lang/Object"), (0, .class_ 29), (0, u "java/util/Collection")] 27

/-- java/util/SequencedCollection -/
def k6 : Class := { plain "java/util/SequencedCollection" (some 0) with
  accessFlags := 1537
  interfaces := #[4]
  cf := some (fileOf pool6 8 #[] #[] 1537 26 #[28] #[])
  fields := #[]
  methods := #[]
  instanceTypes := #[]
  staticTypes := #[]
  resolved := Array.replicate 57 none
  statics := none }

def pool7 : Array CpInfo := pool [(8, .class_ 10), (1, u "java/util/List"), (92, .class_ 104), (0, u "java/lang/Object"), (15, .class_ 121), (0, u "java/util/SequencedCollection")] 129

/-- java/util/List -/
def k7 : Class := { plain "java/util/List" (some 0) with
  accessFlags := 1537
  interfaces := #[6]
  cf := some (fileOf pool7 8 #[] #[] 1537 103 #[120] #[])
  fields := #[]
  methods := #[]
  instanceTypes := #[]
  staticTypes := #[]
  resolved := Array.replicate 251 none
  statics := none }

def pool8 : Array CpInfo := pool [(1, .methodref 2 3), (0, .class_ 4), (0, .nameAndType 5 6), (0, u "java/util/AbstractCollection"), (0, u "<init>"), (0, u "()V"), (0, .fieldref 8 9), (0, .class_ 10), (0, .nameAndType 11 12), (0, u "java/util/AbstractList"), (0, u "modCount"), (0, u "I"), (64, .class_ 78), (0, u "java/util/AbstractList$Itr"), (3, .class_ 83), (0, u "java/util/AbstractList$ListItr"), (9, .class_ 94), (0, u "java/util/AbstractList$RandomAccessSubList"), (3, .class_ 99), (0, u "java/util/AbstractList$SubList"), (33, .class_ 134), (0, u "java/util/List"), (73, .class_ 209), (0, u "java/util/AbstractList$SubList$1"), (0, .class_ 211), (0, u "java/util/AbstractList$RandomAccessSpliterator")] 6

def k8c0 : Code := { maxStack := 2, maxLocals := 1, code := jdk_39_method_1_code, exceptionTable := #[], attributes := #[] }
def k8m0 : Method := { name := "<init>", desc := "()V", sig := { parameters := [], returnType := none }, accessFlags := 4, code := some k8c0 }
/-- java/util/AbstractList -/
def k8 : Class := { plain "java/util/AbstractList" (some 5) with
  accessFlags := 1057
  interfaces := #[7]
  cf := some (fileOf pool8 8 #[.nestMembers #[93, 98, 208, 210, 82, 77]] #[{ accessFlags := 4, nameIndex := 5, descriptorIndex := 6, attributes := #[] }] 1057 2 #[133] #[{ accessFlags := 132, nameIndex := 11, descriptorIndex := 12, attributes := #[] }])
  fields := #[{ name := "modCount", type := .int, accessFlags := 132, slot := 0, constantValue := 0 }]
  methods := #[k8m0]
  instanceTypes := #[.int]
  staticTypes := #[]
  resolved := Array.replicate 218 none
  statics := none }

def pool9 : Array CpInfo := pool [(1, .class_ 2), (0, u "java/util/RandomAccess"), (0, .class_ 4), (0, u "java/lang/Object")] 2

/-- java/util/RandomAccess -/
def k9 : Class := { plain "java/util/RandomAccess" (some 0) with
  accessFlags := 1537
  interfaces := #[]
  cf := some (fileOf pool9 1 #[] #[] 1537 3 #[] #[])
  fields := #[]
  methods := #[]
  instanceTypes := #[]
  staticTypes := #[]
  resolved := Array.replicate 7 none
  statics := none }

def pool10 : Array CpInfo := pool [(1, .class_ 2), (0, u "java/lang/Cloneable"), (0, .class_ 4), (0, u "java/lang/Object")] 2

/-- java/lang/Cloneable -/
def k10 : Class := { plain "java/lang/Cloneable" (some 0) with
  accessFlags := 1537
  interfaces := #[]
  cf := some (fileOf pool10 1 #[] #[] 1537 3 #[] #[])
  fields := #[]
  methods := #[]
  instanceTypes := #[]
  staticTypes := #[]
  resolved := Array.replicate 7 none
  statics := none }

def pool11 : Array CpInfo := pool [(1, .class_ 2), (0, u "java/io/Serializable"), (0, .class_ 4), (0, u "java/lang/Object")] 2

/-- java/io/Serializable -/
def k11 : Class := { plain "java/io/Serializable" (some 0) with
  accessFlags := 1537
  interfaces := #[]
  cf := some (fileOf pool11 1 #[] #[] 1537 3 #[] #[])
  fields := #[]
  methods := #[]
  instanceTypes := #[]
  staticTypes := #[]
  resolved := Array.replicate 7 none
  statics := none }

def pool12 : Array CpInfo := pool [(1, .methodref 2 3), (0, .class_ 4), (0, .nameAndType 5 6), (0, u "java/util/AbstractList"), (0, u "<init>"), (0, u "()V"), (2, .fieldref 10 11), (0, .class_ 12), (0, .nameAndType 13 14), (0, u "java/util/ArrayList"), (0, u "elementData"), (0, u "[Ljava/lang/Object;"), (2, u "EMPTY_ELEMENTDATA"), (21, .fieldref 10 40), (0, .nameAndType 41 14), (0, u "DEFAULTCAPACITY_EMPTY_ELEMENTDATA"), (8, u "size"), (0, u "I"), (96, .class_ 149), (0, u "java/util/List"), (112, .class_ 263), (0, u "java/util/ArrayList$ListItr"), (3, .class_ 268), (0, u "java/util/ArrayList$Itr"), (7, .class_ 277), (0, u "java/util/ArrayList$SubList"), (12, .class_ 291), (0, u "java/util/ArrayList$ArrayListSpliterator"), (37, .class_ 330), (0, u "java/util/RandomAccess"), (0, .class_ 332), (0, u "java/lang/Cloneable"), (0, .class_ 334), (0, u "java/io/Serializable"), (0, u "serialVersionUID"), (0, u "J"), (3, u "DEFAULT_CAPACITY"), (159, .class_ 501), (0, u "java/util/ArrayList$SubList$2"), (0, .class_ 503), (0, u "java/util/ArrayList$SubList$1")] 5

def k12c0 : Code := { maxStack := 2, maxLocals := 1, code := jdk_38_method_2_code, exceptionTable := #[], attributes := #[] }
def k12m0 : Method := { name := "<init>", desc := "()V", sig := { parameters := [], returnType := none }, accessFlags := 1, code := some k12c0 }
/-- java/util/ArrayList -/
def k12 : Class := { plain "java/util/ArrayList" (some 8) with
  accessFlags := 33
  interfaces := #[7, 9, 10, 11]
  cf := some (fileOf pool12 10 #[.nestMembers #[290, 276, 500, 502, 262, 267]] #[{ accessFlags := 1, nameIndex := 5, descriptorIndex := 6, attributes := #[] }] 33 2 #[148, 329, 331, 333] #[{ accessFlags := 26, nameIndex := 335, descriptorIndex := 336, attributes := #[] }, { accessFlags := 26, nameIndex := 340, descriptorIndex := 51, attributes := #[] }, { accessFlags := 26, nameIndex := 17, descriptorIndex := 14, attributes := #[] }, { accessFlags := 26, nameIndex := 41, descriptorIndex := 14, attributes := #[] }, { accessFlags := 128, nameIndex := 13, descriptorIndex := 14, attributes := #[] }, { accessFlags := 2, nameIndex := 50, descriptorIndex := 51, attributes := #[] }])
  fields := #[{ name := "serialVersionUID", type := .long, accessFlags := 26, slot := 0, constantValue := 0 }, { name := "DEFAULT_CAPACITY", type := .int, accessFlags := 26, slot := 1, constantValue := 0 }, { name := "EMPTY_ELEMENTDATA", type := (.array (.object "java/lang/Object")), accessFlags := 26, slot := 2, constantValue := 0 }, { name := "DEFAULTCAPACITY_EMPTY_ELEMENTDATA", type := (.array (.object "java/lang/Object")), accessFlags := 26, slot := 3, constantValue := 0 }, { name := "elementData", type := (.array (.object "java/lang/Object")), accessFlags := 128, slot := 1, constantValue := 0 }, { name := "size", type := .int, accessFlags := 2, slot := 2, constantValue := 0 }]
  methods := #[k12m0]
  instanceTypes := #[.int, (.array (.object "java/lang/Object")), .int]
  staticTypes := #[.long, .int, (.array (.object "java/lang/Object")), (.array (.object "java/lang/Object"))]
  resolved := Array.replicate 509 none
  statics := some 0 }

def pool13 : Array CpInfo := pool [(2, .class_ 4), (1, u "java/util/Map"), (31, .class_ 37), (0, u "java/util/Map$Entry"), (55, .class_ 94), (0, u "java/lang/Object")] 168

/-- java/util/Map -/
def k13 : Class := { plain "java/util/Map" (some 0) with
  accessFlags := 1537
  interfaces := #[]
  cf := some (fileOf pool13 2 #[.nestMembers #[36]] #[] 1537 93 #[] #[])
  fields := #[]
  methods := #[]
  instanceTypes := #[]
  staticTypes := #[]
  resolved := Array.replicate 263 none
  statics := none }

def pool14 : Array CpInfo := pool [(1, .methodref 2 3), (0, .class_ 4), (0, .nameAndType 5 6), (0, u "java/lang/Object"), (0, u "<init>"), (0, u "()V"), (1, .class_ 10), (1, u "java/util/AbstractMap"), (42, .class_ 54), (0, u "java/util/Map"), (9, u "keySet"), (0, u "Ljava/util/Set;"), (0, .class_ 67), (0, u "java/util/AbstractMap$1"), (5, u "values"), (0, u "Ljava/util/Collection;"), (0, .class_ 76), (0, u "java/util/AbstractMap$2"), (104, .class_ 182), (0, u "java/util/AbstractMap$ViewCollection"), (0, .class_ 184), (0, u "java/util/AbstractMap$SimpleImmutableEntry"), (0, .class_ 186), (0, u "java/util/AbstractMap$SimpleEntry"), (0, .class_ 188), (0, u "java/util/AbstractMap$2$1"), (0, .class_ 190), (0, u "java/util/AbstractMap$1$1")] 5

def k14c0 : Code := { maxStack := 1, maxLocals := 1, code := jdk_71_method_1_code, exceptionTable := #[], attributes := #[] }
def k14m0 : Method := { name := "<init>", desc := "()V", sig := { parameters := [], returnType := none }, accessFlags := 4, code := some k14c0 }
/-- java/util/AbstractMap -/
def k14 : Class := { plain "java/util/AbstractMap" (some 0) with
  accessFlags := 1057
  interfaces := #[13]
  cf := some (fileOf pool14 8 #[.nestMembers #[181, 183, 185, 75, 187, 66, 189]] #[{ accessFlags := 4, nameIndex := 5, descriptorIndex := 6, attributes := #[] }] 1057 2 #[53] #[{ accessFlags := 128, nameIndex := 64, descriptorIndex := 65, attributes := #[] }, { accessFlags := 128, nameIndex := 73, descriptorIndex := 74, attributes := #[] }])
  fields := #[{ name := "keySet", type := (.object "java/util/Set"), accessFlags := 128, slot := 0, constantValue := 0 }, { name := "values", type := (.object "java/util/Collection"), accessFlags := 128, slot := 1, constantValue := 0 }]
  methods := #[k14m0]
  instanceTypes := #[(.object "java/util/Set"), (.object "java/util/Collection")]
  staticTypes := #[]
  resolved := Array.replicate 196 none
  statics := none }

def pool15 : Array CpInfo := pool [(40, .class_ 41), (0, u "java/util/HashMap"), (1, .methodref 44 45), (0, .class_ 46), (0, .nameAndType 47 48), (0, u "java/util/AbstractMap"), (0, u "<init>"), (0, u "()V"), (32, .fieldref 40 82), (0, .nameAndType 83 84), (0, u "loadFactor"), (0, u "F"), (5, u "threshold"), (0, u "I"), (0, .float 1061158912), (8, .class_ 103), (1, u "java/util/Map"), (0, u "size"), (2, u "table"), (0, u "[Ljava/util/HashMap$Node;"), (14, u "entrySet"), (39, .class_ 165), (1, u "java/util/HashMap$Node"), (14, .class_ 181), (0, u "java/util/HashMap$TreeNode"), (22, u "modCount"), (37, u "Ljava/util/Set;"), (0, .class_ 244), (0, u "java/util/HashMap$KeySet"), (18, .class_ 264), (0, u "java/util/HashMap$Values"), (3, .class_ 269), (0, u "java/util/HashMap$EntrySet"), (76, .class_ 348), (1, u "java/util/HashMap$UnsafeHolder"), (43, .class_ 393), (0, u "java/lang/Cloneable"), (0, .class_ 395), (0, u "java/io/Serializable"), (0, u "serialVersionUID"), (0, u "J"), (3, u "DEFAULT_INITIAL_CAPACITY"), (1, u "MAXIMUM_CAPACITY"), (0, u "DEFAULT_LOAD_FACTOR"), (0, u "TREEIFY_THRESHOLD"), (1, u "UNTREEIFY_THRESHOLD"), (1, u "MIN_TREEIFY_CAPACITY"), (186, .class_ 597), (0, u "java/util/HashMap$EntrySpliterator"), (0, .class_ 599), (0, u "java/util/HashMap$ValueSpliterator"), (0, .class_ 601), (0, u "java/util/HashMap$KeySpliterator"), (0, .class_ 603), (0, u "java/util/HashMap$HashMapSpliterator"), (0, .class_ 605), (0, u "java/util/HashMap$EntryIterator"), (0, .class_ 607), (0, u "java/util/HashMap$ValueIterator"), (0, .class_ 609), (0, u "java/util/HashMap$KeyIterator"), (0, .class_ 611), (0, u "java/util/HashMap$HashIterator")] 17

def k15c0 : Code := { maxStack := 2, maxLocals := 1, code := jdk_69_method_7_code, exceptionTable := #[], attributes := #[] }
def k15m0 : Method := { name := "<init>", desc := "()V", sig := { parameters := [], returnType := none }, accessFlags := 1, code := some k15c0 }
/-- java/util/HashMap -/
def k15 : Class := { plain "java/util/HashMap" (some 14) with
  accessFlags := 33
  interfaces := #[13, 10, 11]
  cf := some (fileOf pool15 40 #[.nestMembers #[180, 596, 598, 600, 602, 604, 606, 608, 610, 346, 268, 263, 243, 163]] #[{ accessFlags := 1, nameIndex := 47, descriptorIndex := 48, attributes := #[] }] 33 44 #[101, 392, 394] #[{ accessFlags := 26, nameIndex := 396, descriptorIndex := 397, attributes := #[] }, { accessFlags := 24, nameIndex := 401, descriptorIndex := 91, attributes := #[] }, { accessFlags := 24, nameIndex := 403, descriptorIndex := 91, attributes := #[] }, { accessFlags := 24, nameIndex := 404, descriptorIndex := 84, attributes := #[] }, { accessFlags := 24, nameIndex := 405, descriptorIndex := 91, attributes := #[] }, { accessFlags := 24, nameIndex := 407, descriptorIndex := 91, attributes := #[] }, { accessFlags := 24, nameIndex := 409, descriptorIndex := 91, attributes := #[] }, { accessFlags := 128, nameIndex := 107, descriptorIndex := 108, attributes := #[] }, { accessFlags := 128, nameIndex := 123, descriptorIndex := 242, attributes := #[] }, { accessFlags := 128, nameIndex := 104, descriptorIndex := 91, attributes := #[] }, { accessFlags := 128, nameIndex := 204, descriptorIndex := 91, attributes := #[] }, { accessFlags := 0, nameIndex := 90, descriptorIndex := 91, attributes := #[] }, { accessFlags := 16, nameIndex := 83, descriptorIndex := 84, attributes := #[] }])
  fields := #[{ name := "serialVersionUID", type := .long, accessFlags := 26, slot := 0, constantValue := 0 }, { name := "DEFAULT_INITIAL_CAPACITY", type := .int, accessFlags := 24, slot := 1, constantValue := 0 }, { name := "MAXIMUM_CAPACITY", type := .int, accessFlags := 24, slot := 2, constantValue := 0 }, { name := "DEFAULT_LOAD_FACTOR", type := .float, accessFlags := 24, slot := 3, constantValue := 0 }, { name := "TREEIFY_THRESHOLD", type := .int, accessFlags := 24, slot := 4, constantValue := 0 }, { name := "UNTREEIFY_THRESHOLD", type := .int, accessFlags := 24, slot := 5, constantValue := 0 }, { name := "MIN_TREEIFY_CAPACITY", type := .int, accessFlags := 24, slot := 6, constantValue := 0 }, { name := "table", type := (.array (.object "java/util/HashMap$Node")), accessFlags := 128, slot := 2, constantValue := 0 }, { name := "entrySet", type := (.object "java/util/Set"), accessFlags := 128, slot := 3, constantValue := 0 }, { name := "size", type := .int, accessFlags := 128, slot := 4, constantValue := 0 }, { name := "modCount", type := .int, accessFlags := 128, slot := 5, constantValue := 0 }, { name := "threshold", type := .int, accessFlags := 0, slot := 6, constantValue := 0 }, { name := "loadFactor", type := .float, accessFlags := 16, slot := 7, constantValue := 0 }]
  methods := #[k15m0]
  instanceTypes := #[(.object "java/util/Set"), (.object "java/util/Collection"), (.array (.object "java/util/HashMap$Node")), (.object "java/util/Set"), .int, .int, .int, .float]
  staticTypes := #[.long, .int, .int, .float, .int, .int, .int]
  resolved := Array.replicate 629 none
  statics := none }

/-- the primitive byte -/
def k16 : Class := { plain "byte" none with kind := .primitive 'B', accessFlags := 0x411 }
/-- [B -/
def k17 : Class := { plain "[B" (some 0) with kind := .array 16 .byte, interfaces := #[10, 11], accessFlags := 1041 }

/-- the primitive int -/
def k18 : Class := { plain "int" none with kind := .primitive 'I', accessFlags := 0x411 }
/-- [I -/
def k19 : Class := { plain "[I" (some 0) with kind := .array 18 .int, interfaces := #[10, 11], accessFlags := 1041 }

/-- [Ljava/lang/Object; -/
def k20 : Class := { plain "[Ljava/lang/Object;" (some 0) with kind := .array 0 (.object "java/lang/Object"), interfaces := #[10, 11], accessFlags := 1041 }

def heap : Heap := #[{ cls := 12, slots := #[.long 0, .int 0, .ref 1, .ref 2], vm := .statics 12 },
  { cls := 20, slots := #[], vm := .none },
  { cls := 20, slots := #[], vm := .none }]
def classes : Array Class := #[k0, k1, k2, k3, k4, k5, k6, k7, k8, k9, k10, k11, k12, k13, k14, k15, k16, k17, k18, k19, k20]
def interned : List (Array UInt16 × Addr) := []
def slotsUsed : Nat := 4
def theMethod : MethodId := ⟨1, 1⟩
def args0 : Array Value := #[.int 1, .int 5, .int 3, .int 1]
def aboutOver (below : List Frame) : State where
  vm := { classes := classes, interned := interned.toArray }
  heap := heap
  slotsUsed := slotsUsed
  threads := #[{ frames := .invoking theMethod args0 :: below }]
def below0 : List Frame := [.native { method := ⟨0, 0⟩, args := #[] }]
def about1 : State := aboutOver below0
def p0 : Program := .bare "" "" ""
def e0 : Env := launch0.env 0 0 0
theorem w_frames : about1.frames = Frame.invoking theMethod args0 :: below0 := rfl
set_option maxRecDepth 65536 in
theorem w_args : argsFit about1.vm theMethod args0 = true := by decide +kernel
set_option maxRecDepth 65536 in
theorem w_heap : heapFits about1 = true := by decide +kernel
set_option maxRecDepth 65536 in
theorem w_runnable : about1.curStatus? = some .runnable := by decide +kernel
set_option maxRecDepth 65536 in
theorem w_alone : about1.alone = true := by decide +kernel
set_option maxRecDepth 65536 in
theorem w_named : about1.methodNamed? x = some theMethod := by decide +kernel
set_option maxRecDepth 65536 in
theorem w_hears : about1.hears theMethod below0 = true := by decide +kernel
set_option maxRecDepth 65536 in
theorem w_ripe : about1.ripe theMethod args0 below0 = true := by decide +kernel
theorem w_running : about1.status = .running := rfl
set_option maxRecDepth 65536 in
theorem w_room : about1.hasRoom e0.platform room_1 = true :=
  launch0.hasRoom_least _ room_1 (by decide +kernel) (by decide +kernel) (by decide +kernel) (by decide +kernel) (by decide +kernel) (by decide +kernel)
theorem allAtoms_all (ts : List Jvm.Cond) (a : Array Jvm.Value) (st : Jvm.State) : (allAtoms ts).before a st = ts.all (fun c => c.before a st) := by
  induction ts with
  | nil => rfl
  | cons c t ih =>
    show (Jvm.Cond.and c (allAtoms t)).before a st = _
    rw [Jvm.Cond.before_and, ih, List.all_cons]
def words1 : List Jvm.Cond := Jvm.Cond.code x code maxLocals ret :: tables_1
/-- a 'code' word, met by the world's own term for the bytes: nothing is compared byte by byte -/
theorem code_word {y : MethodName} {bytes : ByteArray} {mx : Nat} {rt : Option FieldType} {a : Array Value} {s : State} {m : MethodId} {meth : Method} {c : Code} (h1 : s.methodNamed? y = some m) (h2 : s.vm.method? m = some meth) (h3 : meth.code = some c) (h4 : c.code = bytes)
    (h5 : (c.maxLocals == mx && c.exceptionTable.isEmpty && decide (c.maxStack ≤ mostOperands) && decide (meth.sig.returnType = rt) && !meth.locks && decide (parseMethodDescriptor y.desc = some meth.sig)) = true) : (Jvm.Cond.code y bytes mx rt).before a s = true := by
  simp only [Bool.and_eq_true, beq_iff_eq, Bool.not_eq_true', decide_eq_true_eq] at h5
  obtain ⟨⟨⟨⟨⟨g1, g2⟩, g3⟩, g4⟩, g5⟩, g6⟩ := h5
  simp [Cond.before, Cond.holds, Cond.value, h1, h2, h3, h4, g1, g2, g3, g4, g5, g6]
def isCode : Jvm.Cond → Bool
  | .code _ _ _ _ => true
  | _ => false
theorem all_split {L : List Jvm.Cond} {P : Jvm.Cond → Bool} (h1 : L.all (fun c => isCode c || P c) = true) (h2 : ∀ c ∈ L.filter isCode, P c = true) : L.all P = true := by
  refine List.all_eq_true.mpr fun c hc => ?_
  have h := List.all_eq_true.mp h1 c hc
  rcases Bool.eq_false_or_eq_true (isCode c) with hi | hi
  · exact h2 c (List.mem_filter.mpr ⟨hc, hi⟩)
  · simpa [hi] using h
set_option maxRecDepth 65536 in
theorem w_c0 : (Jvm.Cond.code x code maxLocals ret).before args0 about1 = true := code_word (m := ⟨1, 1⟩) (meth := k1m1) (c := k1c1) (by decide +kernel) rfl rfl rfl (by decide +kernel)
set_option maxRecDepth 65536 in
theorem w_c1 : (Jvm.Cond.code ({ cls := "com/example/lean_lifecycle/leanlifecycle/ActivityManager", name := "<init>", desc := "()V" } : Jvm.MethodName) prog_4_method_1_code (1 : Nat) (Option.none : Option Jvm.ClassFile.FieldType)).before args0 about1 = true := code_word (m := ⟨2, 0⟩) (meth := k2m0) (c := k2c0) (by decide +kernel) rfl rfl rfl (by decide +kernel)
set_option maxRecDepth 65536 in
theorem w_c2 : (Jvm.Cond.code ({ cls := "java/lang/Object", name := "<init>", desc := "()V" } : Jvm.MethodName) object_method_1_code (1 : Nat) (Option.none : Option Jvm.ClassFile.FieldType)).before args0 about1 = true := code_word (m := ⟨0, 0⟩) (meth := k0m0) (c := k0c0) (by decide +kernel) rfl rfl rfl (by decide +kernel)
set_option maxRecDepth 65536 in
theorem w_c3 : (Jvm.Cond.code ({ cls := "java/util/ArrayList", name := "<init>", desc := "()V" } : Jvm.MethodName) jdk_38_method_2_code (1 : Nat) (Option.none : Option Jvm.ClassFile.FieldType)).before args0 about1 = true := code_word (m := ⟨12, 0⟩) (meth := k12m0) (c := k12c0) (by decide +kernel) rfl rfl rfl (by decide +kernel)
set_option maxRecDepth 65536 in
theorem w_c4 : (Jvm.Cond.code ({ cls := "java/util/AbstractList", name := "<init>", desc := "()V" } : Jvm.MethodName) jdk_39_method_1_code (1 : Nat) (Option.none : Option Jvm.ClassFile.FieldType)).before args0 about1 = true := code_word (m := ⟨8, 0⟩) (meth := k8m0) (c := k8c0) (by decide +kernel) rfl rfl rfl (by decide +kernel)
set_option maxRecDepth 65536 in
theorem w_c5 : (Jvm.Cond.code ({ cls := "java/util/AbstractCollection", name := "<init>", desc := "()V" } : Jvm.MethodName) jdk_22_method_1_code (1 : Nat) (Option.none : Option Jvm.ClassFile.FieldType)).before args0 about1 = true := code_word (m := ⟨5, 0⟩) (meth := k5m0) (c := k5c0) (by decide +kernel) rfl rfl rfl (by decide +kernel)
set_option maxRecDepth 65536 in
theorem w_c6 : (Jvm.Cond.code ({ cls := "java/util/HashMap", name := "<init>", desc := "()V" } : Jvm.MethodName) jdk_69_method_7_code (1 : Nat) (Option.none : Option Jvm.ClassFile.FieldType)).before args0 about1 = true := code_word (m := ⟨15, 0⟩) (meth := k15m0) (c := k15c0) (by decide +kernel) rfl rfl rfl (by decide +kernel)
set_option maxRecDepth 65536 in
theorem w_c7 : (Jvm.Cond.code ({ cls := "java/util/AbstractMap", name := "<init>", desc := "()V" } : Jvm.MethodName) jdk_71_method_1_code (1 : Nat) (Option.none : Option Jvm.ClassFile.FieldType)).before args0 about1 = true := code_word (m := ⟨14, 0⟩) (meth := k14m0) (c := k14c0) (by decide +kernel) rfl rfl rfl (by decide +kernel)
set_option maxRecDepth 65536 in
theorem w_c8 : (Jvm.Cond.code ({ cls := "com/example/lean_lifecycle/leanlifecycle/ActivityManager", name := "setInFront", desc := "(Z)V" } : Jvm.MethodName) prog_4_method_36_code (2 : Nat) (Option.none : Option Jvm.ClassFile.FieldType)).before args0 about1 = true := code_word (m := ⟨2, 2⟩) (meth := k2m2) (c := k2c2) (by decide +kernel) rfl rfl rfl (by decide +kernel)
set_option maxRecDepth 65536 in
theorem w_c9 : (Jvm.Cond.code ({ cls := "com/example/lean_lifecycle/leanlifecycle/ActivityManager", name := "postFrontMove", desc := "(Z)V" } : Jvm.MethodName) prog_4_method_38_code (2 : Nat) (Option.none : Option Jvm.ClassFile.FieldType)).before args0 about1 = true := code_word (m := ⟨2, 4⟩) (meth := k2m4) (c := k2c4) (by decide +kernel) rfl rfl rfl (by decide +kernel)
set_option maxRecDepth 65536 in
theorem w_c10 : (Jvm.Cond.code ({ cls := "com/example/lean_lifecycle/leanlifecycle/ActivityManager", name := "endFrontMove", desc := "()V" } : Jvm.MethodName) prog_4_method_39_code (1 : Nat) (Option.none : Option Jvm.ClassFile.FieldType)).before args0 about1 = true := code_word (m := ⟨2, 5⟩) (meth := k2m5) (c := k2c5) (by decide +kernel) rfl rfl rfl (by decide +kernel)
set_option maxRecDepth 65536 in
theorem w_c11 : (Jvm.Cond.code ({ cls := "com/example/lean_lifecycle/leanlifecycle/ActivityManager", name := "isInFrontAsPosted", desc := "()Z" } : Jvm.MethodName) prog_4_method_37_code (1 : Nat) (Option.some Jvm.ClassFile.FieldType.boolean)).before args0 about1 = true := code_word (m := ⟨2, 3⟩) (meth := k2m3) (c := k2c3) (by decide +kernel) rfl rfl rfl (by decide +kernel)
set_option maxRecDepth 65536 in
theorem w_c12 : (Jvm.Cond.code ({ cls := "com/example/lean_lifecycle/leanlifecycle/ActivityManager", name := "isInFront", desc := "()Z" } : Jvm.MethodName) prog_4_method_35_code (1 : Nat) (Option.some Jvm.ClassFile.FieldType.boolean)).before args0 about1 = true := code_word (m := ⟨2, 1⟩) (meth := k2m1) (c := k2c1) (by decide +kernel) rfl rfl rfl (by decide +kernel)
def codes1 : List Jvm.Cond := [Jvm.Cond.code x code maxLocals ret, Jvm.Cond.code ({ cls := "com/example/lean_lifecycle/leanlifecycle/ActivityManager", name := "<init>", desc := "()V" } : Jvm.MethodName) prog_4_method_1_code (1 : Nat) (Option.none : Option Jvm.ClassFile.FieldType), Jvm.Cond.code ({ cls := "java/lang/Object", name := "<init>", desc := "()V" } : Jvm.MethodName) object_method_1_code (1 : Nat) (Option.none : Option Jvm.ClassFile.FieldType), Jvm.Cond.code ({ cls := "java/util/ArrayList", name := "<init>", desc := "()V" } : Jvm.MethodName) jdk_38_method_2_code (1 : Nat) (Option.none : Option Jvm.ClassFile.FieldType), Jvm.Cond.code ({ cls := "java/util/AbstractList", name := "<init>", desc := "()V" } : Jvm.MethodName) jdk_39_method_1_code (1 : Nat) (Option.none : Option Jvm.ClassFile.FieldType), Jvm.Cond.code ({ cls := "java/util/AbstractCollection", name := "<init>", desc := "()V" } : Jvm.MethodName) jdk_22_method_1_code (1 : Nat) (Option.none : Option Jvm.ClassFile.FieldType), Jvm.Cond.code ({ cls := "java/util/HashMap", name := "<init>", desc := "()V" } : Jvm.MethodName) jdk_69_method_7_code (1 : Nat) (Option.none : Option Jvm.ClassFile.FieldType), Jvm.Cond.code ({ cls := "java/util/AbstractMap", name := "<init>", desc := "()V" } : Jvm.MethodName) jdk_71_method_1_code (1 : Nat) (Option.none : Option Jvm.ClassFile.FieldType), Jvm.Cond.code ({ cls := "com/example/lean_lifecycle/leanlifecycle/ActivityManager", name := "setInFront", desc := "(Z)V" } : Jvm.MethodName) prog_4_method_36_code (2 : Nat) (Option.none : Option Jvm.ClassFile.FieldType), Jvm.Cond.code ({ cls := "com/example/lean_lifecycle/leanlifecycle/ActivityManager", name := "postFrontMove", desc := "(Z)V" } : Jvm.MethodName) prog_4_method_38_code (2 : Nat) (Option.none : Option Jvm.ClassFile.FieldType), Jvm.Cond.code ({ cls := "com/example/lean_lifecycle/leanlifecycle/ActivityManager", name := "endFrontMove", desc := "()V" } : Jvm.MethodName) prog_4_method_39_code (1 : Nat) (Option.none : Option Jvm.ClassFile.FieldType), Jvm.Cond.code ({ cls := "com/example/lean_lifecycle/leanlifecycle/ActivityManager", name := "isInFrontAsPosted", desc := "()Z" } : Jvm.MethodName) prog_4_method_37_code (1 : Nat) (Option.some Jvm.ClassFile.FieldType.boolean), Jvm.Cond.code ({ cls := "com/example/lean_lifecycle/leanlifecycle/ActivityManager", name := "isInFront", desc := "()Z" } : Jvm.MethodName) prog_4_method_35_code (1 : Nat) (Option.some Jvm.ClassFile.FieldType.boolean)]
set_option maxRecDepth 65536 in
theorem codes_eq : words1.filter isCode = codes1 := rfl
theorem w_codes : ∀ c ∈ words1.filter isCode, c.before args0 about1 = true := by
  rw [codes_eq]
  intro c hc
  simp only [codes1, List.mem_cons, List.not_mem_nil, or_false] at hc
  rcases hc with rfl | rfl | rfl | rfl | rfl | rfl | rfl | rfl | rfl | rfl | rfl | rfl | rfl
  · exact w_c0
  · exact w_c1
  · exact w_c2
  · exact w_c3
  · exact w_c4
  · exact w_c5
  · exact w_c6
  · exact w_c7
  · exact w_c8
  · exact w_c9
  · exact w_c10
  · exact w_c11
  · exact w_c12
set_option maxRecDepth 65536 in
theorem w_t1 : (words1.take 24).all (fun c => isCode c || c.before args0 about1) = true := by decide +kernel
set_option maxRecDepth 65536 in
theorem w_t2 : ((words1.drop 24).take 24).all (fun c => isCode c || c.before args0 about1) = true := by decide +kernel
set_option maxRecDepth 65536 in
theorem w_t3 : (((words1.drop 24).drop 24).take 24).all (fun c => isCode c || c.before args0 about1) = true := by decide +kernel
set_option maxRecDepth 65536 in
theorem w_t4 : (((words1.drop 24).drop 24).drop 24).all (fun c => isCode c || c.before args0 about1) = true := by decide +kernel
theorem w_tables : (allAtoms (Jvm.Cond.code x code maxLocals ret :: tables_1)).before args0 about1 = true := by
  rw [allAtoms_all]
  show words1.all (fun c => c.before args0 about1) = true
  refine all_split ?_ w_codes
  rw [← List.take_append_drop 24 words1, List.all_append, w_t1, ← List.take_append_drop 24 (words1.drop 24), List.all_append, w_t2, ← List.take_append_drop 24 ((words1.drop 24).drop 24), List.all_append, w_t3, w_t4]
  rfl
set_option maxRecDepth 65536 in
theorem w_rest : rest_1_c.before args0 about1 = true := by decide +kernel
set_option maxRecDepth 65536 in
theorem w_case : (Jvm.Cond.and given_1 narrow_1).before args0 about1 = true := by decide +kernel
theorem w_applies : (headSpec (Jvm.Cond.code x code maxLocals ret :: tables_1) room_1).applies x e0.platform about1 = true :=
  (Spec.applies_iff w_frames).mpr ⟨w_running, w_runnable, w_alone, w_named, w_hears, w_ripe, w_room, w_tables⟩
theorem atStart : AtStart classFile x code maxLocals ret World_1 tables_1 room_1 Calls_1 rest_1 Pre_1 launch0 p0 e0 about1 theMethod args0 below0 :=
  ⟨lists_1, trivial, launch0.admits_env _ _ _, launch0.least_env, fairChoices_fair.cas, fairChoices_fair.clock, w_frames, w_args, w_heap, w_applies, trivial, w_rest, w_case⟩
end start1
theorem witness_1 : WitnessClaimed_1 := ⟨start1.p0, start1.e0, start1.about1, start1.theMethod, start1.args0, start1.below0, start1.atStart⟩
end Jvm.Pilot.@@N@@
