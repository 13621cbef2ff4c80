import JvmDerived
import JvmDerived.Pilot.@@N@@Statement
import JvmDerived.Pilot.@@N@@Code
set_option linter.unusedVariables false
set_option linter.unusedSimpArgs false
namespace Jvm.RoadKit
open Sem ClassFile Op Lib Jvm.Stand Jvm.Free Jvm.LawKit
section New
variable {p : Program} {l : Launch} {e : Env} {R : Room} {s : State} {m : MethodId} {args : Array Value} {below : List Frame} {meth : Method} {c : Code} {T : State} {locs : List Loc} {cells slots : Nat}
theorem retI (X : Stand p l e R s m args below meth c T locs cells slots) (hx : p.tables.exec = Jvm.exec) {pc : Nat} {Ls : Array Slot} {z : Int32} {rest : List Value} (hret : meth.sig.returnType = some .int) (hd : decode c.code pc = .ok (.ireturn, 1)) {fs : List Frame}
    (hl : ∀ (f : JFrame) (acts : List Action), f.method = m → f.locked = none → f.entered = [] → (doReturn e (T.setTop f) acts (some (.int z))).1 = T.setFrames fs) : Steps p.tables e below (T.setTop (mkF m pc Ls (.int z :: rest))) (T.setFrames fs) := by
  have hm' : T.vm.method? m = some meth := X.method'
  have hn : narrow .int (.int z) = .int z := rfl
  show Steps p.tables e below (T.setTop { method := m, pc := pc, locals := Ls, stack := _ :: rest, locked := none }) _
  jvm_step X.here [X.here.top, hx, hd, hm', hret, hn]
  first | (intro acts; rw [hl _ acts rfl rfl rfl]) | rw [hl _ _ rfl rfl rfl]
  exact Steps.refl _
end New
end Jvm.RoadKit
namespace Jvm.Pilot.@@N@@
open Jvm Jvm.ClassFile Sem Op Lib Jvm.Free Jvm.Stand Jvm.LawKit Jvm.RoadKit Bundle Jvm.Pilot.@@N@@.Jvm.D
theorem own_r1 (c r : Int64) : c * 1 - r * 0 = c := by rw [Int64.mul_one, Int64.mul_zero, Int64.sub_zero]
theorem own_r2 (c r : Int64) : c * 0 - r * 1 = -r := by rw [Int64.mul_one, Int64.mul_zero, Int64.zero_sub]
theorem own_r3 (c r a b d e : Int64) : c * (a + b) - r * (d + e) = (c * a - r * d) + (c * b - r * e) := by grind
theorem own_r4 (c r : Int64) : c * r - r * c = 0 := by rw [Int64.mul_comm, Int64.sub_self]
theorem own_r5 (c r a d : Int64) : c * (a + r) - r * (d + c) = c * a - r * d := by grind
theorem pn_0 : plainName "java/lang/Record" = true := by first | (simp [plainName, overriddenIn]; done) | decide +kernel
theorem d2_0 : decode jdk_30_method_1_code 0 = .ok (.aload_n 0, 1) := by decide +kernel
theorem d2_1 : decode jdk_30_method_1_code 1 = .ok (.invokespecial 1, 3) := by decide +kernel
theorem d2_4 : decode jdk_30_method_1_code 4 = .ok (.return_, 1) := by decide +kernel
theorem ef_2 (m : MethodId) (x0 : Addr) : entryFrame m #[(.ref x0)] 1 = mkF m 0 #[.val (.ref x0)] [] := by first | (simp [entryFrame, mkF, argsToLocals, Value.category]; done) | rfl
def Q2 (Z : State) (a : Addr) (h0 : Heap) (n0 : Nat) (v : Option Value) (h : Heap) (L : List Loc) : Prop := v = none ∧ Fr n0 L ∧ h = h0
set_option maxRecDepth 65536 in
set_option maxHeartbeats 40000000 in
theorem rm2 (l : Launch) (Z : State) (a0 : Array Value) (hw : ∀ d ∈ tables_1, d.before a0 Z = true) (ws : List Jvm.Cond) (a : Addr) (h0 : Heap) (n0 : Nat) (Z0 : n0 ≤ h0.size) :
    MetFree l (⟨"java/lang/Record", "<init>", "()V"⟩ : MethodName) (head1 (Jvm.Cond.code (⟨"java/lang/Record", "<init>", "()V"⟩ : MethodName) jdk_30_method_1_code 1 none :: ws) ({ frames := 1, cells := 0, slots := 0, locals := 12 } : Room)) (fun aa U => aa = #[(.ref a)] ∧ Z.Warmed39 U.vm ∧ U.heap = h0) (fun _ _ _ _ _ => True) (fun _ U o U' => ∃ v L, o = .returned v ∧ Q2 Z a h0 n0 v U'.heap L ∧ FrameEnd U o U' L ({ frames := 1, cells := 0, slots := 0, locals := 12 } : Room).cells ({ frames := 1, cells := 0, slots := 0, locals := 12 } : Room).slots) := by
  refine MetFree.of_bodySF (plainFor_of_name pn_0) hisR ?_
  intro p e s m args below meth c s₁ Bd hml0 hP hK
  obtain ⟨rfl, hZ, hh⟩ := hP
  have hx := Bd.exec
  have hby := Bd.bytes
  have hml : c.maxLocals = 1 := hml0
  have hown : s.vm.findClass "java/lang/Record" = some m.cls := findClass_of_methodNamed Bd.named
  have hnm := (name_of_methodNamed Bd.named Bd.method).1
  have X0 : Stand p l e ({ frames := 1, cells := 0, slots := 0, locals := 12 } : Room) s m #[(.ref a)] below meth c s₁ [] 0 0 := Stand.of_body Bd
  have e0 : s₁.heap = h0 := by rw [← hh, Bd.state]; rfl
  have N0 := Fr.nil n0
  have pre0 : ∀ t, Steps p.tables e below (s₁.setTop (mkF m 0 #[.val (.ref a)] [])) t → Steps p.tables e below (s₁.setTop (entryFrame m #[(.ref a)] 1)) t := fun t k => castTop (ef_2 m a) k
  have pre1 : ∀ t, Steps p.tables e below (s₁.setTop (mkF m 1 #[.val (.ref a)] [(.ref a)])) t → Steps p.tables e below (s₁.setTop (entryFrame m #[(.ref a)] 1)) t := fun t k => pre0 t (by
    show Steps p.tables e below (s₁.setTop (mkF m 0 #[.val (.ref a)] [])) _
    refine XS.aloadN X0.here hx rfl (hb hby d2_0) rfl rfl ?_
    show Steps p.tables e below (s₁.setTop (mkF m 1 #[.val (.ref a)] [(.ref a)])) _
    exact k)
  obtain ⟨T2, X2, e2, st2⟩ := initO X0 hx hZ hown (hw _ (List.mem_of_getElem? (i := 12) rfl)) (hw _ (List.mem_of_getElem? (i := 13) rfl)) (hw _ (List.mem_of_getElem? (i := 14) rfl)) e0 (g := (mkF m 1 #[.val (.ref a)] [(.ref a)])) rfl (by rw [hml]; rfl) rfl (hb hby d2_1) (by decide) (W := 0) (by show 2 * 0 + _ ≤ _; exact Nat.le_of_eq rfl) (by decide)
  have pre3 : ∀ t, Steps p.tables e below (T2.setTop (mkF m 4 #[.val (.ref a)] [])) t → Steps p.tables e below (s₁.setTop (entryFrame m #[(.ref a)] 1)) t := fun t k => pre1 t (st2 _ k)
  obtain ⟨fs, hr, hrun, hended, hW, hsame⟩ := X2.leave (v := none) (fun _ => rfl)
  refine ⟨_, _, pre3 _ ?_, hrun, hended, _, _, rfl, ?_, ⟨_, rfl⟩, hW, hsame.mono (by decide) (by decide)⟩
  · show Steps p.tables e below (T2.setTop (mkF m 4 #[.val (.ref a)] [])) _
    exact X2.returnOut hx Bd.returns (hb hby d2_4) hr
  · show Q2 Z a h0 n0 _ T2.heap _
    rw [e2]
    exact ⟨rfl, N0, rfl⟩
theorem pd_0 : parseMethodDescriptor "()V" = some ⟨[], none⟩ := by decide +kernel
theorem pn_1 : plainName "com/example/crownfield/crownfield/search/Step" = true := by first | (simp [plainName, overriddenIn]; done) | decide +kernel
theorem d1_0 : decode prog_50_method_1_code 0 = .ok (.aload_n 0, 1) := by decide +kernel
theorem d1_1 : decode prog_50_method_1_code 1 = .ok (.invokespecial 1, 3) := by decide +kernel
theorem d1_4 : decode prog_50_method_1_code 4 = .ok (.aload_n 0, 1) := by decide +kernel
theorem d1_5 : decode prog_50_method_1_code 5 = .ok (.iload_n 1, 1) := by decide +kernel
theorem d1_6 : decode prog_50_method_1_code 6 = .ok (.putfield 7, 3) := by decide +kernel
theorem d1_9 : decode prog_50_method_1_code 9 = .ok (.aload_n 0, 1) := by decide +kernel
theorem d1_10 : decode prog_50_method_1_code 10 = .ok (.iload_n 2, 1) := by decide +kernel
theorem d1_11 : decode prog_50_method_1_code 11 = .ok (.putfield 13, 3) := by decide +kernel
theorem d1_14 : decode prog_50_method_1_code 14 = .ok (.return_, 1) := by decide +kernel
theorem ef_1 (m : MethodId) (x0 : Addr) (x1 : Int32) (x2 : Int32) : entryFrame m #[(.ref x0), (.int x1), (.int x2)] 3 = mkF m 0 #[.val (.ref x0), .val (.int x1), .val (.int x2)] [] := by first | (simp [entryFrame, mkF, argsToLocals, Value.category]; done) | rfl
def Q1 (Z : State) (a : Addr) (x1 : Int32) (x2 : Int32) (h0 : Heap) (n0 : Nat) (v : Option Value) (h : Heap) (L : List Loc) : Prop := v = none ∧ Fr n0 L ∧ Keep h0 h [a] ∧ Exa Z h a "com/example/crownfield/crownfield/search/Step" ∧ Fld Z h a "com/example/crownfield/crownfield/search/Step" "rows" "I" (.int x1) ∧ Fld Z h a "com/example/crownfield/crownfield/search/Step" "columns" "I" (.int x2)
set_option maxRecDepth 65536 in
set_option maxHeartbeats 40000000 in
theorem rm1 (l : Launch) (Z : State) (a0 : Array Value) (hw : ∀ d ∈ tables_1, d.before a0 Z = true) (ws : List Jvm.Cond) (a : Addr) (x1 : Int32) (x2 : Int32) (h0 : Heap) (n0 : Nat) (Z0 : n0 ≤ h0.size) (Ea : Exa Z h0 a "com/example/crownfield/crownfield/search/Step") (F_rows : Fld Z h0 a "com/example/crownfield/crownfield/search/Step" "rows" "I" (.int (0 : Int32))) (F_columns : Fld Z h0 a "com/example/crownfield/crownfield/search/Step" "columns" "I" (.int (0 : Int32))) (ga : n0 ≤ a) :
    MetFree l (⟨"com/example/crownfield/crownfield/search/Step", "<init>", "(II)V"⟩ : MethodName) (head1 (Jvm.Cond.code (⟨"com/example/crownfield/crownfield/search/Step", "<init>", "(II)V"⟩ : MethodName) prog_50_method_1_code 3 none :: ws) ({ frames := 2, cells := 0, slots := 0, locals := 24 } : Room)) (fun aa U => aa = #[(.ref a), (.int x1), (.int x2)] ∧ Z.Warmed39 U.vm ∧ U.heap = h0) (fun _ _ _ _ _ => True) (fun _ U o U' => ∃ v L, o = .returned v ∧ Q1 Z a x1 x2 h0 n0 v U'.heap L ∧ FrameEnd U o U' L ({ frames := 2, cells := 0, slots := 0, locals := 24 } : Room).cells ({ frames := 2, cells := 0, slots := 0, locals := 24 } : Room).slots) := by
  refine MetFree.of_bodySF (plainFor_of_name pn_1) hisR ?_
  intro p e s m args below meth c s₁ Bd hml0 hP hK
  obtain ⟨rfl, hZ, hh⟩ := hP
  have hx := Bd.exec
  have hby := Bd.bytes
  have hml : c.maxLocals = 3 := hml0
  have hown : s.vm.findClass "com/example/crownfield/crownfield/search/Step" = some m.cls := findClass_of_methodNamed Bd.named
  have hnm := (name_of_methodNamed Bd.named Bd.method).1
  have X0 : Stand p l e ({ frames := 2, cells := 0, slots := 0, locals := 24 } : Room) s m #[(.ref a), (.int x1), (.int x2)] below meth c s₁ [] 0 0 := Stand.of_body Bd
  have e0 : s₁.heap = h0 := by rw [← hh, Bd.state]; rfl
  have N0 := Fr.nil n0
  have pre0 : ∀ t, Steps p.tables e below (s₁.setTop (mkF m 0 #[.val (.ref a), .val (.int x1), .val (.int x2)] [])) t → Steps p.tables e below (s₁.setTop (entryFrame m #[(.ref a), (.int x1), (.int x2)] 3)) t := fun t k => castTop (ef_1 m a x1 x2) k
  have pre1 : ∀ t, Steps p.tables e below (s₁.setTop (mkF m 1 #[.val (.ref a), .val (.int x1), .val (.int x2)] [(.ref a)])) t → Steps p.tables e below (s₁.setTop (entryFrame m #[(.ref a), (.int x1), (.int x2)] 3)) t := fun t k => pre0 t (by
    show Steps p.tables e below (s₁.setTop (mkF m 0 #[.val (.ref a), .val (.int x1), .val (.int x2)] [])) _
    refine XS.aloadN X0.here hx rfl (hb hby d1_0) rfl rfl ?_
    show Steps p.tables e below (s₁.setTop (mkF m 1 #[.val (.ref a), .val (.int x1), .val (.int x2)] [(.ref a)])) _
    exact k)
  obtain ⟨_, _, ⟨T3, L3, k3, n3⟩, -, X3, ⟨Lc3, hQ3, l3, y3, z3⟩, st3⟩ := X0.specialBack hx (y := (⟨"java/lang/Record", "<init>", "()V"⟩ : MethodName)) rfl hown (mvT hZ (hw _ (List.mem_of_getElem? (i := 7) rfl))) (mvT hZ (hw _ (List.mem_of_getElem? (i := 8) rfl))) (mvT hZ (hw _ (List.mem_of_getElem? (i := 11) rfl))) (by decide) (backOf (W := 0) (rm2 l Z a0 hw [] a  h0 n0 Z0 ) hZ (hw _ (List.mem_of_getElem? (i := 11) rfl)) (hw _ (List.mem_of_getElem? (i := 10) rfl)) (by decide) (by decide)) (g := (mkF m 1 #[.val (.ref a), .val (.int x1), .val (.int x2)] [(.ref a)])) rfl (by rw [hml]; rfl) (Steps.refl _) (a := a) (argsL := []) (rest := []) (lenOf pd_0 rfl) rfl (by show 2 * 0 + _ ≤ _; exact Nat.le_of_eq rfl) (hb hby d1_1) (fun _ _ => ⟨rfl, e0, (by decide : 0 + 0 ≤ _), (by decide : 0 + 0 ≤ _)⟩)
  dsimp only [Pt.U, Pt.locs, Pt.cells, Pt.slots] at X3 l3 y3 z3 st3 hQ3
  subst l3 y3 z3
  obtain ⟨rfl, N3q, e3⟩ := hQ3
  have N3 := Fr.app N0 N3q
  have pre4 : ∀ t, Steps p.tables e below (T3.setTop (mkF m 4 #[.val (.ref a), .val (.int x1), .val (.int x2)] [])) t → Steps p.tables e below (s₁.setTop (entryFrame m #[(.ref a), (.int x1), (.int x2)] 3)) t := fun t k => pre1 t (st3.trans k)
  have pre5 : ∀ t, Steps p.tables e below (T3.setTop (mkF m 6 #[.val (.ref a), .val (.int x1), .val (.int x2)] [(.int x1), (.ref a)])) t → Steps p.tables e below (s₁.setTop (entryFrame m #[(.ref a), (.int x1), (.int x2)] 3)) t := fun t k => pre4 t (by
    show Steps p.tables e below (T3.setTop (mkF m 4 #[.val (.ref a), .val (.int x1), .val (.int x2)] [])) _
    refine XS.aloadN X3.here hx rfl (hb hby d1_4) rfl rfl ?_
    show Steps p.tables e below (T3.setTop (mkF m 5 #[.val (.ref a), .val (.int x1), .val (.int x2)] [(.ref a)])) _
    refine XS.iloadN X3.here hx rfl (hb hby d1_5) rfl ?_
    show Steps p.tables e below (T3.setTop (mkF m 6 #[.val (.ref a), .val (.int x1), .val (.int x2)] [(.int x1), (.ref a)])) _
    exact k)
  obtain ⟨T6, h6, X6, e6, W6, st6⟩ := putF X3 hx hZ hown (host := "") (Or.inl (hw _ (List.mem_of_getElem? (i := 15) rfl))) Via.refl e3 F_rows Ea (Or.inr ⟨(hw _ (List.mem_of_getElem? (i := 16) rfl)), rfl, hnm⟩) (hw _ (List.mem_of_getElem? (i := 2) rfl)) (ty := .int) (by decide) rfl rfl (g := (mkF m 6 #[.val (.ref a), .val (.int x1), .val (.int x2)] [(.int x1), (.ref a)])) rfl rfl (hb hby d1_6)
  have Fw6 : Fld Z h6 a "com/example/crownfield/crownfield/search/Step" "rows" "I" (.int x1) := (F_rows).same W6
  have c7 := (Ea).wr W6
  have c9 := (F_columns).other W6 (Or.inr (slot_ne (Or.inr (hw _ (List.mem_of_getElem? (i := 18) rfl))) (Or.inr (hw _ (List.mem_of_getElem? (i := 16) rfl))) (by decide) (t := .int) (t' := .int) (by decide) (by decide)))
  have N6 := Fr.snoc X6 N3 ga
  have Zz6 : n0 ≤ h6.size := Nat.le_trans Z0 (Keep.of_wr W6).1
  have pre10 : ∀ t, Steps p.tables e below (T6.setTop (mkF m 9 #[.val (.ref a), .val (.int x1), .val (.int x2)] [])) t → Steps p.tables e below (s₁.setTop (entryFrame m #[(.ref a), (.int x1), (.int x2)] 3)) t := fun t k => pre5 t (st6 _ k)
  have Kp6 : Keep h0 h6 [a] := ((Keep.refl h0 [a])).wr W6 (Or.inl (List.mem_of_getElem? (i := 0) rfl))
  have pre11 : ∀ t, Steps p.tables e below (T6.setTop (mkF m 11 #[.val (.ref a), .val (.int x1), .val (.int x2)] [(.int x2), (.ref a)])) t → Steps p.tables e below (s₁.setTop (entryFrame m #[(.ref a), (.int x1), (.int x2)] 3)) t := fun t k => pre10 t (by
    show Steps p.tables e below (T6.setTop (mkF m 9 #[.val (.ref a), .val (.int x1), .val (.int x2)] [])) _
    refine XS.aloadN X6.here hx rfl (hb hby d1_9) rfl rfl ?_
    show Steps p.tables e below (T6.setTop (mkF m 10 #[.val (.ref a), .val (.int x1), .val (.int x2)] [(.ref a)])) _
    refine XS.iloadN X6.here hx rfl (hb hby d1_10) rfl ?_
    show Steps p.tables e below (T6.setTop (mkF m 11 #[.val (.ref a), .val (.int x1), .val (.int x2)] [(.int x2), (.ref a)])) _
    exact k)
  obtain ⟨T12, h12, X12, e12, W12, st12⟩ := putF X6 hx hZ hown (host := "") (Or.inl (hw _ (List.mem_of_getElem? (i := 17) rfl))) Via.refl e6 c9 c7 (Or.inr ⟨(hw _ (List.mem_of_getElem? (i := 18) rfl)), rfl, hnm⟩) (hw _ (List.mem_of_getElem? (i := 2) rfl)) (ty := .int) (by decide) rfl rfl (g := (mkF m 11 #[.val (.ref a), .val (.int x1), .val (.int x2)] [(.int x2), (.ref a)])) rfl rfl (hb hby d1_11)
  have Fw12 : Fld Z h12 a "com/example/crownfield/crownfield/search/Step" "columns" "I" (.int x2) := (c9).same W12
  have c13 := (c7).wr W12
  have c15 := (Fw6).other W12 (Or.inr (slot_ne (Or.inr (hw _ (List.mem_of_getElem? (i := 16) rfl))) (Or.inr (hw _ (List.mem_of_getElem? (i := 18) rfl))) (by decide) (t := .int) (t' := .int) (by decide) (by decide)))
  have N12 := Fr.snoc X12 N6 ga
  have Zz12 : n0 ≤ h12.size := Nat.le_trans Zz6 (Keep.of_wr W12).1
  have pre16 : ∀ t, Steps p.tables e below (T12.setTop (mkF m 14 #[.val (.ref a), .val (.int x1), .val (.int x2)] [])) t → Steps p.tables e below (s₁.setTop (entryFrame m #[(.ref a), (.int x1), (.int x2)] 3)) t := fun t k => pre11 t (st12 _ k)
  have Kp12 : Keep h0 h12 [a] := (Kp6).wr W12 (Or.inl (List.mem_of_getElem? (i := 0) rfl))
  obtain ⟨fs, hr, hrun, hended, hW, hsame⟩ := X12.leave (v := none) (fun _ => rfl)
  refine ⟨_, _, pre16 _ ?_, hrun, hended, _, _, rfl, ?_, ⟨_, rfl⟩, hW, hsame.mono (by decide) (by decide)⟩
  · show Steps p.tables e below (T12.setTop (mkF m 14 #[.val (.ref a), .val (.int x1), .val (.int x2)] [])) _
    exact X12.returnOut hx Bd.returns (hb hby d1_14) hr
  · show Q1 Z a x1 x2 h0 n0 _ T12.heap _
    rw [e12]
    exact ⟨rfl, N12, Kp12, c13, c15, Fw12⟩
def F4 (x1 : Int64) (x2 : Int64) (u_rows : Int32) (u_columns : Int32) : Int64 := (((u_columns.toInt64) * x1) - ((u_rows.toInt64) * x2))
theorem d4_0 : decode prog_50_method_3_code 0 = .ok (.aload_n 0, 1) := by decide +kernel
theorem d4_1 : decode prog_50_method_3_code 1 = .ok (.getfield 13, 3) := by decide +kernel
theorem d4_4 : decode prog_50_method_3_code 4 = .ok (.i2l, 1) := by decide +kernel
theorem d4_5 : decode prog_50_method_3_code 5 = .ok (.lload_n 1, 1) := by decide +kernel
theorem d4_6 : decode prog_50_method_3_code 6 = .ok (.lmul, 1) := by decide +kernel
theorem d4_7 : decode prog_50_method_3_code 7 = .ok (.aload_n 0, 1) := by decide +kernel
theorem d4_8 : decode prog_50_method_3_code 8 = .ok (.getfield 7, 3) := by decide +kernel
theorem d4_11 : decode prog_50_method_3_code 11 = .ok (.i2l, 1) := by decide +kernel
theorem d4_12 : decode prog_50_method_3_code 12 = .ok (.lload_n 3, 1) := by decide +kernel
theorem d4_13 : decode prog_50_method_3_code 13 = .ok (.lmul, 1) := by decide +kernel
theorem d4_14 : decode prog_50_method_3_code 14 = .ok (.lsub, 1) := by decide +kernel
theorem d4_15 : decode prog_50_method_3_code 15 = .ok (.lreturn, 1) := by decide +kernel
theorem ef_4 (m : MethodId) (x0 : Addr) (x1 : Int64) (x2 : Int64) : entryFrame m #[(.ref x0), (.long x1), (.long x2)] 5 = mkF m 0 #[.val (.ref x0), .val (.long x1), .second, .val (.long x2), .second] [] := by first | (simp [entryFrame, mkF, argsToLocals, Value.category]; done) | rfl
def Q4 (Z : State) (a : Addr) (x1 : Int64) (x2 : Int64) (u_rows : Int32) (u_columns : Int32) (h0 : Heap) (n0 : Nat) (v : Option Value) (h : Heap) (L : List Loc) : Prop := ∃ z : Int64, v = some (.long z) ∧ Fr n0 L ∧ h = h0 ∧ (z = F4 x1 x2 u_rows u_columns)
set_option maxRecDepth 65536 in
set_option maxHeartbeats 40000000 in
theorem rm4 (l : Launch) (Z : State) (a0 : Array Value) (hw : ∀ d ∈ tables_1, d.before a0 Z = true) (ws : List Jvm.Cond) (a : Addr) (x1 : Int64) (x2 : Int64) (u_rows : Int32) (u_columns : Int32) (h0 : Heap) (n0 : Nat) (Z0 : n0 ≤ h0.size) (F_rows : Fld Z h0 a "com/example/crownfield/crownfield/search/Step" "rows" "I" (.int u_rows)) (F_columns : Fld Z h0 a "com/example/crownfield/crownfield/search/Step" "columns" "I" (.int u_columns)) :
    MetFree l (⟨"com/example/crownfield/crownfield/search/Step", "line", "(JJ)J"⟩ : MethodName) (head1 (Jvm.Cond.code (⟨"com/example/crownfield/crownfield/search/Step", "line", "(JJ)J"⟩ : MethodName) prog_50_method_3_code 5 (some .long) :: ws) ({ frames := 0, cells := 0, slots := 0, locals := 0 } : Room)) (fun aa U => aa = #[(.ref a), (.long x1), (.long x2)] ∧ Z.Warmed39 U.vm ∧ U.heap = h0) (fun _ _ _ _ _ => True) (fun _ U o U' => ∃ v L, o = .returned v ∧ Q4 Z a x1 x2 u_rows u_columns h0 n0 v U'.heap L ∧ FrameEnd U o U' L ({ frames := 0, cells := 0, slots := 0, locals := 0 } : Room).cells ({ frames := 0, cells := 0, slots := 0, locals := 0 } : Room).slots) := by
  refine MetFree.of_bodySF (plainFor_of_name pn_1) hisR ?_
  intro p e s m args below meth c s₁ Bd hml0 hP hK
  obtain ⟨rfl, hZ, hh⟩ := hP
  have hx := Bd.exec
  have hby := Bd.bytes
  have hml : c.maxLocals = 5 := hml0
  have hown : s.vm.findClass "com/example/crownfield/crownfield/search/Step" = some m.cls := findClass_of_methodNamed Bd.named
  have hnm := (name_of_methodNamed Bd.named Bd.method).1
  have X0 : Stand p l e ({ frames := 0, cells := 0, slots := 0, locals := 0 } : Room) s m #[(.ref a), (.long x1), (.long x2)] below meth c s₁ [] 0 0 := Stand.of_body Bd
  have e0 : s₁.heap = h0 := by rw [← hh, Bd.state]; rfl
  have N0 := Fr.nil n0
  have pre0 : ∀ t, Steps p.tables e below (s₁.setTop (mkF m 0 #[.val (.ref a), .val (.long x1), .second, .val (.long x2), .second] [])) t → Steps p.tables e below (s₁.setTop (entryFrame m #[(.ref a), (.long x1), (.long x2)] 5)) t := fun t k => castTop (ef_4 m a x1 x2) k
  have pre1 : ∀ t, Steps p.tables e below (s₁.setTop (mkF m 1 #[.val (.ref a), .val (.long x1), .second, .val (.long x2), .second] [(.ref a)])) t → Steps p.tables e below (s₁.setTop (entryFrame m #[(.ref a), (.long x1), (.long x2)] 5)) t := fun t k => pre0 t (by
    show Steps p.tables e below (s₁.setTop (mkF m 0 #[.val (.ref a), .val (.long x1), .second, .val (.long x2), .second] [])) _
    refine XS.aloadN X0.here hx rfl (hb hby d4_0) rfl rfl ?_
    show Steps p.tables e below (s₁.setTop (mkF m 1 #[.val (.ref a), .val (.long x1), .second, .val (.long x2), .second] [(.ref a)])) _
    exact k)
  obtain ⟨T2, X2, e2, st2⟩ := getF X0 hx hZ hown (host := "") (Or.inl (hw _ (List.mem_of_getElem? (i := 17) rfl))) Via.refl e0 F_columns (g := (mkF m 1 #[.val (.ref a), .val (.long x1), .second, .val (.long x2), .second] [(.ref a)])) rfl rfl (hb hby d4_1)
  have pre3 : ∀ t, Steps p.tables e below (T2.setTop (mkF m 4 #[.val (.ref a), .val (.long x1), .second, .val (.long x2), .second] [(.int u_columns)])) t → Steps p.tables e below (s₁.setTop (entryFrame m #[(.ref a), (.long x1), (.long x2)] 5)) t := fun t k => pre1 t (st2 _ k)
  have pre4 : ∀ t, Steps p.tables e below (T2.setTop (mkF m 8 #[.val (.ref a), .val (.long x1), .second, .val (.long x2), .second] [(.ref a), (.long ((u_columns.toInt64) * x1))])) t → Steps p.tables e below (s₁.setTop (entryFrame m #[(.ref a), (.long x1), (.long x2)] 5)) t := fun t k => pre3 t (by
    show Steps p.tables e below (T2.setTop (mkF m 4 #[.val (.ref a), .val (.long x1), .second, .val (.long x2), .second] [(.int u_columns)])) _
    refine XS.i2l X2.here hx rfl (hb hby d4_4) rfl ?_
    show Steps p.tables e below (T2.setTop (mkF m 5 #[.val (.ref a), .val (.long x1), .second, .val (.long x2), .second] [(.long (u_columns.toInt64))])) _
    refine XS.lloadN X2.here hx rfl (hb hby d4_5) rfl ?_
    show Steps p.tables e below (T2.setTop (mkF m 6 #[.val (.ref a), .val (.long x1), .second, .val (.long x2), .second] [(.long x1), (.long (u_columns.toInt64))])) _
    refine XS.lmul X2.here hx rfl (hb hby d4_6) rfl ?_
    show Steps p.tables e below (T2.setTop (mkF m 7 #[.val (.ref a), .val (.long x1), .second, .val (.long x2), .second] [(.long ((u_columns.toInt64) * x1))])) _
    refine XS.aloadN X2.here hx rfl (hb hby d4_7) rfl rfl ?_
    show Steps p.tables e below (T2.setTop (mkF m 8 #[.val (.ref a), .val (.long x1), .second, .val (.long x2), .second] [(.ref a), (.long ((u_columns.toInt64) * x1))])) _
    exact k)
  obtain ⟨T5, X5, e5, st5⟩ := getF X2 hx hZ hown (host := "") (Or.inl (hw _ (List.mem_of_getElem? (i := 15) rfl))) Via.refl e2 F_rows (g := (mkF m 8 #[.val (.ref a), .val (.long x1), .second, .val (.long x2), .second] [(.ref a), (.long ((u_columns.toInt64) * x1))])) rfl rfl (hb hby d4_8)
  have pre6 : ∀ t, Steps p.tables e below (T5.setTop (mkF m 11 #[.val (.ref a), .val (.long x1), .second, .val (.long x2), .second] [(.int u_rows), (.long ((u_columns.toInt64) * x1))])) t → Steps p.tables e below (s₁.setTop (entryFrame m #[(.ref a), (.long x1), (.long x2)] 5)) t := fun t k => pre4 t (st5 _ k)
  have pre7 : ∀ t, Steps p.tables e below (T5.setTop (mkF m 15 #[.val (.ref a), .val (.long x1), .second, .val (.long x2), .second] [(.long (((u_columns.toInt64) * x1) - ((u_rows.toInt64) * x2)))])) t → Steps p.tables e below (s₁.setTop (entryFrame m #[(.ref a), (.long x1), (.long x2)] 5)) t := fun t k => pre6 t (by
    show Steps p.tables e below (T5.setTop (mkF m 11 #[.val (.ref a), .val (.long x1), .second, .val (.long x2), .second] [(.int u_rows), (.long ((u_columns.toInt64) * x1))])) _
    refine XS.i2l X5.here hx rfl (hb hby d4_11) rfl ?_
    show Steps p.tables e below (T5.setTop (mkF m 12 #[.val (.ref a), .val (.long x1), .second, .val (.long x2), .second] [(.long (u_rows.toInt64)), (.long ((u_columns.toInt64) * x1))])) _
    refine XS.lloadN X5.here hx rfl (hb hby d4_12) rfl ?_
    show Steps p.tables e below (T5.setTop (mkF m 13 #[.val (.ref a), .val (.long x1), .second, .val (.long x2), .second] [(.long x2), (.long (u_rows.toInt64)), (.long ((u_columns.toInt64) * x1))])) _
    refine XS.lmul X5.here hx rfl (hb hby d4_13) rfl ?_
    show Steps p.tables e below (T5.setTop (mkF m 14 #[.val (.ref a), .val (.long x1), .second, .val (.long x2), .second] [(.long ((u_rows.toInt64) * x2)), (.long ((u_columns.toInt64) * x1))])) _
    refine XS.lsub X5.here hx rfl (hb hby d4_14) rfl ?_
    show Steps p.tables e below (T5.setTop (mkF m 15 #[.val (.ref a), .val (.long x1), .second, .val (.long x2), .second] [(.long (((u_columns.toInt64) * x1) - ((u_rows.toInt64) * x2)))])) _
    exact k)
  obtain ⟨fs, hr, hrun, hended, hW, hsame⟩ := X5.leave (v := some (.long (((u_columns.toInt64) * x1) - ((u_rows.toInt64) * x2)))) (fun h => by rw [Bd.returns] at h; cases h)
  refine ⟨_, _, pre7 _ ?_, hrun, hended, _, _, rfl, ?_, ⟨_, rfl⟩, hW, hsame.mono (by decide) (by decide)⟩
  · show Steps p.tables e below (T5.setTop (mkF m 15 #[.val (.ref a), .val (.long x1), .second, .val (.long x2), .second] [(.long (((u_columns.toInt64) * x1) - ((u_rows.toInt64) * x2)))])) _
    exact X5.lreturnOut hx Bd.returns (hb hby d4_15) hr
  · show Q4 Z a x1 x2 u_rows u_columns h0 n0 _ T5.heap _
    rw [e5]
    exact ⟨_, rfl, N0, rfl, by rw [F4]⟩
theorem pd_1 : parseMethodDescriptor "(II)V" = some ⟨[.int, .int], none⟩ := by decide +kernel
theorem pd_2 : parseMethodDescriptor "(JJ)J" = some ⟨[.long, .long], some .long⟩ := by decide +kernel
set_option maxHeartbeats 8000000 in
theorem own_fin (x0 : Int32) (x1 : Int32) (x2 : Int64) (x3 : Int64) (x4 : Int64) (x5 : Int64) (v1 : Int32) (r14 : Int64) (v17 : Int32) (r21 : Int64) (v24 : Int32) (r28 : Int64) (r32 : Int64) (r36 : Int64) (v39 : Int32) (r43 : Int64) (v46 : Int32) (r50 : Int64) (r54 : Int64) (v57 : Int32) (v64 : Int32) (hv1 : v1 = (x0 &&& (2147483647 : Int32))) (P14 : r14 = F4 (1 : Int64) (0 : Int64) v1 x1) (hv17 : v17 = (if r14 = (x1.toInt64) then (1 : Int32) else (0 : Int32))) (P21 : r21 = F4 (0 : Int64) (1 : Int64) v1 x1) (hv24 : v24 = (if r21 = (-(v1.toInt64)) then (1 : Int32) else (0 : Int32))) (P28 : r28 = F4 (x2 + x4) (x3 + x5) v1 x1) (P32 : r32 = F4 x2 x3 v1 x1) (P36 : r36 = F4 x4 x5 v1 x1) (hv39 : v39 = (if r28 = (r32 + r36) then (1 : Int32) else (0 : Int32))) (P43 : r43 = F4 (v1.toInt64) (x1.toInt64) v1 x1) (hv46 : v46 = (if r43 = (0 : Int64) then (1 : Int32) else (0 : Int32))) (P50 : r50 = F4 (x2 + (v1.toInt64)) (x3 + (x1.toInt64)) v1 x1) (P54 : r54 = F4 x2 x3 v1 x1) (hv57 : v57 = (if r50 = r54 then (1 : Int32) else (0 : Int32))) (hv64 : v64 = (if v17 = (0 : Int32) then (0 : Int32) else (if v24 = (0 : Int32) then (0 : Int32) else (if v39 = (0 : Int32) then (0 : Int32) else (if v46 = (0 : Int32) then (0 : Int32) else (if v57 = (0 : Int32) then (0 : Int32) else (1 : Int32))))))) : v64 = (1 : Int32) := by
  unfold F4 at P14 P21 P28 P32 P36 P43 P50 P54
  rw [own_r1] at P14
  rw [own_r2] at P21
  rw [own_r3, ← P32, ← P36] at P28
  rw [own_r4] at P43
  rw [own_r5, ← P54] at P50
  rw [if_pos P14] at hv17
  rw [if_pos P21] at hv24
  rw [if_pos P28] at hv39
  rw [if_pos P43] at hv46
  rw [if_pos P50] at hv57
  subst hv17 hv24 hv39 hv46 hv57
  rw [hv64]; decide
theorem pn_2 : plainName "com/example/crownfield/crownfield/search/StepLinePinLaw" = true := by first | (simp [plainName, overriddenIn]; done) | decide +kernel
theorem ef_0 (m : MethodId) (x0 : Int32) (x1 : Int32) (x2 : Int64) (x3 : Int64) (x4 : Int64) (x5 : Int64) : entryFrame m #[(.int x0), (.int x1), (.long x2), (.long x3), (.long x4), (.long x5)] maxLocals = mkF m 0 #[.val (.int x0), .val (.int x1), .val (.long x2), .second, .val (.long x3), .second, .val (.long x4), .second, .val (.long x5), .second, .unset, .unset, .unset, .unset, .unset, .unset, .unset] [] := by first | (simp [entryFrame, mkF, argsToLocals, Value.category, maxLocals]; done) | rfl
def Q0 (Z : State) (x0 : Int32) (x1 : Int32) (x2 : Int64) (x3 : Int64) (x4 : Int64) (x5 : Int64) (h0 : Heap) (n0 : Nat) (v : Option Value) (h : Heap) (L : List Loc) : Prop := v = some (.int 1) ∧ Fr n0 L
set_option maxRecDepth 65536 in
set_option maxHeartbeats 40000000 in
theorem rm0 (l : Launch) (Z : State) (a0 : Array Value) (hw : ∀ d ∈ tables_1, d.before a0 Z = true) (ws : List Jvm.Cond) (x0 : Int32) (x1 : Int32) (x2 : Int64) (x3 : Int64) (x4 : Int64) (x5 : Int64) (h0 : Heap) (n0 : Nat) (Z0 : n0 ≤ h0.size) :
    MetFree l x (head1 (Jvm.Cond.code x code maxLocals ret :: ws) room_1) (fun aa U => aa = #[(.int x0), (.int x1), (.long x2), (.long x3), (.long x4), (.long x5)] ∧ Z.Warmed39 U.vm ∧ U.heap = h0) (fun _ _ _ _ _ => True) (fun _ U o U' => ∃ v L, o = .returned v ∧ Q0 Z x0 x1 x2 x3 x4 x5 h0 n0 v U'.heap L ∧ FrameEnd U o U' L room_1.cells room_1.slots) := by
  refine MetFree.of_bodySF (plainFor_of_name pn_2) hisR ?_
  intro p e s m args below meth c s₁ Bd hml0 hP hK
  obtain ⟨rfl, hZ, hh⟩ := hP
  have hx := Bd.exec
  have hby := Bd.bytes
  have hml : c.maxLocals = 17 := hml0
  have hown : s.vm.findClass "com/example/crownfield/crownfield/search/StepLinePinLaw" = some m.cls := findClass_of_methodNamed Bd.named
  have hnm := (name_of_methodNamed Bd.named Bd.method).1
  have X0 : Stand p l e room_1 s m #[(.int x0), (.int x1), (.long x2), (.long x3), (.long x4), (.long x5)] below meth c s₁ [] 0 0 := Stand.of_body Bd
  have e0 : s₁.heap = h0 := by rw [← hh, Bd.state]; rfl
  have N0 := Fr.nil n0
  have pre0 : ∀ t, Steps p.tables e below (s₁.setTop (mkF m 0 #[.val (.int x0), .val (.int x1), .val (.long x2), .second, .val (.long x3), .second, .val (.long x4), .second, .val (.long x5), .second, .unset, .unset, .unset, .unset, .unset, .unset, .unset] [])) t → Steps p.tables e below (s₁.setTop (entryFrame m #[(.int x0), (.int x1), (.long x2), (.long x3), (.long x4), (.long x5)] maxLocals)) t := fun t k => castTop (ef_0 m x0 x1 x2 x3 x4 x5) k
  obtain ⟨v1, hv1⟩ : ∃ z : Int32, z = (x0 &&& (2147483647 : Int32)) := ⟨_, rfl⟩
  have pre2 : ∀ t, Steps p.tables e below (s₁.setTop (mkF m 6 #[.val (.int x0), .val (.int x1), .val (.long x2), .second, .val (.long x3), .second, .val (.long x4), .second, .val (.long x5), .second, .val (.int v1), .unset, .unset, .unset, .unset, .unset, .unset] [])) t → Steps p.tables e below (s₁.setTop (entryFrame m #[(.int x0), (.int x1), (.long x2), (.long x3), (.long x4), (.long x5)] maxLocals)) t := fun t k => pre0 t (by
    subst hv1
    show Steps p.tables e below (s₁.setTop (mkF m 0 #[.val (.int x0), .val (.int x1), .val (.long x2), .second, .val (.long x3), .second, .val (.long x4), .second, .val (.long x5), .second, .unset, .unset, .unset, .unset, .unset, .unset, .unset] [])) _
    refine XS.iloadN X0.here hx rfl (hb hby at_0) rfl ?_
    show Steps p.tables e below (s₁.setTop (mkF m 1 #[.val (.int x0), .val (.int x1), .val (.long x2), .second, .val (.long x3), .second, .val (.long x4), .second, .val (.long x5), .second, .unset, .unset, .unset, .unset, .unset, .unset, .unset] [(.int x0)])) _
    refine X0.ldcInt hx hown (mvT hZ (hw _ (List.mem_of_getElem? (i := 0) rfl))) (g := (mkF m 1 #[.val (.int x0), .val (.int x1), .val (.long x2), .second, .val (.long x3), .second, .val (.long x4), .second, .val (.long x5), .second, .unset, .unset, .unset, .unset, .unset, .unset, .unset] [(.int x0)])) rfl (hb hby at_1) _ ?_
    show Steps p.tables e below (s₁.setTop (mkF m 3 #[.val (.int x0), .val (.int x1), .val (.long x2), .second, .val (.long x3), .second, .val (.long x4), .second, .val (.long x5), .second, .unset, .unset, .unset, .unset, .unset, .unset, .unset] [(.int (2147483647 : Int32)), (.int x0)])) _
    refine XS.iand X0.here hx rfl (hb hby at_3) rfl ?_
    show Steps p.tables e below (s₁.setTop (mkF m 4 #[.val (.int x0), .val (.int x1), .val (.long x2), .second, .val (.long x3), .second, .val (.long x4), .second, .val (.long x5), .second, .unset, .unset, .unset, .unset, .unset, .unset, .unset] [(.int (x0 &&& (2147483647 : Int32)))])) _
    refine XS.istore X0.here hx rfl (hb hby at_4) rfl (l' := #[.val (.int x0), .val (.int x1), .val (.long x2), .second, .val (.long x3), .second, .val (.long x4), .second, .val (.long x5), .second, .val (.int (x0 &&& (2147483647 : Int32))), .unset, .unset, .unset, .unset, .unset, .unset]) rfl ?_
    show Steps p.tables e below (s₁.setTop (mkF m 6 #[.val (.int x0), .val (.int x1), .val (.long x2), .second, .val (.long x3), .second, .val (.long x4), .second, .val (.long x5), .second, .val (.int (x0 &&& (2147483647 : Int32))), .unset, .unset, .unset, .unset, .unset, .unset] [])) _
    exact k)
  obtain ⟨T3, h3, X3, e3, E3, A3, D3, -, st3⟩ := newO X0 hx hZ hown (hw _ (List.mem_of_getElem? (i := 1) rfl)) (hw _ (List.mem_of_getElem? (i := 2) rfl)) (hw _ (List.mem_of_getElem? (i := 3) rfl)) e0 (g := (mkF m 6 #[.val (.int x0), .val (.int x1), .val (.long x2), .second, .val (.long x3), .second, .val (.long x4), .second, .val (.long x5), .second, .val (.int v1), .unset, .unset, .unset, .unset, .unset, .unset] [])) rfl (hb hby at_6) (by decide) (by decide)
  obtain ⟨b3, g3⟩ : ∃ z, z = h0.size := ⟨_, rfl⟩
  rw [← g3] at A3 D3 st3
  have g_b3 : n0 ≤ b3 := Nat.le_trans Z0 (Nat.le_of_eq g3.symm)
  have Zz3 : n0 ≤ h3.size := Nat.le_trans Z0 E3.1
  have F_rows_b3 : Fld Z h3 b3 "com/example/crownfield/crownfield/search/Step" "rows" "I" (.int (0 : Int32)) := D3 (Or.inr (hw _ (List.mem_of_getElem? (i := 16) rfl))) (ty := .int) (by decide)
  have F_columns_b3 : Fld Z h3 b3 "com/example/crownfield/crownfield/search/Step" "columns" "I" (.int (0 : Int32)) := D3 (Or.inr (hw _ (List.mem_of_getElem? (i := 18) rfl))) (ty := .int) (by decide)
  have pre4 : ∀ t, Steps p.tables e below (T3.setTop (mkF m 9 #[.val (.int x0), .val (.int x1), .val (.long x2), .second, .val (.long x3), .second, .val (.long x4), .second, .val (.long x5), .second, .val (.int v1), .unset, .unset, .unset, .unset, .unset, .unset] [(.ref b3)])) t → Steps p.tables e below (s₁.setTop (entryFrame m #[(.int x0), (.int x1), (.long x2), (.long x3), (.long x4), (.long x5)] maxLocals)) t := fun t k => pre2 t (st3 _ k)
  have pre5 : ∀ t, Steps p.tables e below (T3.setTop (mkF m 13 #[.val (.int x0), .val (.int x1), .val (.long x2), .second, .val (.long x3), .second, .val (.long x4), .second, .val (.long x5), .second, .val (.int v1), .unset, .unset, .unset, .unset, .unset, .unset] [(.int x1), (.int v1), (.ref b3), (.ref b3)])) t → Steps p.tables e below (s₁.setTop (entryFrame m #[(.int x0), (.int x1), (.long x2), (.long x3), (.long x4), (.long x5)] maxLocals)) t := fun t k => pre4 t (by
    show Steps p.tables e below (T3.setTop (mkF m 9 #[.val (.int x0), .val (.int x1), .val (.long x2), .second, .val (.long x3), .second, .val (.long x4), .second, .val (.long x5), .second, .val (.int v1), .unset, .unset, .unset, .unset, .unset, .unset] [(.ref b3)])) _
    refine XS.dup X3.here hx rfl (hb hby at_9) rfl rfl ?_
    show Steps p.tables e below (T3.setTop (mkF m 10 #[.val (.int x0), .val (.int x1), .val (.long x2), .second, .val (.long x3), .second, .val (.long x4), .second, .val (.long x5), .second, .val (.int v1), .unset, .unset, .unset, .unset, .unset, .unset] [(.ref b3), (.ref b3)])) _
    refine XS.iload X3.here hx rfl (hb hby at_10) rfl ?_
    show Steps p.tables e below (T3.setTop (mkF m 12 #[.val (.int x0), .val (.int x1), .val (.long x2), .second, .val (.long x3), .second, .val (.long x4), .second, .val (.long x5), .second, .val (.int v1), .unset, .unset, .unset, .unset, .unset, .unset] [(.int v1), (.ref b3), (.ref b3)])) _
    refine XS.iloadN X3.here hx rfl (hb hby at_12) rfl ?_
    show Steps p.tables e below (T3.setTop (mkF m 13 #[.val (.int x0), .val (.int x1), .val (.long x2), .second, .val (.long x3), .second, .val (.long x4), .second, .val (.long x5), .second, .val (.int v1), .unset, .unset, .unset, .unset, .unset, .unset] [(.int x1), (.int v1), (.ref b3), (.ref b3)])) _
    exact k)
  obtain ⟨_, _, ⟨T7, L7, k7, n7⟩, -, X7, ⟨Lc7, hQ7, l7, y7, z7⟩, st7⟩ := X3.specialBack hx (y := (⟨"com/example/crownfield/crownfield/search/Step", "<init>", "(II)V"⟩ : MethodName)) rfl hown (mvT hZ (hw _ (List.mem_of_getElem? (i := 4) rfl))) (mvT hZ (hw _ (List.mem_of_getElem? (i := 5) rfl))) (mvT hZ (hw _ (List.mem_of_getElem? (i := 6) rfl))) (by decide) (backOf (W := 1) (rm1 l Z a0 hw [] b3 v1 x1   h3 n0 Zz3 A3 F_rows_b3 F_columns_b3 g_b3) hZ (hw _ (List.mem_of_getElem? (i := 6) rfl)) (hw _ (List.mem_of_getElem? (i := 3) rfl)) (by decide) (by decide)) (g := (mkF m 13 #[.val (.int x0), .val (.int x1), .val (.long x2), .second, .val (.long x3), .second, .val (.long x4), .second, .val (.long x5), .second, .val (.int v1), .unset, .unset, .unset, .unset, .unset, .unset] [(.int x1), (.int v1), (.ref b3), (.ref b3)])) rfl (by rw [hml]; rfl) (Steps.refl _) (a := b3) (argsL := [(.int v1), (.int x1)]) (rest := [(.ref b3)]) (lenOf pd_1 rfl) rfl (by show 2 * 0 + _ ≤ _; exact Nat.le_of_eq rfl) (hb hby at_13) (fun _ _ => ⟨rfl, e3, (by decide : 1 + 0 ≤ _), (by decide : 2 + 0 ≤ _)⟩)
  dsimp only [Pt.U, Pt.locs, Pt.cells, Pt.slots] at X7 l7 y7 z7 st7 hQ7
  subst l7 y7 z7
  obtain ⟨rfl, N7q, K7, Ec7, Fc7_rows, Fc7_columns⟩ := hQ7
  have N7 := Fr.app N0 N7q
  have pre8 : ∀ t, Steps p.tables e below (T7.setTop (mkF m 16 #[.val (.int x0), .val (.int x1), .val (.long x2), .second, .val (.long x3), .second, .val (.long x4), .second, .val (.long x5), .second, .val (.int v1), .unset, .unset, .unset, .unset, .unset, .unset] [(.ref b3)])) t → Steps p.tables e below (s₁.setTop (entryFrame m #[(.int x0), (.int x1), (.long x2), (.long x3), (.long x4), (.long x5)] maxLocals)) t := fun t k => pre5 t (st7.trans k)
  have Zz7 : n0 ≤ T7.heap.size := Nat.le_trans Zz3 K7.1
  have c9 := (A3).keep K7
  have pre12 : ∀ t, Steps p.tables e below (T7.setTop (mkF m 22 #[.val (.int x0), .val (.int x1), .val (.long x2), .second, .val (.long x3), .second, .val (.long x4), .second, .val (.long x5), .second, .val (.int v1), .val (.ref b3), .unset, .unset, .unset, .unset, .unset] [(.long (0 : Int64)), (.long (1 : Int64)), (.ref b3)])) t → Steps p.tables e below (s₁.setTop (entryFrame m #[(.int x0), (.int x1), (.long x2), (.long x3), (.long x4), (.long x5)] maxLocals)) t := fun t k => pre8 t (by
    show Steps p.tables e below (T7.setTop (mkF m 16 #[.val (.int x0), .val (.int x1), .val (.long x2), .second, .val (.long x3), .second, .val (.long x4), .second, .val (.long x5), .second, .val (.int v1), .unset, .unset, .unset, .unset, .unset, .unset] [(.ref b3)])) _
    refine XS.astore X7.here hx rfl (hb hby at_16) rfl rfl (l' := #[.val (.int x0), .val (.int x1), .val (.long x2), .second, .val (.long x3), .second, .val (.long x4), .second, .val (.long x5), .second, .val (.int v1), .val (.ref b3), .unset, .unset, .unset, .unset, .unset]) rfl ?_
    show Steps p.tables e below (T7.setTop (mkF m 18 #[.val (.int x0), .val (.int x1), .val (.long x2), .second, .val (.long x3), .second, .val (.long x4), .second, .val (.long x5), .second, .val (.int v1), .val (.ref b3), .unset, .unset, .unset, .unset, .unset] [])) _
    refine XS.aload X7.here hx rfl (hb hby at_18) rfl rfl ?_
    show Steps p.tables e below (T7.setTop (mkF m 20 #[.val (.int x0), .val (.int x1), .val (.long x2), .second, .val (.long x3), .second, .val (.long x4), .second, .val (.long x5), .second, .val (.int v1), .val (.ref b3), .unset, .unset, .unset, .unset, .unset] [(.ref b3)])) _
    refine XS.lconst X7.here hx rfl (hb hby at_20) ?_
    show Steps p.tables e below (T7.setTop (mkF m 21 #[.val (.int x0), .val (.int x1), .val (.long x2), .second, .val (.long x3), .second, .val (.long x4), .second, .val (.long x5), .second, .val (.int v1), .val (.ref b3), .unset, .unset, .unset, .unset, .unset] [(.long (1 : Int64)), (.ref b3)])) _
    refine XS.lconst X7.here hx rfl (hb hby at_21) ?_
    show Steps p.tables e below (T7.setTop (mkF m 22 #[.val (.int x0), .val (.int x1), .val (.long x2), .second, .val (.long x3), .second, .val (.long x4), .second, .val (.long x5), .second, .val (.int v1), .val (.ref b3), .unset, .unset, .unset, .unset, .unset] [(.long (0 : Int64)), (.long (1 : Int64)), (.ref b3)])) _
    exact k)
  obtain ⟨cq14, kq14, q14a, q14b, q14c⟩ := isOf hZ rfl Ec7
  obtain ⟨_, _, ⟨T14, L14, k14, n14⟩, -, X14, ⟨Lc14, hQ14, l14, y14, z14⟩, st14⟩ := X7.virtualBack hx (y := (⟨"com/example/crownfield/crownfield/search/Step", "line", "(JJ)J"⟩ : MethodName)) (z := (⟨"com/example/crownfield/crownfield/search/Step", "line", "(JJ)J"⟩ : MethodName)) hown (mvT hZ (hw _ (List.mem_of_getElem? (i := 19) rfl))) (mvT hZ (hw _ (List.mem_of_getElem? (i := 20) rfl))) (notFace_of_selects (args := #[]) (mvT hZ (hw _ (List.mem_of_getElem? (i := 22) rfl)))) (mvT hZ (hw _ (List.mem_of_getElem? (i := 22) rfl))) (mvT hZ (hw _ (List.mem_of_getElem? (i := 21) rfl))) (by decide) (backOf (W := 0) (rm4 l Z a0 hw [] b3 (1 : Int64) (0 : Int64) v1 x1 T7.heap n0 Zz7 Fc7_rows Fc7_columns) hZ (hw _ (List.mem_of_getElem? (i := 23) rfl)) (hw _ (List.mem_of_getElem? (i := 3) rfl)) (by decide) (by decide)) q14a q14c (g := (mkF m 22 #[.val (.int x0), .val (.int x1), .val (.long x2), .second, .val (.long x3), .second, .val (.long x4), .second, .val (.long x5), .second, .val (.int v1), .val (.ref b3), .unset, .unset, .unset, .unset, .unset] [(.long (0 : Int64)), (.long (1 : Int64)), (.ref b3)])) rfl (by rw [hml]; rfl) (Steps.refl _) (argsL := [(.long (1 : Int64)), (.long (0 : Int64))]) (rest := []) (lenOf pd_2 rfl) rfl (by show 2 * 0 + _ ≤ _; exact Nat.le_of_eq rfl) (hb hby at_22) (fun _ _ => ⟨rfl, rfl, (by decide : 1 + 0 ≤ _), (by decide : 2 + 0 ≤ _)⟩)
  dsimp only [Pt.U, Pt.locs, Pt.cells, Pt.slots] at X14 l14 y14 z14 st14 hQ14
  subst l14 y14 z14
  obtain ⟨r14, rfl, N14q, e14, P14⟩ := hQ14
  have N14 := Fr.app N7 N14q
  have pre15 : ∀ t, Steps p.tables e below (T14.setTop (mkF m 25 #[.val (.int x0), .val (.int x1), .val (.long x2), .second, .val (.long x3), .second, .val (.long x4), .second, .val (.long x5), .second, .val (.int v1), .val (.ref b3), .unset, .unset, .unset, .unset, .unset] [(.long r14)])) t → Steps p.tables e below (s₁.setTop (entryFrame m #[(.int x0), (.int x1), (.long x2), (.long x3), (.long x4), (.long x5)] maxLocals)) t := fun t k => pre12 t (st14.trans k)
  obtain ⟨v17, hv17⟩ : ∃ z : Int32, z = (if r14 = (x1.toInt64) then (1 : Int32) else (0 : Int32)) := ⟨_, rfl⟩
  have pre18 : ∀ t, Steps p.tables e below (T14.setTop (mkF m 36 #[.val (.int x0), .val (.int x1), .val (.long x2), .second, .val (.long x3), .second, .val (.long x4), .second, .val (.long x5), .second, .val (.int v1), .val (.ref b3), .unset, .unset, .unset, .unset, .unset] [(.int v17)])) t → Steps p.tables e below (s₁.setTop (entryFrame m #[(.int x0), (.int x1), (.long x2), (.long x3), (.long x4), (.long x5)] maxLocals)) t := fun t k => pre15 t (by
    show Steps p.tables e below (T14.setTop (mkF m 25 #[.val (.int x0), .val (.int x1), .val (.long x2), .second, .val (.long x3), .second, .val (.long x4), .second, .val (.long x5), .second, .val (.int v1), .val (.ref b3), .unset, .unset, .unset, .unset, .unset] [(.long r14)])) _
    refine XS.iloadN X14.here hx rfl (hb hby at_25) rfl ?_
    show Steps p.tables e below (T14.setTop (mkF m 26 #[.val (.int x0), .val (.int x1), .val (.long x2), .second, .val (.long x3), .second, .val (.long x4), .second, .val (.long x5), .second, .val (.int v1), .val (.ref b3), .unset, .unset, .unset, .unset, .unset] [(.int x1), (.long r14)])) _
    refine XS.i2l X14.here hx rfl (hb hby at_26) rfl ?_
    show Steps p.tables e below (T14.setTop (mkF m 27 #[.val (.int x0), .val (.int x1), .val (.long x2), .second, .val (.long x3), .second, .val (.long x4), .second, .val (.long x5), .second, .val (.int v1), .val (.ref b3), .unset, .unset, .unset, .unset, .unset] [(.long (x1.toInt64)), (.long r14)])) _
    refine XS.lcmp X14.here hx rfl (hb hby at_27) rfl ?_
    show Steps p.tables e below (T14.setTop (mkF m 28 #[.val (.int x0), .val (.int x1), .val (.long x2), .second, .val (.long x3), .second, .val (.long x4), .second, .val (.long x5), .second, .val (.int v1), .val (.ref b3), .unset, .unset, .unset, .unset, .unset] [(.int (lcmpW r14 (x1.toInt64)))])) _
    by_cases hc16 : r14 = (x1.toInt64)
    · skip
      refine XS.ifNo X14.here hx rfl (hb hby at_28) rfl ((if0 _ _).trans (teq ((lw_eq _ _).mpr hc16)).2) ?_
      show Steps p.tables e below (T14.setTop (mkF m 31 #[.val (.int x0), .val (.int x1), .val (.long x2), .second, .val (.long x3), .second, .val (.long x4), .second, .val (.long x5), .second, .val (.int v1), .val (.ref b3), .unset, .unset, .unset, .unset, .unset] [])) _
      refine XS.iconst X14.here hx rfl (hb hby at_31) ?_
      show Steps p.tables e below (T14.setTop (mkF m 32 #[.val (.int x0), .val (.int x1), .val (.long x2), .second, .val (.long x3), .second, .val (.long x4), .second, .val (.long x5), .second, .val (.int v1), .val (.ref b3), .unset, .unset, .unset, .unset, .unset] [(.int (1 : Int32))])) _
      refine XS.goto X14.here hx rfl (pc0 := 32) (pc' := 36) rfl (hb hby at_32) (by decide) (by decide) ?_
      show Steps p.tables e below (T14.setTop (mkF m 36 #[.val (.int x0), .val (.int x1), .val (.long x2), .second, .val (.long x3), .second, .val (.long x4), .second, .val (.long x5), .second, .val (.int v1), .val (.ref b3), .unset, .unset, .unset, .unset, .unset] [(.int (1 : Int32))])) _
      rw [show v17 = (1 : Int32) from by rw [hv17, if_pos hc16]] at k
      exact k
    · skip
      refine XS.ifYes X14.here hx rfl (pc0 := 28) (pc' := 35) rfl (hb hby at_28) rfl ((if0 _ _).trans (feq (fun q => hc16 ((lw_eq _ _).mp q))).2) (by decide) (by decide) ?_
      show Steps p.tables e below (T14.setTop (mkF m 35 #[.val (.int x0), .val (.int x1), .val (.long x2), .second, .val (.long x3), .second, .val (.long x4), .second, .val (.long x5), .second, .val (.int v1), .val (.ref b3), .unset, .unset, .unset, .unset, .unset] [])) _
      refine XS.iconst X14.here hx rfl (hb hby at_35) ?_
      show Steps p.tables e below (T14.setTop (mkF m 36 #[.val (.int x0), .val (.int x1), .val (.long x2), .second, .val (.long x3), .second, .val (.long x4), .second, .val (.long x5), .second, .val (.int v1), .val (.ref b3), .unset, .unset, .unset, .unset, .unset] [(.int (0 : Int32))])) _
      rw [show v17 = (0 : Int32) from by rw [hv17, if_neg hc16]] at k
      exact k)
  have pre19 : ∀ t, Steps p.tables e below (T14.setTop (mkF m 42 #[.val (.int x0), .val (.int x1), .val (.long x2), .second, .val (.long x3), .second, .val (.long x4), .second, .val (.long x5), .second, .val (.int v1), .val (.ref b3), .val (.int v17), .unset, .unset, .unset, .unset] [(.long (1 : Int64)), (.long (0 : Int64)), (.ref b3)])) t → Steps p.tables e below (s₁.setTop (entryFrame m #[(.int x0), (.int x1), (.long x2), (.long x3), (.long x4), (.long x5)] maxLocals)) t := fun t k => pre18 t (by
    show Steps p.tables e below (T14.setTop (mkF m 36 #[.val (.int x0), .val (.int x1), .val (.long x2), .second, .val (.long x3), .second, .val (.long x4), .second, .val (.long x5), .second, .val (.int v1), .val (.ref b3), .unset, .unset, .unset, .unset, .unset] [(.int v17)])) _
    refine XS.istore X14.here hx rfl (hb hby at_36) rfl (l' := #[.val (.int x0), .val (.int x1), .val (.long x2), .second, .val (.long x3), .second, .val (.long x4), .second, .val (.long x5), .second, .val (.int v1), .val (.ref b3), .val (.int v17), .unset, .unset, .unset, .unset]) rfl ?_
    show Steps p.tables e below (T14.setTop (mkF m 38 #[.val (.int x0), .val (.int x1), .val (.long x2), .second, .val (.long x3), .second, .val (.long x4), .second, .val (.long x5), .second, .val (.int v1), .val (.ref b3), .val (.int v17), .unset, .unset, .unset, .unset] [])) _
    refine XS.aload X14.here hx rfl (hb hby at_38) rfl rfl ?_
    show Steps p.tables e below (T14.setTop (mkF m 40 #[.val (.int x0), .val (.int x1), .val (.long x2), .second, .val (.long x3), .second, .val (.long x4), .second, .val (.long x5), .second, .val (.int v1), .val (.ref b3), .val (.int v17), .unset, .unset, .unset, .unset] [(.ref b3)])) _
    refine XS.lconst X14.here hx rfl (hb hby at_40) ?_
    show Steps p.tables e below (T14.setTop (mkF m 41 #[.val (.int x0), .val (.int x1), .val (.long x2), .second, .val (.long x3), .second, .val (.long x4), .second, .val (.long x5), .second, .val (.int v1), .val (.ref b3), .val (.int v17), .unset, .unset, .unset, .unset] [(.long (0 : Int64)), (.ref b3)])) _
    refine XS.lconst X14.here hx rfl (hb hby at_41) ?_
    show Steps p.tables e below (T14.setTop (mkF m 42 #[.val (.int x0), .val (.int x1), .val (.long x2), .second, .val (.long x3), .second, .val (.long x4), .second, .val (.long x5), .second, .val (.int v1), .val (.ref b3), .val (.int v17), .unset, .unset, .unset, .unset] [(.long (1 : Int64)), (.long (0 : Int64)), (.ref b3)])) _
    exact k)
  obtain ⟨cq21, kq21, q21a, q21b, q21c⟩ := isOf hZ e14 Ec7
  obtain ⟨_, _, ⟨T21, L21, k21, n21⟩, -, X21, ⟨Lc21, hQ21, l21, y21, z21⟩, st21⟩ := X14.virtualBack hx (y := (⟨"com/example/crownfield/crownfield/search/Step", "line", "(JJ)J"⟩ : MethodName)) (z := (⟨"com/example/crownfield/crownfield/search/Step", "line", "(JJ)J"⟩ : MethodName)) hown (mvT hZ (hw _ (List.mem_of_getElem? (i := 19) rfl))) (mvT hZ (hw _ (List.mem_of_getElem? (i := 20) rfl))) (notFace_of_selects (args := #[]) (mvT hZ (hw _ (List.mem_of_getElem? (i := 22) rfl)))) (mvT hZ (hw _ (List.mem_of_getElem? (i := 22) rfl))) (mvT hZ (hw _ (List.mem_of_getElem? (i := 21) rfl))) (by decide) (backOf (W := 0) (rm4 l Z a0 hw [] b3 (0 : Int64) (1 : Int64) v1 x1 T7.heap n0 Zz7 Fc7_rows Fc7_columns) hZ (hw _ (List.mem_of_getElem? (i := 23) rfl)) (hw _ (List.mem_of_getElem? (i := 3) rfl)) (by decide) (by decide)) q21a q21c (g := (mkF m 42 #[.val (.int x0), .val (.int x1), .val (.long x2), .second, .val (.long x3), .second, .val (.long x4), .second, .val (.long x5), .second, .val (.int v1), .val (.ref b3), .val (.int v17), .unset, .unset, .unset, .unset] [(.long (1 : Int64)), (.long (0 : Int64)), (.ref b3)])) rfl (by rw [hml]; rfl) (Steps.refl _) (argsL := [(.long (0 : Int64)), (.long (1 : Int64))]) (rest := []) (lenOf pd_2 rfl) rfl (by show 2 * 0 + _ ≤ _; exact Nat.le_of_eq rfl) (hb hby at_42) (fun _ _ => ⟨rfl, e14, (by decide : 1 + 0 ≤ _), (by decide : 2 + 0 ≤ _)⟩)
  dsimp only [Pt.U, Pt.locs, Pt.cells, Pt.slots] at X21 l21 y21 z21 st21 hQ21
  subst l21 y21 z21
  obtain ⟨r21, rfl, N21q, e21, P21⟩ := hQ21
  have N21 := Fr.app N14 N21q
  have pre22 : ∀ t, Steps p.tables e below (T21.setTop (mkF m 45 #[.val (.int x0), .val (.int x1), .val (.long x2), .second, .val (.long x3), .second, .val (.long x4), .second, .val (.long x5), .second, .val (.int v1), .val (.ref b3), .val (.int v17), .unset, .unset, .unset, .unset] [(.long r21)])) t → Steps p.tables e below (s₁.setTop (entryFrame m #[(.int x0), (.int x1), (.long x2), (.long x3), (.long x4), (.long x5)] maxLocals)) t := fun t k => pre19 t (st21.trans k)
  obtain ⟨v24, hv24⟩ : ∃ z : Int32, z = (if r21 = (-(v1.toInt64)) then (1 : Int32) else (0 : Int32)) := ⟨_, rfl⟩
  have pre25 : ∀ t, Steps p.tables e below (T21.setTop (mkF m 58 #[.val (.int x0), .val (.int x1), .val (.long x2), .second, .val (.long x3), .second, .val (.long x4), .second, .val (.long x5), .second, .val (.int v1), .val (.ref b3), .val (.int v17), .unset, .unset, .unset, .unset] [(.int v24)])) t → Steps p.tables e below (s₁.setTop (entryFrame m #[(.int x0), (.int x1), (.long x2), (.long x3), (.long x4), (.long x5)] maxLocals)) t := fun t k => pre22 t (by
    show Steps p.tables e below (T21.setTop (mkF m 45 #[.val (.int x0), .val (.int x1), .val (.long x2), .second, .val (.long x3), .second, .val (.long x4), .second, .val (.long x5), .second, .val (.int v1), .val (.ref b3), .val (.int v17), .unset, .unset, .unset, .unset] [(.long r21)])) _
    refine XS.iload X21.here hx rfl (hb hby at_45) rfl ?_
    show Steps p.tables e below (T21.setTop (mkF m 47 #[.val (.int x0), .val (.int x1), .val (.long x2), .second, .val (.long x3), .second, .val (.long x4), .second, .val (.long x5), .second, .val (.int v1), .val (.ref b3), .val (.int v17), .unset, .unset, .unset, .unset] [(.int v1), (.long r21)])) _
    refine XS.i2l X21.here hx rfl (hb hby at_47) rfl ?_
    show Steps p.tables e below (T21.setTop (mkF m 48 #[.val (.int x0), .val (.int x1), .val (.long x2), .second, .val (.long x3), .second, .val (.long x4), .second, .val (.long x5), .second, .val (.int v1), .val (.ref b3), .val (.int v17), .unset, .unset, .unset, .unset] [(.long (v1.toInt64)), (.long r21)])) _
    refine XS.lneg X21.here hx rfl (hb hby at_48) rfl ?_
    show Steps p.tables e below (T21.setTop (mkF m 49 #[.val (.int x0), .val (.int x1), .val (.long x2), .second, .val (.long x3), .second, .val (.long x4), .second, .val (.long x5), .second, .val (.int v1), .val (.ref b3), .val (.int v17), .unset, .unset, .unset, .unset] [(.long (-(v1.toInt64))), (.long r21)])) _
    refine XS.lcmp X21.here hx rfl (hb hby at_49) rfl ?_
    show Steps p.tables e below (T21.setTop (mkF m 50 #[.val (.int x0), .val (.int x1), .val (.long x2), .second, .val (.long x3), .second, .val (.long x4), .second, .val (.long x5), .second, .val (.int v1), .val (.ref b3), .val (.int v17), .unset, .unset, .unset, .unset] [(.int (lcmpW r21 (-(v1.toInt64))))])) _
    by_cases hc23 : r21 = (-(v1.toInt64))
    · skip
      refine XS.ifNo X21.here hx rfl (hb hby at_50) rfl ((if0 _ _).trans (teq ((lw_eq _ _).mpr hc23)).2) ?_
      show Steps p.tables e below (T21.setTop (mkF m 53 #[.val (.int x0), .val (.int x1), .val (.long x2), .second, .val (.long x3), .second, .val (.long x4), .second, .val (.long x5), .second, .val (.int v1), .val (.ref b3), .val (.int v17), .unset, .unset, .unset, .unset] [])) _
      refine XS.iconst X21.here hx rfl (hb hby at_53) ?_
      show Steps p.tables e below (T21.setTop (mkF m 54 #[.val (.int x0), .val (.int x1), .val (.long x2), .second, .val (.long x3), .second, .val (.long x4), .second, .val (.long x5), .second, .val (.int v1), .val (.ref b3), .val (.int v17), .unset, .unset, .unset, .unset] [(.int (1 : Int32))])) _
      refine XS.goto X21.here hx rfl (pc0 := 54) (pc' := 58) rfl (hb hby at_54) (by decide) (by decide) ?_
      show Steps p.tables e below (T21.setTop (mkF m 58 #[.val (.int x0), .val (.int x1), .val (.long x2), .second, .val (.long x3), .second, .val (.long x4), .second, .val (.long x5), .second, .val (.int v1), .val (.ref b3), .val (.int v17), .unset, .unset, .unset, .unset] [(.int (1 : Int32))])) _
      rw [show v24 = (1 : Int32) from by rw [hv24, if_pos hc23]] at k
      exact k
    · skip
      refine XS.ifYes X21.here hx rfl (pc0 := 50) (pc' := 57) rfl (hb hby at_50) rfl ((if0 _ _).trans (feq (fun q => hc23 ((lw_eq _ _).mp q))).2) (by decide) (by decide) ?_
      show Steps p.tables e below (T21.setTop (mkF m 57 #[.val (.int x0), .val (.int x1), .val (.long x2), .second, .val (.long x3), .second, .val (.long x4), .second, .val (.long x5), .second, .val (.int v1), .val (.ref b3), .val (.int v17), .unset, .unset, .unset, .unset] [])) _
      refine XS.iconst X21.here hx rfl (hb hby at_57) ?_
      show Steps p.tables e below (T21.setTop (mkF m 58 #[.val (.int x0), .val (.int x1), .val (.long x2), .second, .val (.long x3), .second, .val (.long x4), .second, .val (.long x5), .second, .val (.int v1), .val (.ref b3), .val (.int v17), .unset, .unset, .unset, .unset] [(.int (0 : Int32))])) _
      rw [show v24 = (0 : Int32) from by rw [hv24, if_neg hc23]] at k
      exact k)
  have pre26 : ∀ t, Steps p.tables e below (T21.setTop (mkF m 71 #[.val (.int x0), .val (.int x1), .val (.long x2), .second, .val (.long x3), .second, .val (.long x4), .second, .val (.long x5), .second, .val (.int v1), .val (.ref b3), .val (.int v17), .val (.int v24), .unset, .unset, .unset] [(.long (x3 + x5)), (.long (x2 + x4)), (.ref b3)])) t → Steps p.tables e below (s₁.setTop (entryFrame m #[(.int x0), (.int x1), (.long x2), (.long x3), (.long x4), (.long x5)] maxLocals)) t := fun t k => pre25 t (by
    show Steps p.tables e below (T21.setTop (mkF m 58 #[.val (.int x0), .val (.int x1), .val (.long x2), .second, .val (.long x3), .second, .val (.long x4), .second, .val (.long x5), .second, .val (.int v1), .val (.ref b3), .val (.int v17), .unset, .unset, .unset, .unset] [(.int v24)])) _
    refine XS.istore X21.here hx rfl (hb hby at_58) rfl (l' := #[.val (.int x0), .val (.int x1), .val (.long x2), .second, .val (.long x3), .second, .val (.long x4), .second, .val (.long x5), .second, .val (.int v1), .val (.ref b3), .val (.int v17), .val (.int v24), .unset, .unset, .unset]) rfl ?_
    show Steps p.tables e below (T21.setTop (mkF m 60 #[.val (.int x0), .val (.int x1), .val (.long x2), .second, .val (.long x3), .second, .val (.long x4), .second, .val (.long x5), .second, .val (.int v1), .val (.ref b3), .val (.int v17), .val (.int v24), .unset, .unset, .unset] [])) _
    refine XS.aload X21.here hx rfl (hb hby at_60) rfl rfl ?_
    show Steps p.tables e below (T21.setTop (mkF m 62 #[.val (.int x0), .val (.int x1), .val (.long x2), .second, .val (.long x3), .second, .val (.long x4), .second, .val (.long x5), .second, .val (.int v1), .val (.ref b3), .val (.int v17), .val (.int v24), .unset, .unset, .unset] [(.ref b3)])) _
    refine XS.lloadN X21.here hx rfl (hb hby at_62) rfl ?_
    show Steps p.tables e below (T21.setTop (mkF m 63 #[.val (.int x0), .val (.int x1), .val (.long x2), .second, .val (.long x3), .second, .val (.long x4), .second, .val (.long x5), .second, .val (.int v1), .val (.ref b3), .val (.int v17), .val (.int v24), .unset, .unset, .unset] [(.long x2), (.ref b3)])) _
    refine XS.lload X21.here hx rfl (hb hby at_63) rfl ?_
    show Steps p.tables e below (T21.setTop (mkF m 65 #[.val (.int x0), .val (.int x1), .val (.long x2), .second, .val (.long x3), .second, .val (.long x4), .second, .val (.long x5), .second, .val (.int v1), .val (.ref b3), .val (.int v17), .val (.int v24), .unset, .unset, .unset] [(.long x4), (.long x2), (.ref b3)])) _
    refine XS.ladd X21.here hx rfl (hb hby at_65) rfl ?_
    show Steps p.tables e below (T21.setTop (mkF m 66 #[.val (.int x0), .val (.int x1), .val (.long x2), .second, .val (.long x3), .second, .val (.long x4), .second, .val (.long x5), .second, .val (.int v1), .val (.ref b3), .val (.int v17), .val (.int v24), .unset, .unset, .unset] [(.long (x2 + x4)), (.ref b3)])) _
    refine XS.lload X21.here hx rfl (hb hby at_66) rfl ?_
    show Steps p.tables e below (T21.setTop (mkF m 68 #[.val (.int x0), .val (.int x1), .val (.long x2), .second, .val (.long x3), .second, .val (.long x4), .second, .val (.long x5), .second, .val (.int v1), .val (.ref b3), .val (.int v17), .val (.int v24), .unset, .unset, .unset] [(.long x3), (.long (x2 + x4)), (.ref b3)])) _
    refine XS.lload X21.here hx rfl (hb hby at_68) rfl ?_
    show Steps p.tables e below (T21.setTop (mkF m 70 #[.val (.int x0), .val (.int x1), .val (.long x2), .second, .val (.long x3), .second, .val (.long x4), .second, .val (.long x5), .second, .val (.int v1), .val (.ref b3), .val (.int v17), .val (.int v24), .unset, .unset, .unset] [(.long x5), (.long x3), (.long (x2 + x4)), (.ref b3)])) _
    refine XS.ladd X21.here hx rfl (hb hby at_70) rfl ?_
    show Steps p.tables e below (T21.setTop (mkF m 71 #[.val (.int x0), .val (.int x1), .val (.long x2), .second, .val (.long x3), .second, .val (.long x4), .second, .val (.long x5), .second, .val (.int v1), .val (.ref b3), .val (.int v17), .val (.int v24), .unset, .unset, .unset] [(.long (x3 + x5)), (.long (x2 + x4)), (.ref b3)])) _
    exact k)
  obtain ⟨cq28, kq28, q28a, q28b, q28c⟩ := isOf hZ e21 Ec7
  obtain ⟨_, _, ⟨T28, L28, k28, n28⟩, -, X28, ⟨Lc28, hQ28, l28, y28, z28⟩, st28⟩ := X21.virtualBack hx (y := (⟨"com/example/crownfield/crownfield/search/Step", "line", "(JJ)J"⟩ : MethodName)) (z := (⟨"com/example/crownfield/crownfield/search/Step", "line", "(JJ)J"⟩ : MethodName)) hown (mvT hZ (hw _ (List.mem_of_getElem? (i := 19) rfl))) (mvT hZ (hw _ (List.mem_of_getElem? (i := 20) rfl))) (notFace_of_selects (args := #[]) (mvT hZ (hw _ (List.mem_of_getElem? (i := 22) rfl)))) (mvT hZ (hw _ (List.mem_of_getElem? (i := 22) rfl))) (mvT hZ (hw _ (List.mem_of_getElem? (i := 21) rfl))) (by decide) (backOf (W := 0) (rm4 l Z a0 hw [] b3 (x2 + x4) (x3 + x5) v1 x1 T7.heap n0 Zz7 Fc7_rows Fc7_columns) hZ (hw _ (List.mem_of_getElem? (i := 23) rfl)) (hw _ (List.mem_of_getElem? (i := 3) rfl)) (by decide) (by decide)) q28a q28c (g := (mkF m 71 #[.val (.int x0), .val (.int x1), .val (.long x2), .second, .val (.long x3), .second, .val (.long x4), .second, .val (.long x5), .second, .val (.int v1), .val (.ref b3), .val (.int v17), .val (.int v24), .unset, .unset, .unset] [(.long (x3 + x5)), (.long (x2 + x4)), (.ref b3)])) rfl (by rw [hml]; rfl) (Steps.refl _) (argsL := [(.long (x2 + x4)), (.long (x3 + x5))]) (rest := []) (lenOf pd_2 rfl) rfl (by show 2 * 0 + _ ≤ _; exact Nat.le_of_eq rfl) (hb hby at_71) (fun _ _ => ⟨rfl, e21, (by decide : 1 + 0 ≤ _), (by decide : 2 + 0 ≤ _)⟩)
  dsimp only [Pt.U, Pt.locs, Pt.cells, Pt.slots] at X28 l28 y28 z28 st28 hQ28
  subst l28 y28 z28
  obtain ⟨r28, rfl, N28q, e28, P28⟩ := hQ28
  have N28 := Fr.app N21 N28q
  have pre29 : ∀ t, Steps p.tables e below (T28.setTop (mkF m 74 #[.val (.int x0), .val (.int x1), .val (.long x2), .second, .val (.long x3), .second, .val (.long x4), .second, .val (.long x5), .second, .val (.int v1), .val (.ref b3), .val (.int v17), .val (.int v24), .unset, .unset, .unset] [(.long r28)])) t → Steps p.tables e below (s₁.setTop (entryFrame m #[(.int x0), (.int x1), (.long x2), (.long x3), (.long x4), (.long x5)] maxLocals)) t := fun t k => pre26 t (st28.trans k)
  have pre30 : ∀ t, Steps p.tables e below (T28.setTop (mkF m 79 #[.val (.int x0), .val (.int x1), .val (.long x2), .second, .val (.long x3), .second, .val (.long x4), .second, .val (.long x5), .second, .val (.int v1), .val (.ref b3), .val (.int v17), .val (.int v24), .unset, .unset, .unset] [(.long x3), (.long x2), (.ref b3), (.long r28)])) t → Steps p.tables e below (s₁.setTop (entryFrame m #[(.int x0), (.int x1), (.long x2), (.long x3), (.long x4), (.long x5)] maxLocals)) t := fun t k => pre29 t (by
    show Steps p.tables e below (T28.setTop (mkF m 74 #[.val (.int x0), .val (.int x1), .val (.long x2), .second, .val (.long x3), .second, .val (.long x4), .second, .val (.long x5), .second, .val (.int v1), .val (.ref b3), .val (.int v17), .val (.int v24), .unset, .unset, .unset] [(.long r28)])) _
    refine XS.aload X28.here hx rfl (hb hby at_74) rfl rfl ?_
    show Steps p.tables e below (T28.setTop (mkF m 76 #[.val (.int x0), .val (.int x1), .val (.long x2), .second, .val (.long x3), .second, .val (.long x4), .second, .val (.long x5), .second, .val (.int v1), .val (.ref b3), .val (.int v17), .val (.int v24), .unset, .unset, .unset] [(.ref b3), (.long r28)])) _
    refine XS.lloadN X28.here hx rfl (hb hby at_76) rfl ?_
    show Steps p.tables e below (T28.setTop (mkF m 77 #[.val (.int x0), .val (.int x1), .val (.long x2), .second, .val (.long x3), .second, .val (.long x4), .second, .val (.long x5), .second, .val (.int v1), .val (.ref b3), .val (.int v17), .val (.int v24), .unset, .unset, .unset] [(.long x2), (.ref b3), (.long r28)])) _
    refine XS.lload X28.here hx rfl (hb hby at_77) rfl ?_
    show Steps p.tables e below (T28.setTop (mkF m 79 #[.val (.int x0), .val (.int x1), .val (.long x2), .second, .val (.long x3), .second, .val (.long x4), .second, .val (.long x5), .second, .val (.int v1), .val (.ref b3), .val (.int v17), .val (.int v24), .unset, .unset, .unset] [(.long x3), (.long x2), (.ref b3), (.long r28)])) _
    exact k)
  obtain ⟨cq32, kq32, q32a, q32b, q32c⟩ := isOf hZ e28 Ec7
  obtain ⟨_, _, ⟨T32, L32, k32, n32⟩, -, X32, ⟨Lc32, hQ32, l32, y32, z32⟩, st32⟩ := X28.virtualBack hx (y := (⟨"com/example/crownfield/crownfield/search/Step", "line", "(JJ)J"⟩ : MethodName)) (z := (⟨"com/example/crownfield/crownfield/search/Step", "line", "(JJ)J"⟩ : MethodName)) hown (mvT hZ (hw _ (List.mem_of_getElem? (i := 19) rfl))) (mvT hZ (hw _ (List.mem_of_getElem? (i := 20) rfl))) (notFace_of_selects (args := #[]) (mvT hZ (hw _ (List.mem_of_getElem? (i := 22) rfl)))) (mvT hZ (hw _ (List.mem_of_getElem? (i := 22) rfl))) (mvT hZ (hw _ (List.mem_of_getElem? (i := 21) rfl))) (by decide) (backOf (W := 2) (rm4 l Z a0 hw [] b3 x2 x3 v1 x1 T7.heap n0 Zz7 Fc7_rows Fc7_columns) hZ (hw _ (List.mem_of_getElem? (i := 23) rfl)) (hw _ (List.mem_of_getElem? (i := 3) rfl)) (by decide) (by decide)) q32a q32c (g := (mkF m 79 #[.val (.int x0), .val (.int x1), .val (.long x2), .second, .val (.long x3), .second, .val (.long x4), .second, .val (.long x5), .second, .val (.int v1), .val (.ref b3), .val (.int v17), .val (.int v24), .unset, .unset, .unset] [(.long x3), (.long x2), (.ref b3), (.long r28)])) rfl (by rw [hml]; rfl) (Steps.refl _) (argsL := [(.long x2), (.long x3)]) (rest := [(.long r28)]) (lenOf pd_2 rfl) rfl (by show 2 * 0 + _ ≤ _; exact Nat.le_of_eq rfl) (hb hby at_79) (fun _ _ => ⟨rfl, e28, (by decide : 1 + 0 ≤ _), (by decide : 2 + 0 ≤ _)⟩)
  dsimp only [Pt.U, Pt.locs, Pt.cells, Pt.slots] at X32 l32 y32 z32 st32 hQ32
  subst l32 y32 z32
  obtain ⟨r32, rfl, N32q, e32, P32⟩ := hQ32
  have N32 := Fr.app N28 N32q
  have pre33 : ∀ t, Steps p.tables e below (T32.setTop (mkF m 82 #[.val (.int x0), .val (.int x1), .val (.long x2), .second, .val (.long x3), .second, .val (.long x4), .second, .val (.long x5), .second, .val (.int v1), .val (.ref b3), .val (.int v17), .val (.int v24), .unset, .unset, .unset] [(.long r32), (.long r28)])) t → Steps p.tables e below (s₁.setTop (entryFrame m #[(.int x0), (.int x1), (.long x2), (.long x3), (.long x4), (.long x5)] maxLocals)) t := fun t k => pre30 t (st32.trans k)
  have pre34 : ∀ t, Steps p.tables e below (T32.setTop (mkF m 88 #[.val (.int x0), .val (.int x1), .val (.long x2), .second, .val (.long x3), .second, .val (.long x4), .second, .val (.long x5), .second, .val (.int v1), .val (.ref b3), .val (.int v17), .val (.int v24), .unset, .unset, .unset] [(.long x5), (.long x4), (.ref b3), (.long r32), (.long r28)])) t → Steps p.tables e below (s₁.setTop (entryFrame m #[(.int x0), (.int x1), (.long x2), (.long x3), (.long x4), (.long x5)] maxLocals)) t := fun t k => pre33 t (by
    show Steps p.tables e below (T32.setTop (mkF m 82 #[.val (.int x0), .val (.int x1), .val (.long x2), .second, .val (.long x3), .second, .val (.long x4), .second, .val (.long x5), .second, .val (.int v1), .val (.ref b3), .val (.int v17), .val (.int v24), .unset, .unset, .unset] [(.long r32), (.long r28)])) _
    refine XS.aload X32.here hx rfl (hb hby at_82) rfl rfl ?_
    show Steps p.tables e below (T32.setTop (mkF m 84 #[.val (.int x0), .val (.int x1), .val (.long x2), .second, .val (.long x3), .second, .val (.long x4), .second, .val (.long x5), .second, .val (.int v1), .val (.ref b3), .val (.int v17), .val (.int v24), .unset, .unset, .unset] [(.ref b3), (.long r32), (.long r28)])) _
    refine XS.lload X32.here hx rfl (hb hby at_84) rfl ?_
    show Steps p.tables e below (T32.setTop (mkF m 86 #[.val (.int x0), .val (.int x1), .val (.long x2), .second, .val (.long x3), .second, .val (.long x4), .second, .val (.long x5), .second, .val (.int v1), .val (.ref b3), .val (.int v17), .val (.int v24), .unset, .unset, .unset] [(.long x4), (.ref b3), (.long r32), (.long r28)])) _
    refine XS.lload X32.here hx rfl (hb hby at_86) rfl ?_
    show Steps p.tables e below (T32.setTop (mkF m 88 #[.val (.int x0), .val (.int x1), .val (.long x2), .second, .val (.long x3), .second, .val (.long x4), .second, .val (.long x5), .second, .val (.int v1), .val (.ref b3), .val (.int v17), .val (.int v24), .unset, .unset, .unset] [(.long x5), (.long x4), (.ref b3), (.long r32), (.long r28)])) _
    exact k)
  obtain ⟨cq36, kq36, q36a, q36b, q36c⟩ := isOf hZ e32 Ec7
  obtain ⟨_, _, ⟨T36, L36, k36, n36⟩, -, X36, ⟨Lc36, hQ36, l36, y36, z36⟩, st36⟩ := X32.virtualBack hx (y := (⟨"com/example/crownfield/crownfield/search/Step", "line", "(JJ)J"⟩ : MethodName)) (z := (⟨"com/example/crownfield/crownfield/search/Step", "line", "(JJ)J"⟩ : MethodName)) hown (mvT hZ (hw _ (List.mem_of_getElem? (i := 19) rfl))) (mvT hZ (hw _ (List.mem_of_getElem? (i := 20) rfl))) (notFace_of_selects (args := #[]) (mvT hZ (hw _ (List.mem_of_getElem? (i := 22) rfl)))) (mvT hZ (hw _ (List.mem_of_getElem? (i := 22) rfl))) (mvT hZ (hw _ (List.mem_of_getElem? (i := 21) rfl))) (by decide) (backOf (W := 4) (rm4 l Z a0 hw [] b3 x4 x5 v1 x1 T7.heap n0 Zz7 Fc7_rows Fc7_columns) hZ (hw _ (List.mem_of_getElem? (i := 23) rfl)) (hw _ (List.mem_of_getElem? (i := 3) rfl)) (by decide) (by decide)) q36a q36c (g := (mkF m 88 #[.val (.int x0), .val (.int x1), .val (.long x2), .second, .val (.long x3), .second, .val (.long x4), .second, .val (.long x5), .second, .val (.int v1), .val (.ref b3), .val (.int v17), .val (.int v24), .unset, .unset, .unset] [(.long x5), (.long x4), (.ref b3), (.long r32), (.long r28)])) rfl (by rw [hml]; rfl) (Steps.refl _) (argsL := [(.long x4), (.long x5)]) (rest := [(.long r32), (.long r28)]) (lenOf pd_2 rfl) rfl (by show 2 * 0 + _ ≤ _; exact Nat.le_of_eq rfl) (hb hby at_88) (fun _ _ => ⟨rfl, e32, (by decide : 1 + 0 ≤ _), (by decide : 2 + 0 ≤ _)⟩)
  dsimp only [Pt.U, Pt.locs, Pt.cells, Pt.slots] at X36 l36 y36 z36 st36 hQ36
  subst l36 y36 z36
  obtain ⟨r36, rfl, N36q, e36, P36⟩ := hQ36
  have N36 := Fr.app N32 N36q
  have pre37 : ∀ t, Steps p.tables e below (T36.setTop (mkF m 91 #[.val (.int x0), .val (.int x1), .val (.long x2), .second, .val (.long x3), .second, .val (.long x4), .second, .val (.long x5), .second, .val (.int v1), .val (.ref b3), .val (.int v17), .val (.int v24), .unset, .unset, .unset] [(.long r36), (.long r32), (.long r28)])) t → Steps p.tables e below (s₁.setTop (entryFrame m #[(.int x0), (.int x1), (.long x2), (.long x3), (.long x4), (.long x5)] maxLocals)) t := fun t k => pre34 t (st36.trans k)
  obtain ⟨v39, hv39⟩ : ∃ z : Int32, z = (if r28 = (r32 + r36) then (1 : Int32) else (0 : Int32)) := ⟨_, rfl⟩
  have pre40 : ∀ t, Steps p.tables e below (T36.setTop (mkF m 101 #[.val (.int x0), .val (.int x1), .val (.long x2), .second, .val (.long x3), .second, .val (.long x4), .second, .val (.long x5), .second, .val (.int v1), .val (.ref b3), .val (.int v17), .val (.int v24), .unset, .unset, .unset] [(.int v39)])) t → Steps p.tables e below (s₁.setTop (entryFrame m #[(.int x0), (.int x1), (.long x2), (.long x3), (.long x4), (.long x5)] maxLocals)) t := fun t k => pre37 t (by
    show Steps p.tables e below (T36.setTop (mkF m 91 #[.val (.int x0), .val (.int x1), .val (.long x2), .second, .val (.long x3), .second, .val (.long x4), .second, .val (.long x5), .second, .val (.int v1), .val (.ref b3), .val (.int v17), .val (.int v24), .unset, .unset, .unset] [(.long r36), (.long r32), (.long r28)])) _
    refine XS.ladd X36.here hx rfl (hb hby at_91) rfl ?_
    show Steps p.tables e below (T36.setTop (mkF m 92 #[.val (.int x0), .val (.int x1), .val (.long x2), .second, .val (.long x3), .second, .val (.long x4), .second, .val (.long x5), .second, .val (.int v1), .val (.ref b3), .val (.int v17), .val (.int v24), .unset, .unset, .unset] [(.long (r32 + r36)), (.long r28)])) _
    refine XS.lcmp X36.here hx rfl (hb hby at_92) rfl ?_
    show Steps p.tables e below (T36.setTop (mkF m 93 #[.val (.int x0), .val (.int x1), .val (.long x2), .second, .val (.long x3), .second, .val (.long x4), .second, .val (.long x5), .second, .val (.int v1), .val (.ref b3), .val (.int v17), .val (.int v24), .unset, .unset, .unset] [(.int (lcmpW r28 (r32 + r36)))])) _
    by_cases hc38 : r28 = (r32 + r36)
    · skip
      refine XS.ifNo X36.here hx rfl (hb hby at_93) rfl ((if0 _ _).trans (teq ((lw_eq _ _).mpr hc38)).2) ?_
      show Steps p.tables e below (T36.setTop (mkF m 96 #[.val (.int x0), .val (.int x1), .val (.long x2), .second, .val (.long x3), .second, .val (.long x4), .second, .val (.long x5), .second, .val (.int v1), .val (.ref b3), .val (.int v17), .val (.int v24), .unset, .unset, .unset] [])) _
      refine XS.iconst X36.here hx rfl (hb hby at_96) ?_
      show Steps p.tables e below (T36.setTop (mkF m 97 #[.val (.int x0), .val (.int x1), .val (.long x2), .second, .val (.long x3), .second, .val (.long x4), .second, .val (.long x5), .second, .val (.int v1), .val (.ref b3), .val (.int v17), .val (.int v24), .unset, .unset, .unset] [(.int (1 : Int32))])) _
      refine XS.goto X36.here hx rfl (pc0 := 97) (pc' := 101) rfl (hb hby at_97) (by decide) (by decide) ?_
      show Steps p.tables e below (T36.setTop (mkF m 101 #[.val (.int x0), .val (.int x1), .val (.long x2), .second, .val (.long x3), .second, .val (.long x4), .second, .val (.long x5), .second, .val (.int v1), .val (.ref b3), .val (.int v17), .val (.int v24), .unset, .unset, .unset] [(.int (1 : Int32))])) _
      rw [show v39 = (1 : Int32) from by rw [hv39, if_pos hc38]] at k
      exact k
    · skip
      refine XS.ifYes X36.here hx rfl (pc0 := 93) (pc' := 100) rfl (hb hby at_93) rfl ((if0 _ _).trans (feq (fun q => hc38 ((lw_eq _ _).mp q))).2) (by decide) (by decide) ?_
      show Steps p.tables e below (T36.setTop (mkF m 100 #[.val (.int x0), .val (.int x1), .val (.long x2), .second, .val (.long x3), .second, .val (.long x4), .second, .val (.long x5), .second, .val (.int v1), .val (.ref b3), .val (.int v17), .val (.int v24), .unset, .unset, .unset] [])) _
      refine XS.iconst X36.here hx rfl (hb hby at_100) ?_
      show Steps p.tables e below (T36.setTop (mkF m 101 #[.val (.int x0), .val (.int x1), .val (.long x2), .second, .val (.long x3), .second, .val (.long x4), .second, .val (.long x5), .second, .val (.int v1), .val (.ref b3), .val (.int v17), .val (.int v24), .unset, .unset, .unset] [(.int (0 : Int32))])) _
      rw [show v39 = (0 : Int32) from by rw [hv39, if_neg hc38]] at k
      exact k)
  have pre41 : ∀ t, Steps p.tables e below (T36.setTop (mkF m 110 #[.val (.int x0), .val (.int x1), .val (.long x2), .second, .val (.long x3), .second, .val (.long x4), .second, .val (.long x5), .second, .val (.int v1), .val (.ref b3), .val (.int v17), .val (.int v24), .val (.int v39), .unset, .unset] [(.long (x1.toInt64)), (.long (v1.toInt64)), (.ref b3)])) t → Steps p.tables e below (s₁.setTop (entryFrame m #[(.int x0), (.int x1), (.long x2), (.long x3), (.long x4), (.long x5)] maxLocals)) t := fun t k => pre40 t (by
    show Steps p.tables e below (T36.setTop (mkF m 101 #[.val (.int x0), .val (.int x1), .val (.long x2), .second, .val (.long x3), .second, .val (.long x4), .second, .val (.long x5), .second, .val (.int v1), .val (.ref b3), .val (.int v17), .val (.int v24), .unset, .unset, .unset] [(.int v39)])) _
    refine XS.istore X36.here hx rfl (hb hby at_101) rfl (l' := #[.val (.int x0), .val (.int x1), .val (.long x2), .second, .val (.long x3), .second, .val (.long x4), .second, .val (.long x5), .second, .val (.int v1), .val (.ref b3), .val (.int v17), .val (.int v24), .val (.int v39), .unset, .unset]) rfl ?_
    show Steps p.tables e below (T36.setTop (mkF m 103 #[.val (.int x0), .val (.int x1), .val (.long x2), .second, .val (.long x3), .second, .val (.long x4), .second, .val (.long x5), .second, .val (.int v1), .val (.ref b3), .val (.int v17), .val (.int v24), .val (.int v39), .unset, .unset] [])) _
    refine XS.aload X36.here hx rfl (hb hby at_103) rfl rfl ?_
    show Steps p.tables e below (T36.setTop (mkF m 105 #[.val (.int x0), .val (.int x1), .val (.long x2), .second, .val (.long x3), .second, .val (.long x4), .second, .val (.long x5), .second, .val (.int v1), .val (.ref b3), .val (.int v17), .val (.int v24), .val (.int v39), .unset, .unset] [(.ref b3)])) _
    refine XS.iload X36.here hx rfl (hb hby at_105) rfl ?_
    show Steps p.tables e below (T36.setTop (mkF m 107 #[.val (.int x0), .val (.int x1), .val (.long x2), .second, .val (.long x3), .second, .val (.long x4), .second, .val (.long x5), .second, .val (.int v1), .val (.ref b3), .val (.int v17), .val (.int v24), .val (.int v39), .unset, .unset] [(.int v1), (.ref b3)])) _
    refine XS.i2l X36.here hx rfl (hb hby at_107) rfl ?_
    show Steps p.tables e below (T36.setTop (mkF m 108 #[.val (.int x0), .val (.int x1), .val (.long x2), .second, .val (.long x3), .second, .val (.long x4), .second, .val (.long x5), .second, .val (.int v1), .val (.ref b3), .val (.int v17), .val (.int v24), .val (.int v39), .unset, .unset] [(.long (v1.toInt64)), (.ref b3)])) _
    refine XS.iloadN X36.here hx rfl (hb hby at_108) rfl ?_
    show Steps p.tables e below (T36.setTop (mkF m 109 #[.val (.int x0), .val (.int x1), .val (.long x2), .second, .val (.long x3), .second, .val (.long x4), .second, .val (.long x5), .second, .val (.int v1), .val (.ref b3), .val (.int v17), .val (.int v24), .val (.int v39), .unset, .unset] [(.int x1), (.long (v1.toInt64)), (.ref b3)])) _
    refine XS.i2l X36.here hx rfl (hb hby at_109) rfl ?_
    show Steps p.tables e below (T36.setTop (mkF m 110 #[.val (.int x0), .val (.int x1), .val (.long x2), .second, .val (.long x3), .second, .val (.long x4), .second, .val (.long x5), .second, .val (.int v1), .val (.ref b3), .val (.int v17), .val (.int v24), .val (.int v39), .unset, .unset] [(.long (x1.toInt64)), (.long (v1.toInt64)), (.ref b3)])) _
    exact k)
  obtain ⟨cq43, kq43, q43a, q43b, q43c⟩ := isOf hZ e36 Ec7
  obtain ⟨_, _, ⟨T43, L43, k43, n43⟩, -, X43, ⟨Lc43, hQ43, l43, y43, z43⟩, st43⟩ := X36.virtualBack hx (y := (⟨"com/example/crownfield/crownfield/search/Step", "line", "(JJ)J"⟩ : MethodName)) (z := (⟨"com/example/crownfield/crownfield/search/Step", "line", "(JJ)J"⟩ : MethodName)) hown (mvT hZ (hw _ (List.mem_of_getElem? (i := 19) rfl))) (mvT hZ (hw _ (List.mem_of_getElem? (i := 20) rfl))) (notFace_of_selects (args := #[]) (mvT hZ (hw _ (List.mem_of_getElem? (i := 22) rfl)))) (mvT hZ (hw _ (List.mem_of_getElem? (i := 22) rfl))) (mvT hZ (hw _ (List.mem_of_getElem? (i := 21) rfl))) (by decide) (backOf (W := 0) (rm4 l Z a0 hw [] b3 (v1.toInt64) (x1.toInt64) v1 x1 T7.heap n0 Zz7 Fc7_rows Fc7_columns) hZ (hw _ (List.mem_of_getElem? (i := 23) rfl)) (hw _ (List.mem_of_getElem? (i := 3) rfl)) (by decide) (by decide)) q43a q43c (g := (mkF m 110 #[.val (.int x0), .val (.int x1), .val (.long x2), .second, .val (.long x3), .second, .val (.long x4), .second, .val (.long x5), .second, .val (.int v1), .val (.ref b3), .val (.int v17), .val (.int v24), .val (.int v39), .unset, .unset] [(.long (x1.toInt64)), (.long (v1.toInt64)), (.ref b3)])) rfl (by rw [hml]; rfl) (Steps.refl _) (argsL := [(.long (v1.toInt64)), (.long (x1.toInt64))]) (rest := []) (lenOf pd_2 rfl) rfl (by show 2 * 0 + _ ≤ _; exact Nat.le_of_eq rfl) (hb hby at_110) (fun _ _ => ⟨rfl, e36, (by decide : 1 + 0 ≤ _), (by decide : 2 + 0 ≤ _)⟩)
  dsimp only [Pt.U, Pt.locs, Pt.cells, Pt.slots] at X43 l43 y43 z43 st43 hQ43
  subst l43 y43 z43
  obtain ⟨r43, rfl, N43q, e43, P43⟩ := hQ43
  have N43 := Fr.app N36 N43q
  have pre44 : ∀ t, Steps p.tables e below (T43.setTop (mkF m 113 #[.val (.int x0), .val (.int x1), .val (.long x2), .second, .val (.long x3), .second, .val (.long x4), .second, .val (.long x5), .second, .val (.int v1), .val (.ref b3), .val (.int v17), .val (.int v24), .val (.int v39), .unset, .unset] [(.long r43)])) t → Steps p.tables e below (s₁.setTop (entryFrame m #[(.int x0), (.int x1), (.long x2), (.long x3), (.long x4), (.long x5)] maxLocals)) t := fun t k => pre41 t (st43.trans k)
  obtain ⟨v46, hv46⟩ : ∃ z : Int32, z = (if r43 = (0 : Int64) then (1 : Int32) else (0 : Int32)) := ⟨_, rfl⟩
  have pre47 : ∀ t, Steps p.tables e below (T43.setTop (mkF m 123 #[.val (.int x0), .val (.int x1), .val (.long x2), .second, .val (.long x3), .second, .val (.long x4), .second, .val (.long x5), .second, .val (.int v1), .val (.ref b3), .val (.int v17), .val (.int v24), .val (.int v39), .unset, .unset] [(.int v46)])) t → Steps p.tables e below (s₁.setTop (entryFrame m #[(.int x0), (.int x1), (.long x2), (.long x3), (.long x4), (.long x5)] maxLocals)) t := fun t k => pre44 t (by
    show Steps p.tables e below (T43.setTop (mkF m 113 #[.val (.int x0), .val (.int x1), .val (.long x2), .second, .val (.long x3), .second, .val (.long x4), .second, .val (.long x5), .second, .val (.int v1), .val (.ref b3), .val (.int v17), .val (.int v24), .val (.int v39), .unset, .unset] [(.long r43)])) _
    refine XS.lconst X43.here hx rfl (hb hby at_113) ?_
    show Steps p.tables e below (T43.setTop (mkF m 114 #[.val (.int x0), .val (.int x1), .val (.long x2), .second, .val (.long x3), .second, .val (.long x4), .second, .val (.long x5), .second, .val (.int v1), .val (.ref b3), .val (.int v17), .val (.int v24), .val (.int v39), .unset, .unset] [(.long (0 : Int64)), (.long r43)])) _
    refine XS.lcmp X43.here hx rfl (hb hby at_114) rfl ?_
    show Steps p.tables e below (T43.setTop (mkF m 115 #[.val (.int x0), .val (.int x1), .val (.long x2), .second, .val (.long x3), .second, .val (.long x4), .second, .val (.long x5), .second, .val (.int v1), .val (.ref b3), .val (.int v17), .val (.int v24), .val (.int v39), .unset, .unset] [(.int (lcmpW r43 (0 : Int64)))])) _
    by_cases hc45 : r43 = (0 : Int64)
    · skip
      refine XS.ifNo X43.here hx rfl (hb hby at_115) rfl ((if0 _ _).trans (teq ((lw_eq _ _).mpr hc45)).2) ?_
      show Steps p.tables e below (T43.setTop (mkF m 118 #[.val (.int x0), .val (.int x1), .val (.long x2), .second, .val (.long x3), .second, .val (.long x4), .second, .val (.long x5), .second, .val (.int v1), .val (.ref b3), .val (.int v17), .val (.int v24), .val (.int v39), .unset, .unset] [])) _
      refine XS.iconst X43.here hx rfl (hb hby at_118) ?_
      show Steps p.tables e below (T43.setTop (mkF m 119 #[.val (.int x0), .val (.int x1), .val (.long x2), .second, .val (.long x3), .second, .val (.long x4), .second, .val (.long x5), .second, .val (.int v1), .val (.ref b3), .val (.int v17), .val (.int v24), .val (.int v39), .unset, .unset] [(.int (1 : Int32))])) _
      refine XS.goto X43.here hx rfl (pc0 := 119) (pc' := 123) rfl (hb hby at_119) (by decide) (by decide) ?_
      show Steps p.tables e below (T43.setTop (mkF m 123 #[.val (.int x0), .val (.int x1), .val (.long x2), .second, .val (.long x3), .second, .val (.long x4), .second, .val (.long x5), .second, .val (.int v1), .val (.ref b3), .val (.int v17), .val (.int v24), .val (.int v39), .unset, .unset] [(.int (1 : Int32))])) _
      rw [show v46 = (1 : Int32) from by rw [hv46, if_pos hc45]] at k
      exact k
    · skip
      refine XS.ifYes X43.here hx rfl (pc0 := 115) (pc' := 122) rfl (hb hby at_115) rfl ((if0 _ _).trans (feq (fun q => hc45 ((lw_eq _ _).mp q))).2) (by decide) (by decide) ?_
      show Steps p.tables e below (T43.setTop (mkF m 122 #[.val (.int x0), .val (.int x1), .val (.long x2), .second, .val (.long x3), .second, .val (.long x4), .second, .val (.long x5), .second, .val (.int v1), .val (.ref b3), .val (.int v17), .val (.int v24), .val (.int v39), .unset, .unset] [])) _
      refine XS.iconst X43.here hx rfl (hb hby at_122) ?_
      show Steps p.tables e below (T43.setTop (mkF m 123 #[.val (.int x0), .val (.int x1), .val (.long x2), .second, .val (.long x3), .second, .val (.long x4), .second, .val (.long x5), .second, .val (.int v1), .val (.ref b3), .val (.int v17), .val (.int v24), .val (.int v39), .unset, .unset] [(.int (0 : Int32))])) _
      rw [show v46 = (0 : Int32) from by rw [hv46, if_neg hc45]] at k
      exact k)
  have pre48 : ∀ t, Steps p.tables e below (T43.setTop (mkF m 137 #[.val (.int x0), .val (.int x1), .val (.long x2), .second, .val (.long x3), .second, .val (.long x4), .second, .val (.long x5), .second, .val (.int v1), .val (.ref b3), .val (.int v17), .val (.int v24), .val (.int v39), .val (.int v46), .unset] [(.long (x3 + (x1.toInt64))), (.long (x2 + (v1.toInt64))), (.ref b3)])) t → Steps p.tables e below (s₁.setTop (entryFrame m #[(.int x0), (.int x1), (.long x2), (.long x3), (.long x4), (.long x5)] maxLocals)) t := fun t k => pre47 t (by
    show Steps p.tables e below (T43.setTop (mkF m 123 #[.val (.int x0), .val (.int x1), .val (.long x2), .second, .val (.long x3), .second, .val (.long x4), .second, .val (.long x5), .second, .val (.int v1), .val (.ref b3), .val (.int v17), .val (.int v24), .val (.int v39), .unset, .unset] [(.int v46)])) _
    refine XS.istore X43.here hx rfl (hb hby at_123) rfl (l' := #[.val (.int x0), .val (.int x1), .val (.long x2), .second, .val (.long x3), .second, .val (.long x4), .second, .val (.long x5), .second, .val (.int v1), .val (.ref b3), .val (.int v17), .val (.int v24), .val (.int v39), .val (.int v46), .unset]) rfl ?_
    show Steps p.tables e below (T43.setTop (mkF m 125 #[.val (.int x0), .val (.int x1), .val (.long x2), .second, .val (.long x3), .second, .val (.long x4), .second, .val (.long x5), .second, .val (.int v1), .val (.ref b3), .val (.int v17), .val (.int v24), .val (.int v39), .val (.int v46), .unset] [])) _
    refine XS.aload X43.here hx rfl (hb hby at_125) rfl rfl ?_
    show Steps p.tables e below (T43.setTop (mkF m 127 #[.val (.int x0), .val (.int x1), .val (.long x2), .second, .val (.long x3), .second, .val (.long x4), .second, .val (.long x5), .second, .val (.int v1), .val (.ref b3), .val (.int v17), .val (.int v24), .val (.int v39), .val (.int v46), .unset] [(.ref b3)])) _
    refine XS.lloadN X43.here hx rfl (hb hby at_127) rfl ?_
    show Steps p.tables e below (T43.setTop (mkF m 128 #[.val (.int x0), .val (.int x1), .val (.long x2), .second, .val (.long x3), .second, .val (.long x4), .second, .val (.long x5), .second, .val (.int v1), .val (.ref b3), .val (.int v17), .val (.int v24), .val (.int v39), .val (.int v46), .unset] [(.long x2), (.ref b3)])) _
    refine XS.iload X43.here hx rfl (hb hby at_128) rfl ?_
    show Steps p.tables e below (T43.setTop (mkF m 130 #[.val (.int x0), .val (.int x1), .val (.long x2), .second, .val (.long x3), .second, .val (.long x4), .second, .val (.long x5), .second, .val (.int v1), .val (.ref b3), .val (.int v17), .val (.int v24), .val (.int v39), .val (.int v46), .unset] [(.int v1), (.long x2), (.ref b3)])) _
    refine XS.i2l X43.here hx rfl (hb hby at_130) rfl ?_
    show Steps p.tables e below (T43.setTop (mkF m 131 #[.val (.int x0), .val (.int x1), .val (.long x2), .second, .val (.long x3), .second, .val (.long x4), .second, .val (.long x5), .second, .val (.int v1), .val (.ref b3), .val (.int v17), .val (.int v24), .val (.int v39), .val (.int v46), .unset] [(.long (v1.toInt64)), (.long x2), (.ref b3)])) _
    refine XS.ladd X43.here hx rfl (hb hby at_131) rfl ?_
    show Steps p.tables e below (T43.setTop (mkF m 132 #[.val (.int x0), .val (.int x1), .val (.long x2), .second, .val (.long x3), .second, .val (.long x4), .second, .val (.long x5), .second, .val (.int v1), .val (.ref b3), .val (.int v17), .val (.int v24), .val (.int v39), .val (.int v46), .unset] [(.long (x2 + (v1.toInt64))), (.ref b3)])) _
    refine XS.lload X43.here hx rfl (hb hby at_132) rfl ?_
    show Steps p.tables e below (T43.setTop (mkF m 134 #[.val (.int x0), .val (.int x1), .val (.long x2), .second, .val (.long x3), .second, .val (.long x4), .second, .val (.long x5), .second, .val (.int v1), .val (.ref b3), .val (.int v17), .val (.int v24), .val (.int v39), .val (.int v46), .unset] [(.long x3), (.long (x2 + (v1.toInt64))), (.ref b3)])) _
    refine XS.iloadN X43.here hx rfl (hb hby at_134) rfl ?_
    show Steps p.tables e below (T43.setTop (mkF m 135 #[.val (.int x0), .val (.int x1), .val (.long x2), .second, .val (.long x3), .second, .val (.long x4), .second, .val (.long x5), .second, .val (.int v1), .val (.ref b3), .val (.int v17), .val (.int v24), .val (.int v39), .val (.int v46), .unset] [(.int x1), (.long x3), (.long (x2 + (v1.toInt64))), (.ref b3)])) _
    refine XS.i2l X43.here hx rfl (hb hby at_135) rfl ?_
    show Steps p.tables e below (T43.setTop (mkF m 136 #[.val (.int x0), .val (.int x1), .val (.long x2), .second, .val (.long x3), .second, .val (.long x4), .second, .val (.long x5), .second, .val (.int v1), .val (.ref b3), .val (.int v17), .val (.int v24), .val (.int v39), .val (.int v46), .unset] [(.long (x1.toInt64)), (.long x3), (.long (x2 + (v1.toInt64))), (.ref b3)])) _
    refine XS.ladd X43.here hx rfl (hb hby at_136) rfl ?_
    show Steps p.tables e below (T43.setTop (mkF m 137 #[.val (.int x0), .val (.int x1), .val (.long x2), .second, .val (.long x3), .second, .val (.long x4), .second, .val (.long x5), .second, .val (.int v1), .val (.ref b3), .val (.int v17), .val (.int v24), .val (.int v39), .val (.int v46), .unset] [(.long (x3 + (x1.toInt64))), (.long (x2 + (v1.toInt64))), (.ref b3)])) _
    exact k)
  obtain ⟨cq50, kq50, q50a, q50b, q50c⟩ := isOf hZ e43 Ec7
  obtain ⟨_, _, ⟨T50, L50, k50, n50⟩, -, X50, ⟨Lc50, hQ50, l50, y50, z50⟩, st50⟩ := X43.virtualBack hx (y := (⟨"com/example/crownfield/crownfield/search/Step", "line", "(JJ)J"⟩ : MethodName)) (z := (⟨"com/example/crownfield/crownfield/search/Step", "line", "(JJ)J"⟩ : MethodName)) hown (mvT hZ (hw _ (List.mem_of_getElem? (i := 19) rfl))) (mvT hZ (hw _ (List.mem_of_getElem? (i := 20) rfl))) (notFace_of_selects (args := #[]) (mvT hZ (hw _ (List.mem_of_getElem? (i := 22) rfl)))) (mvT hZ (hw _ (List.mem_of_getElem? (i := 22) rfl))) (mvT hZ (hw _ (List.mem_of_getElem? (i := 21) rfl))) (by decide) (backOf (W := 0) (rm4 l Z a0 hw [] b3 (x2 + (v1.toInt64)) (x3 + (x1.toInt64)) v1 x1 T7.heap n0 Zz7 Fc7_rows Fc7_columns) hZ (hw _ (List.mem_of_getElem? (i := 23) rfl)) (hw _ (List.mem_of_getElem? (i := 3) rfl)) (by decide) (by decide)) q50a q50c (g := (mkF m 137 #[.val (.int x0), .val (.int x1), .val (.long x2), .second, .val (.long x3), .second, .val (.long x4), .second, .val (.long x5), .second, .val (.int v1), .val (.ref b3), .val (.int v17), .val (.int v24), .val (.int v39), .val (.int v46), .unset] [(.long (x3 + (x1.toInt64))), (.long (x2 + (v1.toInt64))), (.ref b3)])) rfl (by rw [hml]; rfl) (Steps.refl _) (argsL := [(.long (x2 + (v1.toInt64))), (.long (x3 + (x1.toInt64)))]) (rest := []) (lenOf pd_2 rfl) rfl (by show 2 * 0 + _ ≤ _; exact Nat.le_of_eq rfl) (hb hby at_137) (fun _ _ => ⟨rfl, e43, (by decide : 1 + 0 ≤ _), (by decide : 2 + 0 ≤ _)⟩)
  dsimp only [Pt.U, Pt.locs, Pt.cells, Pt.slots] at X50 l50 y50 z50 st50 hQ50
  subst l50 y50 z50
  obtain ⟨r50, rfl, N50q, e50, P50⟩ := hQ50
  have N50 := Fr.app N43 N50q
  have pre51 : ∀ t, Steps p.tables e below (T50.setTop (mkF m 140 #[.val (.int x0), .val (.int x1), .val (.long x2), .second, .val (.long x3), .second, .val (.long x4), .second, .val (.long x5), .second, .val (.int v1), .val (.ref b3), .val (.int v17), .val (.int v24), .val (.int v39), .val (.int v46), .unset] [(.long r50)])) t → Steps p.tables e below (s₁.setTop (entryFrame m #[(.int x0), (.int x1), (.long x2), (.long x3), (.long x4), (.long x5)] maxLocals)) t := fun t k => pre48 t (st50.trans k)
  have pre52 : ∀ t, Steps p.tables e below (T50.setTop (mkF m 145 #[.val (.int x0), .val (.int x1), .val (.long x2), .second, .val (.long x3), .second, .val (.long x4), .second, .val (.long x5), .second, .val (.int v1), .val (.ref b3), .val (.int v17), .val (.int v24), .val (.int v39), .val (.int v46), .unset] [(.long x3), (.long x2), (.ref b3), (.long r50)])) t → Steps p.tables e below (s₁.setTop (entryFrame m #[(.int x0), (.int x1), (.long x2), (.long x3), (.long x4), (.long x5)] maxLocals)) t := fun t k => pre51 t (by
    show Steps p.tables e below (T50.setTop (mkF m 140 #[.val (.int x0), .val (.int x1), .val (.long x2), .second, .val (.long x3), .second, .val (.long x4), .second, .val (.long x5), .second, .val (.int v1), .val (.ref b3), .val (.int v17), .val (.int v24), .val (.int v39), .val (.int v46), .unset] [(.long r50)])) _
    refine XS.aload X50.here hx rfl (hb hby at_140) rfl rfl ?_
    show Steps p.tables e below (T50.setTop (mkF m 142 #[.val (.int x0), .val (.int x1), .val (.long x2), .second, .val (.long x3), .second, .val (.long x4), .second, .val (.long x5), .second, .val (.int v1), .val (.ref b3), .val (.int v17), .val (.int v24), .val (.int v39), .val (.int v46), .unset] [(.ref b3), (.long r50)])) _
    refine XS.lloadN X50.here hx rfl (hb hby at_142) rfl ?_
    show Steps p.tables e below (T50.setTop (mkF m 143 #[.val (.int x0), .val (.int x1), .val (.long x2), .second, .val (.long x3), .second, .val (.long x4), .second, .val (.long x5), .second, .val (.int v1), .val (.ref b3), .val (.int v17), .val (.int v24), .val (.int v39), .val (.int v46), .unset] [(.long x2), (.ref b3), (.long r50)])) _
    refine XS.lload X50.here hx rfl (hb hby at_143) rfl ?_
    show Steps p.tables e below (T50.setTop (mkF m 145 #[.val (.int x0), .val (.int x1), .val (.long x2), .second, .val (.long x3), .second, .val (.long x4), .second, .val (.long x5), .second, .val (.int v1), .val (.ref b3), .val (.int v17), .val (.int v24), .val (.int v39), .val (.int v46), .unset] [(.long x3), (.long x2), (.ref b3), (.long r50)])) _
    exact k)
  obtain ⟨cq54, kq54, q54a, q54b, q54c⟩ := isOf hZ e50 Ec7
  obtain ⟨_, _, ⟨T54, L54, k54, n54⟩, -, X54, ⟨Lc54, hQ54, l54, y54, z54⟩, st54⟩ := X50.virtualBack hx (y := (⟨"com/example/crownfield/crownfield/search/Step", "line", "(JJ)J"⟩ : MethodName)) (z := (⟨"com/example/crownfield/crownfield/search/Step", "line", "(JJ)J"⟩ : MethodName)) hown (mvT hZ (hw _ (List.mem_of_getElem? (i := 19) rfl))) (mvT hZ (hw _ (List.mem_of_getElem? (i := 20) rfl))) (notFace_of_selects (args := #[]) (mvT hZ (hw _ (List.mem_of_getElem? (i := 22) rfl)))) (mvT hZ (hw _ (List.mem_of_getElem? (i := 22) rfl))) (mvT hZ (hw _ (List.mem_of_getElem? (i := 21) rfl))) (by decide) (backOf (W := 2) (rm4 l Z a0 hw [] b3 x2 x3 v1 x1 T7.heap n0 Zz7 Fc7_rows Fc7_columns) hZ (hw _ (List.mem_of_getElem? (i := 23) rfl)) (hw _ (List.mem_of_getElem? (i := 3) rfl)) (by decide) (by decide)) q54a q54c (g := (mkF m 145 #[.val (.int x0), .val (.int x1), .val (.long x2), .second, .val (.long x3), .second, .val (.long x4), .second, .val (.long x5), .second, .val (.int v1), .val (.ref b3), .val (.int v17), .val (.int v24), .val (.int v39), .val (.int v46), .unset] [(.long x3), (.long x2), (.ref b3), (.long r50)])) rfl (by rw [hml]; rfl) (Steps.refl _) (argsL := [(.long x2), (.long x3)]) (rest := [(.long r50)]) (lenOf pd_2 rfl) rfl (by show 2 * 0 + _ ≤ _; exact Nat.le_of_eq rfl) (hb hby at_145) (fun _ _ => ⟨rfl, e50, (by decide : 1 + 0 ≤ _), (by decide : 2 + 0 ≤ _)⟩)
  dsimp only [Pt.U, Pt.locs, Pt.cells, Pt.slots] at X54 l54 y54 z54 st54 hQ54
  subst l54 y54 z54
  obtain ⟨r54, rfl, N54q, e54, P54⟩ := hQ54
  have N54 := Fr.app N50 N54q
  have pre55 : ∀ t, Steps p.tables e below (T54.setTop (mkF m 148 #[.val (.int x0), .val (.int x1), .val (.long x2), .second, .val (.long x3), .second, .val (.long x4), .second, .val (.long x5), .second, .val (.int v1), .val (.ref b3), .val (.int v17), .val (.int v24), .val (.int v39), .val (.int v46), .unset] [(.long r54), (.long r50)])) t → Steps p.tables e below (s₁.setTop (entryFrame m #[(.int x0), (.int x1), (.long x2), (.long x3), (.long x4), (.long x5)] maxLocals)) t := fun t k => pre52 t (st54.trans k)
  obtain ⟨v57, hv57⟩ : ∃ z : Int32, z = (if r50 = r54 then (1 : Int32) else (0 : Int32)) := ⟨_, rfl⟩
  have pre58 : ∀ t, Steps p.tables e below (T54.setTop (mkF m 157 #[.val (.int x0), .val (.int x1), .val (.long x2), .second, .val (.long x3), .second, .val (.long x4), .second, .val (.long x5), .second, .val (.int v1), .val (.ref b3), .val (.int v17), .val (.int v24), .val (.int v39), .val (.int v46), .unset] [(.int v57)])) t → Steps p.tables e below (s₁.setTop (entryFrame m #[(.int x0), (.int x1), (.long x2), (.long x3), (.long x4), (.long x5)] maxLocals)) t := fun t k => pre55 t (by
    show Steps p.tables e below (T54.setTop (mkF m 148 #[.val (.int x0), .val (.int x1), .val (.long x2), .second, .val (.long x3), .second, .val (.long x4), .second, .val (.long x5), .second, .val (.int v1), .val (.ref b3), .val (.int v17), .val (.int v24), .val (.int v39), .val (.int v46), .unset] [(.long r54), (.long r50)])) _
    refine XS.lcmp X54.here hx rfl (hb hby at_148) rfl ?_
    show Steps p.tables e below (T54.setTop (mkF m 149 #[.val (.int x0), .val (.int x1), .val (.long x2), .second, .val (.long x3), .second, .val (.long x4), .second, .val (.long x5), .second, .val (.int v1), .val (.ref b3), .val (.int v17), .val (.int v24), .val (.int v39), .val (.int v46), .unset] [(.int (lcmpW r50 r54))])) _
    by_cases hc56 : r50 = r54
    · skip
      refine XS.ifNo X54.here hx rfl (hb hby at_149) rfl ((if0 _ _).trans (teq ((lw_eq _ _).mpr hc56)).2) ?_
      show Steps p.tables e below (T54.setTop (mkF m 152 #[.val (.int x0), .val (.int x1), .val (.long x2), .second, .val (.long x3), .second, .val (.long x4), .second, .val (.long x5), .second, .val (.int v1), .val (.ref b3), .val (.int v17), .val (.int v24), .val (.int v39), .val (.int v46), .unset] [])) _
      refine XS.iconst X54.here hx rfl (hb hby at_152) ?_
      show Steps p.tables e below (T54.setTop (mkF m 153 #[.val (.int x0), .val (.int x1), .val (.long x2), .second, .val (.long x3), .second, .val (.long x4), .second, .val (.long x5), .second, .val (.int v1), .val (.ref b3), .val (.int v17), .val (.int v24), .val (.int v39), .val (.int v46), .unset] [(.int (1 : Int32))])) _
      refine XS.goto X54.here hx rfl (pc0 := 153) (pc' := 157) rfl (hb hby at_153) (by decide) (by decide) ?_
      show Steps p.tables e below (T54.setTop (mkF m 157 #[.val (.int x0), .val (.int x1), .val (.long x2), .second, .val (.long x3), .second, .val (.long x4), .second, .val (.long x5), .second, .val (.int v1), .val (.ref b3), .val (.int v17), .val (.int v24), .val (.int v39), .val (.int v46), .unset] [(.int (1 : Int32))])) _
      rw [show v57 = (1 : Int32) from by rw [hv57, if_pos hc56]] at k
      exact k
    · skip
      refine XS.ifYes X54.here hx rfl (pc0 := 149) (pc' := 156) rfl (hb hby at_149) rfl ((if0 _ _).trans (feq (fun q => hc56 ((lw_eq _ _).mp q))).2) (by decide) (by decide) ?_
      show Steps p.tables e below (T54.setTop (mkF m 156 #[.val (.int x0), .val (.int x1), .val (.long x2), .second, .val (.long x3), .second, .val (.long x4), .second, .val (.long x5), .second, .val (.int v1), .val (.ref b3), .val (.int v17), .val (.int v24), .val (.int v39), .val (.int v46), .unset] [])) _
      refine XS.iconst X54.here hx rfl (hb hby at_156) ?_
      show Steps p.tables e below (T54.setTop (mkF m 157 #[.val (.int x0), .val (.int x1), .val (.long x2), .second, .val (.long x3), .second, .val (.long x4), .second, .val (.long x5), .second, .val (.int v1), .val (.ref b3), .val (.int v17), .val (.int v24), .val (.int v39), .val (.int v46), .unset] [(.int (0 : Int32))])) _
      rw [show v57 = (0 : Int32) from by rw [hv57, if_neg hc56]] at k
      exact k)
  obtain ⟨v64, hv64⟩ : ∃ z : Int32, z = (if v17 = (0 : Int32) then (0 : Int32) else (if v24 = (0 : Int32) then (0 : Int32) else (if v39 = (0 : Int32) then (0 : Int32) else (if v46 = (0 : Int32) then (0 : Int32) else (if v57 = (0 : Int32) then (0 : Int32) else (1 : Int32)))))) := ⟨_, rfl⟩
  have pre65 : ∀ t, Steps p.tables e below (T54.setTop (mkF m 189 #[.val (.int x0), .val (.int x1), .val (.long x2), .second, .val (.long x3), .second, .val (.long x4), .second, .val (.long x5), .second, .val (.int v1), .val (.ref b3), .val (.int v17), .val (.int v24), .val (.int v39), .val (.int v46), .val (.int v57)] [(.int v64)])) t → Steps p.tables e below (s₁.setTop (entryFrame m #[(.int x0), (.int x1), (.long x2), (.long x3), (.long x4), (.long x5)] maxLocals)) t := fun t k => pre58 t (by
    show Steps p.tables e below (T54.setTop (mkF m 157 #[.val (.int x0), .val (.int x1), .val (.long x2), .second, .val (.long x3), .second, .val (.long x4), .second, .val (.long x5), .second, .val (.int v1), .val (.ref b3), .val (.int v17), .val (.int v24), .val (.int v39), .val (.int v46), .unset] [(.int v57)])) _
    refine XS.istore X54.here hx rfl (hb hby at_157) rfl (l' := #[.val (.int x0), .val (.int x1), .val (.long x2), .second, .val (.long x3), .second, .val (.long x4), .second, .val (.long x5), .second, .val (.int v1), .val (.ref b3), .val (.int v17), .val (.int v24), .val (.int v39), .val (.int v46), .val (.int v57)]) rfl ?_
    show Steps p.tables e below (T54.setTop (mkF m 159 #[.val (.int x0), .val (.int x1), .val (.long x2), .second, .val (.long x3), .second, .val (.long x4), .second, .val (.long x5), .second, .val (.int v1), .val (.ref b3), .val (.int v17), .val (.int v24), .val (.int v39), .val (.int v46), .val (.int v57)] [])) _
    refine XS.iload X54.here hx rfl (hb hby at_159) rfl ?_
    show Steps p.tables e below (T54.setTop (mkF m 161 #[.val (.int x0), .val (.int x1), .val (.long x2), .second, .val (.long x3), .second, .val (.long x4), .second, .val (.long x5), .second, .val (.int v1), .val (.ref b3), .val (.int v17), .val (.int v24), .val (.int v39), .val (.int v46), .val (.int v57)] [(.int v17)])) _
    by_cases hc59 : v17 = (0 : Int32)
    · skip
      refine XS.ifYes X54.here hx rfl (pc0 := 161) (pc' := 188) rfl (hb hby at_161) rfl ((if0 _ _).trans (teq hc59).1) (by decide) (by decide) ?_
      show Steps p.tables e below (T54.setTop (mkF m 188 #[.val (.int x0), .val (.int x1), .val (.long x2), .second, .val (.long x3), .second, .val (.long x4), .second, .val (.long x5), .second, .val (.int v1), .val (.ref b3), .val (.int v17), .val (.int v24), .val (.int v39), .val (.int v46), .val (.int v57)] [])) _
      refine XS.iconst X54.here hx rfl (hb hby at_188) ?_
      show Steps p.tables e below (T54.setTop (mkF m 189 #[.val (.int x0), .val (.int x1), .val (.long x2), .second, .val (.long x3), .second, .val (.long x4), .second, .val (.long x5), .second, .val (.int v1), .val (.ref b3), .val (.int v17), .val (.int v24), .val (.int v39), .val (.int v46), .val (.int v57)] [(.int (0 : Int32))])) _
      rw [show v64 = (0 : Int32) from by rw [hv64, if_pos hc59]] at k
      exact k
    · skip
      refine XS.ifNo X54.here hx rfl (hb hby at_161) rfl ((if0 _ _).trans (feq hc59).1) ?_
      show Steps p.tables e below (T54.setTop (mkF m 164 #[.val (.int x0), .val (.int x1), .val (.long x2), .second, .val (.long x3), .second, .val (.long x4), .second, .val (.long x5), .second, .val (.int v1), .val (.ref b3), .val (.int v17), .val (.int v24), .val (.int v39), .val (.int v46), .val (.int v57)] [])) _
      refine XS.iload X54.here hx rfl (hb hby at_164) rfl ?_
      show Steps p.tables e below (T54.setTop (mkF m 166 #[.val (.int x0), .val (.int x1), .val (.long x2), .second, .val (.long x3), .second, .val (.long x4), .second, .val (.long x5), .second, .val (.int v1), .val (.ref b3), .val (.int v17), .val (.int v24), .val (.int v39), .val (.int v46), .val (.int v57)] [(.int v24)])) _
      by_cases hc60 : v24 = (0 : Int32)
      · skip
        refine XS.ifYes X54.here hx rfl (pc0 := 166) (pc' := 188) rfl (hb hby at_166) rfl ((if0 _ _).trans (teq hc60).1) (by decide) (by decide) ?_
        show Steps p.tables e below (T54.setTop (mkF m 188 #[.val (.int x0), .val (.int x1), .val (.long x2), .second, .val (.long x3), .second, .val (.long x4), .second, .val (.long x5), .second, .val (.int v1), .val (.ref b3), .val (.int v17), .val (.int v24), .val (.int v39), .val (.int v46), .val (.int v57)] [])) _
        refine XS.iconst X54.here hx rfl (hb hby at_188) ?_
        show Steps p.tables e below (T54.setTop (mkF m 189 #[.val (.int x0), .val (.int x1), .val (.long x2), .second, .val (.long x3), .second, .val (.long x4), .second, .val (.long x5), .second, .val (.int v1), .val (.ref b3), .val (.int v17), .val (.int v24), .val (.int v39), .val (.int v46), .val (.int v57)] [(.int (0 : Int32))])) _
        rw [show v64 = (0 : Int32) from by rw [hv64, if_neg hc59, if_pos hc60]] at k
        exact k
      · skip
        refine XS.ifNo X54.here hx rfl (hb hby at_166) rfl ((if0 _ _).trans (feq hc60).1) ?_
        show Steps p.tables e below (T54.setTop (mkF m 169 #[.val (.int x0), .val (.int x1), .val (.long x2), .second, .val (.long x3), .second, .val (.long x4), .second, .val (.long x5), .second, .val (.int v1), .val (.ref b3), .val (.int v17), .val (.int v24), .val (.int v39), .val (.int v46), .val (.int v57)] [])) _
        refine XS.iload X54.here hx rfl (hb hby at_169) rfl ?_
        show Steps p.tables e below (T54.setTop (mkF m 171 #[.val (.int x0), .val (.int x1), .val (.long x2), .second, .val (.long x3), .second, .val (.long x4), .second, .val (.long x5), .second, .val (.int v1), .val (.ref b3), .val (.int v17), .val (.int v24), .val (.int v39), .val (.int v46), .val (.int v57)] [(.int v39)])) _
        by_cases hc61 : v39 = (0 : Int32)
        · skip
          refine XS.ifYes X54.here hx rfl (pc0 := 171) (pc' := 188) rfl (hb hby at_171) rfl ((if0 _ _).trans (teq hc61).1) (by decide) (by decide) ?_
          show Steps p.tables e below (T54.setTop (mkF m 188 #[.val (.int x0), .val (.int x1), .val (.long x2), .second, .val (.long x3), .second, .val (.long x4), .second, .val (.long x5), .second, .val (.int v1), .val (.ref b3), .val (.int v17), .val (.int v24), .val (.int v39), .val (.int v46), .val (.int v57)] [])) _
          refine XS.iconst X54.here hx rfl (hb hby at_188) ?_
          show Steps p.tables e below (T54.setTop (mkF m 189 #[.val (.int x0), .val (.int x1), .val (.long x2), .second, .val (.long x3), .second, .val (.long x4), .second, .val (.long x5), .second, .val (.int v1), .val (.ref b3), .val (.int v17), .val (.int v24), .val (.int v39), .val (.int v46), .val (.int v57)] [(.int (0 : Int32))])) _
          rw [show v64 = (0 : Int32) from by rw [hv64, if_neg hc59, if_neg hc60, if_pos hc61]] at k
          exact k
        · skip
          refine XS.ifNo X54.here hx rfl (hb hby at_171) rfl ((if0 _ _).trans (feq hc61).1) ?_
          show Steps p.tables e below (T54.setTop (mkF m 174 #[.val (.int x0), .val (.int x1), .val (.long x2), .second, .val (.long x3), .second, .val (.long x4), .second, .val (.long x5), .second, .val (.int v1), .val (.ref b3), .val (.int v17), .val (.int v24), .val (.int v39), .val (.int v46), .val (.int v57)] [])) _
          refine XS.iload X54.here hx rfl (hb hby at_174) rfl ?_
          show Steps p.tables e below (T54.setTop (mkF m 176 #[.val (.int x0), .val (.int x1), .val (.long x2), .second, .val (.long x3), .second, .val (.long x4), .second, .val (.long x5), .second, .val (.int v1), .val (.ref b3), .val (.int v17), .val (.int v24), .val (.int v39), .val (.int v46), .val (.int v57)] [(.int v46)])) _
          by_cases hc62 : v46 = (0 : Int32)
          · skip
            refine XS.ifYes X54.here hx rfl (pc0 := 176) (pc' := 188) rfl (hb hby at_176) rfl ((if0 _ _).trans (teq hc62).1) (by decide) (by decide) ?_
            show Steps p.tables e below (T54.setTop (mkF m 188 #[.val (.int x0), .val (.int x1), .val (.long x2), .second, .val (.long x3), .second, .val (.long x4), .second, .val (.long x5), .second, .val (.int v1), .val (.ref b3), .val (.int v17), .val (.int v24), .val (.int v39), .val (.int v46), .val (.int v57)] [])) _
            refine XS.iconst X54.here hx rfl (hb hby at_188) ?_
            show Steps p.tables e below (T54.setTop (mkF m 189 #[.val (.int x0), .val (.int x1), .val (.long x2), .second, .val (.long x3), .second, .val (.long x4), .second, .val (.long x5), .second, .val (.int v1), .val (.ref b3), .val (.int v17), .val (.int v24), .val (.int v39), .val (.int v46), .val (.int v57)] [(.int (0 : Int32))])) _
            rw [show v64 = (0 : Int32) from by rw [hv64, if_neg hc59, if_neg hc60, if_neg hc61, if_pos hc62]] at k
            exact k
          · skip
            refine XS.ifNo X54.here hx rfl (hb hby at_176) rfl ((if0 _ _).trans (feq hc62).1) ?_
            show Steps p.tables e below (T54.setTop (mkF m 179 #[.val (.int x0), .val (.int x1), .val (.long x2), .second, .val (.long x3), .second, .val (.long x4), .second, .val (.long x5), .second, .val (.int v1), .val (.ref b3), .val (.int v17), .val (.int v24), .val (.int v39), .val (.int v46), .val (.int v57)] [])) _
            refine XS.iload X54.here hx rfl (hb hby at_179) rfl ?_
            show Steps p.tables e below (T54.setTop (mkF m 181 #[.val (.int x0), .val (.int x1), .val (.long x2), .second, .val (.long x3), .second, .val (.long x4), .second, .val (.long x5), .second, .val (.int v1), .val (.ref b3), .val (.int v17), .val (.int v24), .val (.int v39), .val (.int v46), .val (.int v57)] [(.int v57)])) _
            by_cases hc63 : v57 = (0 : Int32)
            · skip
              refine XS.ifYes X54.here hx rfl (pc0 := 181) (pc' := 188) rfl (hb hby at_181) rfl ((if0 _ _).trans (teq hc63).1) (by decide) (by decide) ?_
              show Steps p.tables e below (T54.setTop (mkF m 188 #[.val (.int x0), .val (.int x1), .val (.long x2), .second, .val (.long x3), .second, .val (.long x4), .second, .val (.long x5), .second, .val (.int v1), .val (.ref b3), .val (.int v17), .val (.int v24), .val (.int v39), .val (.int v46), .val (.int v57)] [])) _
              refine XS.iconst X54.here hx rfl (hb hby at_188) ?_
              show Steps p.tables e below (T54.setTop (mkF m 189 #[.val (.int x0), .val (.int x1), .val (.long x2), .second, .val (.long x3), .second, .val (.long x4), .second, .val (.long x5), .second, .val (.int v1), .val (.ref b3), .val (.int v17), .val (.int v24), .val (.int v39), .val (.int v46), .val (.int v57)] [(.int (0 : Int32))])) _
              rw [show v64 = (0 : Int32) from by rw [hv64, if_neg hc59, if_neg hc60, if_neg hc61, if_neg hc62, if_pos hc63]] at k
              exact k
            · skip
              refine XS.ifNo X54.here hx rfl (hb hby at_181) rfl ((if0 _ _).trans (feq hc63).1) ?_
              show Steps p.tables e below (T54.setTop (mkF m 184 #[.val (.int x0), .val (.int x1), .val (.long x2), .second, .val (.long x3), .second, .val (.long x4), .second, .val (.long x5), .second, .val (.int v1), .val (.ref b3), .val (.int v17), .val (.int v24), .val (.int v39), .val (.int v46), .val (.int v57)] [])) _
              refine XS.iconst X54.here hx rfl (hb hby at_184) ?_
              show Steps p.tables e below (T54.setTop (mkF m 185 #[.val (.int x0), .val (.int x1), .val (.long x2), .second, .val (.long x3), .second, .val (.long x4), .second, .val (.long x5), .second, .val (.int v1), .val (.ref b3), .val (.int v17), .val (.int v24), .val (.int v39), .val (.int v46), .val (.int v57)] [(.int (1 : Int32))])) _
              refine XS.goto X54.here hx rfl (pc0 := 185) (pc' := 189) rfl (hb hby at_185) (by decide) (by decide) ?_
              show Steps p.tables e below (T54.setTop (mkF m 189 #[.val (.int x0), .val (.int x1), .val (.long x2), .second, .val (.long x3), .second, .val (.long x4), .second, .val (.long x5), .second, .val (.int v1), .val (.ref b3), .val (.int v17), .val (.int v24), .val (.int v39), .val (.int v46), .val (.int v57)] [(.int (1 : Int32))])) _
              rw [show v64 = (1 : Int32) from by rw [hv64, if_neg hc59, if_neg hc60, if_neg hc61, if_neg hc62, if_neg hc63]] at k
              exact k)
  obtain rfl : v64 = (1 : Int32) := by exact own_fin x0 x1 x2 x3 x4 x5 v1 r14 v17 r21 v24 r28 r32 r36 v39 r43 v46 r50 r54 v57 v64 hv1 P14 hv17 P21 hv24 P28 P32 P36 hv39 P43 hv46 P50 P54 hv57 hv64
  obtain ⟨fs, hr, hrun, hended, hW, hsame⟩ := X54.leave (v := some (.int (1 : Int32))) (fun h => by rw [Bd.returns] at h; cases h)
  refine ⟨_, _, pre65 _ ?_, hrun, hended, _, _, rfl, ?_, ⟨_, rfl⟩, hW, hsame.mono (by decide) (by decide)⟩
  · show Steps p.tables e below (T54.setTop (mkF m 189 #[.val (.int x0), .val (.int x1), .val (.long x2), .second, .val (.long x3), .second, .val (.long x4), .second, .val (.long x5), .second, .val (.int v1), .val (.ref b3), .val (.int v17), .val (.int v24), .val (.int v39), .val (.int v46), .val (.int v57)] [(.int (1 : Int32))])) _
    exact retN X54 hx (t := .boolean) Bd.returns (by simp) (hb hby at_189) hr
  · show Q0 Z x0 x1 x2 x3 x4 x5 h0 n0 _ T54.heap _
    rw [e54]
    exact ⟨rfl, N54⟩
set_option maxRecDepth 65536 in
set_option maxHeartbeats 40000000 in
theorem comes_1 {Post : Tables → Env → Array Value → State → Outcome → State → Prop} (hpost : ∀ tb e args s v u, (limb_1_1.after args s (.returned v) u = true ∧ limb_1_2.after args s (.returned v) u = true ∧ True) → FrameEnd s (.returned v) u (Jvm.fieldLocs frame_1_writes args s ++ Jvm.arrayLocs frame_1_arrays args s ++ Jvm.staticLocs frame_1_statics s) 16 128 → Post tb e args s (.returned v) u) :
    ArmFor flags0 classFile x code maxLocals ret World_1 tables_1 room_1 Calls_1 rest_1 Pre_1 Post := by
  intro l hfl _ _ p e ha hc hk s m args below hf hA hF happ hP
  obtain ⟨hcalls, hrest, hpre⟩ := hP
  obtain ⟨-, -, -, hnamed, -, -, -, hat⟩ := (Spec.applies_iff hf).mp happ
  obtain ⟨hg, hn⟩ := and_e (Cond.before_iff.mp (show (Jvm.Cond.and given_1 narrow_1).before args s = true from hpre))
  obtain ⟨hcount, hg0⟩ := and_e hg
  obtain ⟨ha0, hg1⟩ := and_e hg0
  obtain ⟨ha1, hg2⟩ := and_e hg1
  obtain ⟨ha2, hg3⟩ := and_e hg2
  obtain ⟨ha3, hg4⟩ := and_e hg3
  obtain ⟨ha4, hg5⟩ := and_e hg4
  have ha5 := hg5
  obtain ⟨w0, w1, w2, w3, w4, w5, rfl⟩ : ∃ w0 w1 w2 w3 w4 w5 : Value, args = #[w0, w1, w2, w3, w4, w5] := by
    have hs : args.size = 6 := by simpa [Cond.value, given_1] using hcount
    obtain ⟨L⟩ := args
    match L, hs with
    | [w0, w1, w2, w3, w4, w5], _ => exact ⟨w0, w1, w2, w3, w4, w5, rfl⟩
  have hw := fun d (hd : d ∈ tables_1) => atoms_spec (ws := Jvm.Cond.code x code maxLocals ret :: tables_1) hat d (List.mem_cons_of_mem _ hd)
  obtain ⟨i0, ei0⟩ := is_v ha0
  obtain rfl : w0 = (.int i0) := Option.some.inj ei0
  obtain ⟨i1, ei1⟩ := is_v ha1
  obtain rfl : w1 = (.int i1) := Option.some.inj ei1
  obtain ⟨i2, ei2⟩ := isL_v ha2
  obtain rfl : w2 = (.long i2) := Option.some.inj ei2
  obtain ⟨i3, ei3⟩ := isL_v ha3
  obtain rfl : w3 = (.long i3) := Option.some.inj ei3
  obtain ⟨i4, ei4⟩ := isL_v ha4
  obtain rfl : w4 = (.long i4) := Option.some.inj ei4
  obtain ⟨i5, ei5⟩ := isL_v ha5
  obtain rfl : w5 = (.long i5) := Option.some.inj ei5
  obtain ⟨n, o, h1, h2, h3, _, L, rfl, ⟨rfl, N⟩, hq⟩ := rm0 l s _ hw tables_1 i0 i1 i2 i3 i4 i5  s.heap s.heap.size (Nat.le_refl _) p e ha hc hk s m _ below hf ((Spec.applies_iff_loose hf).mp happ).1 ⟨rfl, State.Warmed39.refl s, rfl⟩ trivial
  refine ⟨n, _, h1, h2, h3, hpost _ _ _ _ _ _ ⟨Cond.after_iff.mpr rfl, Cond.after_iff.mpr (eq_i res_at (Term.int_eval (1)) rfl), trivial⟩ ⟨hq.1, hq.2.1, (hq.2.2.sift fun y hy => Or.inr (N y hy)).mono (by decide) (by decide)⟩⟩
theorem main_1_1 : Claimed_1_1 := comes_1 fun _ _ _ _ _ _ h hF => ⟨h.1, hF⟩
theorem main_1_2 : Claimed_1_2 := comes_1 fun _ _ _ _ _ _ h hF => ⟨h.2.1, hF⟩
end Jvm.Pilot.@@N@@
namespace Jvm.Pilot.@@N@@
open Jvm Jvm.ClassFile Sem Op Lib Jvm.Free Jvm.Stand Jvm.Pilot.@@N@@.Jvm.D
/-! MADE BY PROGRAM (witnessworld.py) out of the Statement's table words and the real class files: 10 classes; the members and pool entries that the words name. The judged class is class 1, her method 1. -/
namespace start1
open Jvm.ClassFile
def u (s : String) : CpInfo := .utf8 (stringToUtf16 s)
/-- a pool by its gaps: so many unusable entries, then the entry; so many at the end -/
def gap : Nat → List CpInfo → List CpInfo
  | 0, r => r
  | n + 1, r => .unusable :: gap n r
def poolList (es : List (Nat × CpInfo)) (last : Nat) : List CpInfo := es.foldr (fun e r => gap e.1 (e.2 :: r)) (gap last [])
def pool (es : List (Nat × CpInfo)) (last : Nat) : Array CpInfo := ⟨poolList es last⟩
def fileOf (pool : Array CpInfo) (this : Nat) (attrs : Array Attribute := #[]) (ms : Array MethodInfo := #[]) (fl : Nat := 33) (sup : Nat := 0) (ifs : Array Nat := #[]) (fds : Array FieldInfo := #[]) : ClassFile where
  minorVersion := 0
  majorVersion := 65
  constantPool := pool
  accessFlags := fl
  thisClass := this
  superClass := sup
  interfaces := ifs
  fields := fds
  methods := ms
  attributes := attrs
def plain (name : String) (sup : Option ClassId) : Class where
  name := name
  kind := .ordinary
  loader := none
  accessFlags := 33
  super := sup
  interfaces := #[]
  cf := none
  fields := #[]
  methods := #[]
  instanceTypes := #[]
  staticTypes := #[]
  resolved := #[]
  callSites := []
  init := .initialized
  statics := none
  mirror := none

def pool0 : Array CpInfo := pool [(5, u "<init>"), (0, u "()V"), (1, .class_ 10), (1, u "java/lang/Object")] 113

def k0c0 : Code := { maxStack := 0, maxLocals := 1, code := object_method_1_code, exceptionTable := #[], attributes := #[] }
def k0m0 : Method := { name := "<init>", desc := "()V", sig := { parameters := [], returnType := none }, accessFlags := 1, code := some k0c0 }
/-- java/lang/Object -/
def k0 : Class := { plain "java/lang/Object" none with
  accessFlags := 33
  interfaces := #[]
  cf := some (fileOf pool0 8 #[] #[{ accessFlags := 1, nameIndex := 5, descriptorIndex := 6, attributes := #[] }] 33 0 #[] #[])
  fields := #[]
  methods := #[k0m0]
  instanceTypes := #[]
  staticTypes := #[]
  resolved := Array.replicate 124 none
  statics := none }

def pool1 : Array CpInfo := pool [(2, .class_ 4), (1, u "java/lang/Object"), (0, u "<init>"), (0, u "()V"), (0, .integer 2147483647), (0, .class_ 9), (0, u "com/example/crownfield/crownfield/search/Step"), (0, .methodref 8 11), (0, .nameAndType 5 12), (0, u "(II)V"), (0, .methodref 8 14), (0, .nameAndType 15 16), (0, u "line"), (0, u "(JJ)J"), (0, .class_ 18), (0, u "com/example/crownfield/crownfield/search/StepLinePinLaw"), (2, u "law"), (0, u "(IIJJJJ)Z")] 3

def k1m0 : Method := { name := "<init>", desc := "()V", sig := { parameters := [], returnType := none }, accessFlags := 2, code := none }
def k1c1 : Code := { maxStack := 9, maxLocals := 17, code := code, exceptionTable := #[], attributes := #[] }
def k1m1 : Method := { name := "law", desc := "(IIJJJJ)Z", sig := { parameters := [.int, .int, .long, .long, .long, .long], returnType := some .boolean }, accessFlags := 9, code := some k1c1 }
/-- com/example/crownfield/crownfield/search/StepLinePinLaw -/
def k1 : Class := { plain "com/example/crownfield/crownfield/search/StepLinePinLaw" (some 0) with
  accessFlags := 49
  interfaces := #[]
  cf := some (fileOf pool1 17 #[] #[{ accessFlags := 2, nameIndex := 5, descriptorIndex := 6, attributes := #[] }, { accessFlags := 9, nameIndex := 21, descriptorIndex := 22, attributes := #[] }] 49 2 #[] #[])
  fields := #[]
  methods := #[k1m0, k1m1]
  instanceTypes := #[]
  staticTypes := #[]
  resolved := Array.replicate 26 none
  statics := none }

def pool2 : Array CpInfo := pool [(1, .methodref 2 3), (0, .class_ 4), (0, .nameAndType 5 6), (0, u "java/lang/Object"), (0, u "<init>"), (0, u "()V"), (0, .class_ 8), (0, u "java/lang/Record")] 13

def k2c0 : Code := { maxStack := 1, maxLocals := 1, code := jdk_30_method_1_code, exceptionTable := #[], attributes := #[] }
def k2m0 : Method := { name := "<init>", desc := "()V", sig := { parameters := [], returnType := none }, accessFlags := 4, code := some k2c0 }
/-- java/lang/Record -/
def k2 : Class := { plain "java/lang/Record" (some 0) with
  accessFlags := 1057
  interfaces := #[]
  cf := some (fileOf pool2 7 #[] #[{ accessFlags := 4, nameIndex := 5, descriptorIndex := 6, attributes := #[] }] 1057 2 #[] #[])
  fields := #[]
  methods := #[k2m0]
  instanceTypes := #[]
  staticTypes := #[]
  resolved := Array.replicate 22 none
  statics := none }

def pool3 : Array CpInfo := pool [(1, .methodref 2 3), (0, .class_ 4), (0, .nameAndType 5 6), (0, u "java/lang/Record"), (0, u "<init>"), (0, u "()V"), (0, .fieldref 8 9), (0, .class_ 10), (0, .nameAndType 11 12), (0, u "com/example/crownfield/crownfield/search/Step"), (0, u "rows"), (0, u "I"), (0, .fieldref 8 14), (0, .nameAndType 15 12), (0, u "columns"), (2, u "line"), (0, u "(JJ)J"), (14, u "(II)V"), (8, u "ROW_AND_COLUMN"), (0, u "Ljava/util/List;"), (2, u "DIAGONALS"), (5, u "KNIGHT")] 34

def k3c0 : Code := { maxStack := 2, maxLocals := 3, code := prog_50_method_1_code, exceptionTable := #[], attributes := #[] }
def k3m0 : Method := { name := "<init>", desc := "(II)V", sig := { parameters := [.int, .int], returnType := none }, accessFlags := 0, code := some k3c0 }
def k3c1 : Code := { maxStack := 6, maxLocals := 5, code := prog_50_method_3_code, exceptionTable := #[], attributes := #[] }
def k3m1 : Method := { name := "line", desc := "(JJ)J", sig := { parameters := [.long, .long], returnType := some .long }, accessFlags := 0, code := some k3c1 }
/-- com/example/crownfield/crownfield/search/Step -/
def k3 : Class := { plain "com/example/crownfield/crownfield/search/Step" (some 2) with
  accessFlags := 48
  interfaces := #[]
  cf := some (fileOf pool3 8 #[] #[{ accessFlags := 0, nameIndex := 5, descriptorIndex := 34, attributes := #[] }, { accessFlags := 0, nameIndex := 18, descriptorIndex := 19, attributes := #[] }] 48 2 #[] #[{ accessFlags := 18, nameIndex := 11, descriptorIndex := 12, attributes := #[] }, { accessFlags := 18, nameIndex := 15, descriptorIndex := 12, attributes := #[] }, { accessFlags := 24, nameIndex := 43, descriptorIndex := 44, attributes := #[] }, { accessFlags := 24, nameIndex := 47, descriptorIndex := 44, attributes := #[] }, { accessFlags := 24, nameIndex := 53, descriptorIndex := 44, attributes := #[] }])
  fields := #[{ name := "rows", type := .int, accessFlags := 18, slot := 0, constantValue := 0 }, { name := "columns", type := .int, accessFlags := 18, slot := 1, constantValue := 0 }, { name := "ROW_AND_COLUMN", type := (.object "java/util/List"), accessFlags := 24, slot := 0, constantValue := 0 }, { name := "DIAGONALS", type := (.object "java/util/List"), accessFlags := 24, slot := 1, constantValue := 0 }, { name := "KNIGHT", type := (.object "java/util/List"), accessFlags := 24, slot := 2, constantValue := 0 }]
  methods := #[k3m0, k3m1]
  instanceTypes := #[.int, .int]
  staticTypes := #[(.object "java/util/List"), (.object "java/util/List"), (.object "java/util/List")]
  resolved := Array.replicate 88 none
  statics := none }

def pool4 : Array CpInfo := pool [(1, u "java/lang/Cloneable"), (0, .class_ 1), (0, u "java/lang/Object"), (0, .class_ 3)] 3

/-- java/lang/Cloneable -/
def k4 : Class := { plain "java/lang/Cloneable" (some 0) with
  accessFlags := 1537
  interfaces := #[]
  cf := some (fileOf pool4 2 #[] #[] 1537 4 #[] #[])
  fields := #[]
  methods := #[]
  instanceTypes := #[]
  staticTypes := #[]
  resolved := Array.replicate 8 none
  statics := none }

def pool5 : Array CpInfo := pool [(1, u "java/io/Serializable"), (0, .class_ 1), (0, u "java/lang/Object"), (0, .class_ 3)] 3

/-- java/io/Serializable -/
def k5 : Class := { plain "java/io/Serializable" (some 0) with
  accessFlags := 1537
  interfaces := #[]
  cf := some (fileOf pool5 2 #[] #[] 1537 4 #[] #[])
  fields := #[]
  methods := #[]
  instanceTypes := #[]
  staticTypes := #[]
  resolved := Array.replicate 8 none
  statics := none }

/-- the primitive byte -/
def k6 : Class := { plain "byte" none with kind := .primitive 'B', accessFlags := 0x411 }
/-- [B -/
def k7 : Class := { plain "[B" (some 0) with kind := .array 6 .byte, interfaces := #[4, 5], accessFlags := 1041 }

/-- the primitive int -/
def k8 : Class := { plain "int" none with kind := .primitive 'I', accessFlags := 0x411 }
/-- [I -/
def k9 : Class := { plain "[I" (some 0) with kind := .array 8 .int, interfaces := #[4, 5], accessFlags := 1041 }

def heap : Heap := #[]
def classes : Array Class := #[k0, k1, k2, k3, k4, k5, k6, k7, k8, k9]
def interned : List (Array UInt16 × Addr) := []
def slotsUsed : Nat := 0
def theMethod : MethodId := ⟨1, 1⟩
def args0 : Array Value := #[.int 70, .int 5, .long 1, .long 2, .long 3, .long 4]
def aboutOver (below : List Frame) : State where
  vm := { classes := classes, interned := interned.toArray }
  heap := heap
  slotsUsed := slotsUsed
  threads := #[{ frames := .invoking theMethod args0 :: below }]
def below0 : List Frame := [.native { method := ⟨0, 0⟩, args := #[] }]
def about1 : State := aboutOver below0
def p0 : Program := .bare "" "" ""
def e0 : Env := launch0.env 0 0 0
theorem w_frames : about1.frames = Frame.invoking theMethod args0 :: below0 := rfl
set_option maxRecDepth 65536 in
theorem w_args : argsFit about1.vm theMethod args0 = true := by decide +kernel
set_option maxRecDepth 65536 in
theorem w_heap : heapFits about1 = true := by decide +kernel
set_option maxRecDepth 65536 in
theorem w_runnable : about1.curStatus? = some .runnable := by decide +kernel
set_option maxRecDepth 65536 in
theorem w_alone : about1.alone = true := by decide +kernel
set_option maxRecDepth 65536 in
theorem w_named : about1.methodNamed? x = some theMethod := by decide +kernel
set_option maxRecDepth 65536 in
theorem w_hears : about1.hears theMethod below0 = true := by decide +kernel
set_option maxRecDepth 65536 in
theorem w_ripe : about1.ripe theMethod args0 below0 = true := by decide +kernel
theorem w_running : about1.status = .running := rfl
set_option maxRecDepth 65536 in
theorem w_room : about1.hasRoom e0.platform room_1 = true :=
  launch0.hasRoom_least _ room_1 (by decide +kernel) (by decide +kernel) (by decide +kernel) (by decide +kernel) (by decide +kernel) (by decide +kernel)
theorem allAtoms_all (ts : List Jvm.Cond) (a : Array Jvm.Value) (st : Jvm.State) : (allAtoms ts).before a st = ts.all (fun c => c.before a st) := by
  induction ts with
  | nil => rfl
  | cons c t ih =>
    show (Jvm.Cond.and c (allAtoms t)).before a st = _
    rw [Jvm.Cond.before_and, ih, List.all_cons]
def words1 : List Jvm.Cond := Jvm.Cond.code x code maxLocals ret :: tables_1
/-- a 'code' word, met by the world's own term for the bytes: nothing is compared byte by byte -/
theorem code_word {y : MethodName} {bytes : ByteArray} {mx : Nat} {rt : Option FieldType} {a : Array Value} {s : State} {m : MethodId} {meth : Method} {c : Code} (h1 : s.methodNamed? y = some m) (h2 : s.vm.method? m = some meth) (h3 : meth.code = some c) (h4 : c.code = bytes)
    (h5 : (c.maxLocals == mx && c.exceptionTable.isEmpty && decide (c.maxStack ≤ mostOperands) && decide (meth.sig.returnType = rt) && !meth.locks && decide (parseMethodDescriptor y.desc = some meth.sig)) = true) : (Jvm.Cond.code y bytes mx rt).before a s = true := by
  simp only [Bool.and_eq_true, beq_iff_eq, Bool.not_eq_true', decide_eq_true_eq] at h5
  obtain ⟨⟨⟨⟨⟨g1, g2⟩, g3⟩, g4⟩, g5⟩, g6⟩ := h5
  simp [Cond.before, Cond.holds, Cond.value, h1, h2, h3, h4, g1, g2, g3, g4, g5, g6]
def isCode : Jvm.Cond → Bool
  | .code _ _ _ _ => true
  | _ => false
theorem all_split {L : List Jvm.Cond} {P : Jvm.Cond → Bool} (h1 : L.all (fun c => isCode c || P c) = true) (h2 : ∀ c ∈ L.filter isCode, P c = true) : L.all P = true := by
  refine List.all_eq_true.mpr fun c hc => ?_
  have h := List.all_eq_true.mp h1 c hc
  rcases Bool.eq_false_or_eq_true (isCode c) with hi | hi
  · exact h2 c (List.mem_filter.mpr ⟨hc, hi⟩)
  · simpa [hi] using h
set_option maxRecDepth 65536 in
theorem w_c0 : (Jvm.Cond.code x code maxLocals ret).before args0 about1 = true := code_word (m := ⟨1, 1⟩) (meth := k1m1) (c := k1c1) (by decide +kernel) rfl rfl rfl (by decide +kernel)
set_option maxRecDepth 65536 in
theorem w_c1 : (Jvm.Cond.code ({ cls := "com/example/crownfield/crownfield/search/Step", name := "<init>", desc := "(II)V" } : Jvm.MethodName) prog_50_method_1_code (3 : Nat) (Option.none : Option Jvm.ClassFile.FieldType)).before args0 about1 = true := code_word (m := ⟨3, 0⟩) (meth := k3m0) (c := k3c0) (by decide +kernel) rfl rfl rfl (by decide +kernel)
set_option maxRecDepth 65536 in
theorem w_c2 : (Jvm.Cond.code ({ cls := "java/lang/Record", name := "<init>", desc := "()V" } : Jvm.MethodName) jdk_30_method_1_code (1 : Nat) (Option.none : Option Jvm.ClassFile.FieldType)).before args0 about1 = true := code_word (m := ⟨2, 0⟩) (meth := k2m0) (c := k2c0) (by decide +kernel) rfl rfl rfl (by decide +kernel)
set_option maxRecDepth 65536 in
theorem w_c3 : (Jvm.Cond.code ({ cls := "java/lang/Object", name := "<init>", desc := "()V" } : Jvm.MethodName) object_method_1_code (1 : Nat) (Option.none : Option Jvm.ClassFile.FieldType)).before args0 about1 = true := code_word (m := ⟨0, 0⟩) (meth := k0m0) (c := k0c0) (by decide +kernel) rfl rfl rfl (by decide +kernel)
set_option maxRecDepth 65536 in
theorem w_c4 : (Jvm.Cond.code ({ cls := "com/example/crownfield/crownfield/search/Step", name := "line", desc := "(JJ)J" } : Jvm.MethodName) prog_50_method_3_code (5 : Nat) (Option.some Jvm.ClassFile.FieldType.long)).before args0 about1 = true := code_word (m := ⟨3, 1⟩) (meth := k3m1) (c := k3c1) (by decide +kernel) rfl rfl rfl (by decide +kernel)
def codes1 : List Jvm.Cond := [Jvm.Cond.code x code maxLocals ret, Jvm.Cond.code ({ cls := "com/example/crownfield/crownfield/search/Step", name := "<init>", desc := "(II)V" } : Jvm.MethodName) prog_50_method_1_code (3 : Nat) (Option.none : Option Jvm.ClassFile.FieldType), Jvm.Cond.code ({ cls := "java/lang/Record", name := "<init>", desc := "()V" } : Jvm.MethodName) jdk_30_method_1_code (1 : Nat) (Option.none : Option Jvm.ClassFile.FieldType), Jvm.Cond.code ({ cls := "java/lang/Object", name := "<init>", desc := "()V" } : Jvm.MethodName) object_method_1_code (1 : Nat) (Option.none : Option Jvm.ClassFile.FieldType), Jvm.Cond.code ({ cls := "com/example/crownfield/crownfield/search/Step", name := "line", desc := "(JJ)J" } : Jvm.MethodName) prog_50_method_3_code (5 : Nat) (Option.some Jvm.ClassFile.FieldType.long)]
set_option maxRecDepth 65536 in
theorem codes_eq : words1.filter isCode = codes1 := rfl
theorem w_codes : ∀ c ∈ words1.filter isCode, c.before args0 about1 = true := by
  rw [codes_eq]
  intro c hc
  simp only [codes1, List.mem_cons, List.not_mem_nil, or_false] at hc
  rcases hc with rfl | rfl | rfl | rfl | rfl
  · exact w_c0
  · exact w_c1
  · exact w_c2
  · exact w_c3
  · exact w_c4
set_option maxRecDepth 65536 in
theorem w_t1 : (words1.take 24).all (fun c => isCode c || c.before args0 about1) = true := by decide +kernel
set_option maxRecDepth 65536 in
theorem w_t2 : (words1.drop 24).all (fun c => isCode c || c.before args0 about1) = true := by decide +kernel
theorem w_tables : (allAtoms (Jvm.Cond.code x code maxLocals ret :: tables_1)).before args0 about1 = true := by
  rw [allAtoms_all]
  show words1.all (fun c => c.before args0 about1) = true
  refine all_split ?_ w_codes
  rw [← List.take_append_drop 24 words1, List.all_append, w_t1, w_t2]
  rfl
set_option maxRecDepth 65536 in
theorem w_case : (Jvm.Cond.and given_1 narrow_1).before args0 about1 = true := by decide +kernel
theorem w_applies : (headSpec (Jvm.Cond.code x code maxLocals ret :: tables_1) room_1).applies x e0.platform about1 = true :=
  (Spec.applies_iff w_frames).mpr ⟨w_running, w_runnable, w_alone, w_named, w_hears, w_ripe, w_room, w_tables⟩
theorem atStart : AtStart classFile x code maxLocals ret World_1 tables_1 room_1 Calls_1 rest_1 Pre_1 launch0 p0 e0 about1 theMethod args0 below0 :=
  ⟨lists_1, trivial, launch0.admits_env _ _ _, launch0.least_env, fairChoices_fair.cas, fairChoices_fair.clock, w_frames, w_args, w_heap, w_applies, trivial, trivial, w_case⟩
end start1
theorem witness_1 : WitnessClaimed_1 := ⟨start1.p0, start1.e0, start1.about1, start1.theMethod, start1.args0, start1.below0, start1.atStart⟩
end Jvm.Pilot.@@N@@
