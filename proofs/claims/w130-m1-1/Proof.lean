import JvmDerived
import JvmDerived.Pilot.@@N@@Statement
import JvmDerived.Pilot.@@N@@Code
set_option linter.unusedVariables false
set_option linter.unusedSimpArgs false
namespace Jvm.RoadKit
open Sem ClassFile Op Lib Jvm.Stand Jvm.Free Jvm.LawKit
section New
variable {p : Program} {l : Launch} {e : Env} {R : Room} {s : State} {m : MethodId} {args : Array Value} {below : List Frame} {meth : Method} {c : Code} {T : State} {locs : List Loc} {cells slots : Nat}
theorem retI (X : Stand p l e R s m args below meth c T locs cells slots) (hx : p.tables.exec = Jvm.exec) {pc : Nat} {Ls : Array Slot} {z : Int32} {rest : List Value} (hret : meth.sig.returnType = some .int) (hd : decode c.code pc = .ok (.ireturn, 1)) {fs : List Frame}
    (hl : ∀ (f : JFrame) (acts : List Action), f.method = m → f.locked = none → f.entered = [] → (doReturn e (T.setTop f) acts (some (.int z))).1 = T.setFrames fs) : Steps p.tables e below (T.setTop (mkF m pc Ls (.int z :: rest))) (T.setFrames fs) := by
  have hm' : T.vm.method? m = some meth := X.method'
  have hn : narrow .int (.int z) = .int z := rfl
  show Steps p.tables e below (T.setTop { method := m, pc := pc, locals := Ls, stack := _ :: rest, locked := none }) _
  jvm_step X.here [X.here.top, hx, hd, hm', hret, hn]
  first | (intro acts; rw [hl _ acts rfl rfl rfl]) | rw [hl _ _ rfl rfl rfl]
  exact Steps.refl _
end New
end Jvm.RoadKit
namespace Jvm.Pilot.@@N@@
open Jvm Jvm.ClassFile Sem Op Lib Jvm.Free Jvm.Stand Jvm.LawKit Jvm.RoadKit Bundle Jvm.Pilot.@@N@@.Jvm.D
theorem own_neg (x : Int32) (h : ¬ x = (-2147483648 : Int32)) : (-x).toInt64 = -(x.toInt64) := by
  have a := c_ineg x
  have b := c_lneg x.toInt64
  have c := c_i2l x
  have d := c_i2l (-x)
  have e := rng32 x
  have f := rng32 (-x)
  have g := rng64 (-(x.toInt64))
  have k : x.toInt ≠ -2147483648 := fun q => h (Int32.toInt_inj.mp q)
  apply Int64.toInt_inj.mp
  omega
theorem pn_0 : plainName "java/lang/Record" = true := by first | (simp [plainName, overriddenIn]; done) | decide +kernel
theorem d3_0 : decode jdk_30_method_1_code 0 = .ok (.aload_n 0, 1) := by decide +kernel
theorem d3_1 : decode jdk_30_method_1_code 1 = .ok (.invokespecial 1, 3) := by decide +kernel
theorem d3_4 : decode jdk_30_method_1_code 4 = .ok (.return_, 1) := by decide +kernel
theorem ef_3 (m : MethodId) (x0 : Addr) : entryFrame m #[(.ref x0)] 1 = mkF m 0 #[.val (.ref x0)] [] := by first | (simp [entryFrame, mkF, argsToLocals, Value.category]; done) | rfl
def Q3 (Z : State) (a : Addr) (h0 : Heap) (n0 : Nat) (v : Option Value) (h : Heap) (L : List Loc) : Prop := v = none ∧ Fr n0 L ∧ h = h0
set_option maxRecDepth 65536 in
set_option maxHeartbeats 40000000 in
theorem rm3 (l : Launch) (Z : State) (a0 : Array Value) (hw : ∀ d ∈ tables_1, d.before a0 Z = true) (ws : List Jvm.Cond) (a : Addr) (h0 : Heap) (n0 : Nat) (Z0 : n0 ≤ h0.size) :
    MetFree l (⟨"java/lang/Record", "<init>", "()V"⟩ : MethodName) (head1 (Jvm.Cond.code (⟨"java/lang/Record", "<init>", "()V"⟩ : MethodName) jdk_30_method_1_code 1 none :: ws) ({ frames := 1, cells := 0, slots := 0, locals := 12 } : Room)) (fun aa U => aa = #[(.ref a)] ∧ Z.Warmed39 U.vm ∧ U.heap = h0) (fun _ _ _ _ _ => True) (fun _ U o U' => ∃ v L, o = .returned v ∧ Q3 Z a h0 n0 v U'.heap L ∧ FrameEnd U o U' L ({ frames := 1, cells := 0, slots := 0, locals := 12 } : Room).cells ({ frames := 1, cells := 0, slots := 0, locals := 12 } : Room).slots) := by
  refine MetFree.of_bodySF (plainFor_of_name pn_0) hisR ?_
  intro p e s m args below meth c s₁ Bd hml0 hP hK
  obtain ⟨rfl, hZ, hh⟩ := hP
  have hx := Bd.exec
  have hby := Bd.bytes
  have hml : c.maxLocals = 1 := hml0
  have hown : s.vm.findClass "java/lang/Record" = some m.cls := findClass_of_methodNamed Bd.named
  have hnm := (name_of_methodNamed Bd.named Bd.method).1
  have X0 : Stand p l e ({ frames := 1, cells := 0, slots := 0, locals := 12 } : Room) s m #[(.ref a)] below meth c s₁ [] 0 0 := Stand.of_body Bd
  have e0 : s₁.heap = h0 := by rw [← hh, Bd.state]; rfl
  have N0 := Fr.nil n0
  have pre0 : ∀ t, Steps p.tables e below (s₁.setTop (mkF m 0 #[.val (.ref a)] [])) t → Steps p.tables e below (s₁.setTop (entryFrame m #[(.ref a)] 1)) t := fun t k => castTop (ef_3 m a) k
  have pre1 : ∀ t, Steps p.tables e below (s₁.setTop (mkF m 1 #[.val (.ref a)] [(.ref a)])) t → Steps p.tables e below (s₁.setTop (entryFrame m #[(.ref a)] 1)) t := fun t k => pre0 t (by
    show Steps p.tables e below (s₁.setTop (mkF m 0 #[.val (.ref a)] [])) _
    refine XS.aloadN X0.here hx rfl (hb hby d3_0) rfl rfl ?_
    show Steps p.tables e below (s₁.setTop (mkF m 1 #[.val (.ref a)] [(.ref a)])) _
    exact k)
  obtain ⟨T2, X2, e2, st2⟩ := initO X0 hx hZ hown (hw _ (List.mem_of_getElem? (i := 17) rfl)) (hw _ (List.mem_of_getElem? (i := 18) rfl)) (hw _ (List.mem_of_getElem? (i := 19) rfl)) e0 (g := (mkF m 1 #[.val (.ref a)] [(.ref a)])) rfl (by rw [hml]; rfl) rfl (hb hby d3_1) (by decide) (W := 0) (by show 2 * 0 + _ ≤ _; exact Nat.le_of_eq rfl) (by decide)
  have pre3 : ∀ t, Steps p.tables e below (T2.setTop (mkF m 4 #[.val (.ref a)] [])) t → Steps p.tables e below (s₁.setTop (entryFrame m #[(.ref a)] 1)) t := fun t k => pre1 t (st2 _ k)
  obtain ⟨fs, hr, hrun, hended, hW, hsame⟩ := X2.leave (v := none) (fun _ => rfl)
  refine ⟨_, _, pre3 _ ?_, hrun, hended, _, _, rfl, ?_, ⟨_, rfl⟩, hW, hsame.mono (by decide) (by decide)⟩
  · show Steps p.tables e below (T2.setTop (mkF m 4 #[.val (.ref a)] [])) _
    exact X2.returnOut hx Bd.returns (hb hby d3_4) hr
  · show Q3 Z a h0 n0 _ T2.heap _
    rw [e2]
    exact ⟨rfl, N0, rfl⟩
theorem pd_0 : parseMethodDescriptor "()V" = some ⟨[], none⟩ := by decide +kernel
theorem pn_1 : plainName "com/example/crownfield/crownfield/search/Step" = true := by first | (simp [plainName, overriddenIn]; done) | decide +kernel
theorem d2_0 : decode prog_50_method_1_code 0 = .ok (.aload_n 0, 1) := by decide +kernel
theorem d2_1 : decode prog_50_method_1_code 1 = .ok (.invokespecial 1, 3) := by decide +kernel
theorem d2_4 : decode prog_50_method_1_code 4 = .ok (.aload_n 0, 1) := by decide +kernel
theorem d2_5 : decode prog_50_method_1_code 5 = .ok (.iload_n 1, 1) := by decide +kernel
theorem d2_6 : decode prog_50_method_1_code 6 = .ok (.putfield 7, 3) := by decide +kernel
theorem d2_9 : decode prog_50_method_1_code 9 = .ok (.aload_n 0, 1) := by decide +kernel
theorem d2_10 : decode prog_50_method_1_code 10 = .ok (.iload_n 2, 1) := by decide +kernel
theorem d2_11 : decode prog_50_method_1_code 11 = .ok (.putfield 13, 3) := by decide +kernel
theorem d2_14 : decode prog_50_method_1_code 14 = .ok (.return_, 1) := by decide +kernel
theorem ef_2 (m : MethodId) (x0 : Addr) (x1 : Int32) (x2 : Int32) : entryFrame m #[(.ref x0), (.int x1), (.int x2)] 3 = mkF m 0 #[.val (.ref x0), .val (.int x1), .val (.int x2)] [] := by first | (simp [entryFrame, mkF, argsToLocals, Value.category]; done) | rfl
def Q2 (Z : State) (a : Addr) (x1 : Int32) (x2 : Int32) (h0 : Heap) (n0 : Nat) (v : Option Value) (h : Heap) (L : List Loc) : Prop := v = none ∧ Fr n0 L ∧ Keep h0 h [a] ∧ Exa Z h a "com/example/crownfield/crownfield/search/Step" ∧ Fld Z h a "com/example/crownfield/crownfield/search/Step" "rows" "I" (.int x1) ∧ Fld Z h a "com/example/crownfield/crownfield/search/Step" "columns" "I" (.int x2)
set_option maxRecDepth 65536 in
set_option maxHeartbeats 40000000 in
theorem rm2 (l : Launch) (Z : State) (a0 : Array Value) (hw : ∀ d ∈ tables_1, d.before a0 Z = true) (ws : List Jvm.Cond) (a : Addr) (x1 : Int32) (x2 : Int32) (h0 : Heap) (n0 : Nat) (Z0 : n0 ≤ h0.size) (Ea : Exa Z h0 a "com/example/crownfield/crownfield/search/Step") (F_rows : Fld Z h0 a "com/example/crownfield/crownfield/search/Step" "rows" "I" (.int (0 : Int32))) (F_columns : Fld Z h0 a "com/example/crownfield/crownfield/search/Step" "columns" "I" (.int (0 : Int32))) (ga : n0 ≤ a) :
    MetFree l (⟨"com/example/crownfield/crownfield/search/Step", "<init>", "(II)V"⟩ : MethodName) (head1 (Jvm.Cond.code (⟨"com/example/crownfield/crownfield/search/Step", "<init>", "(II)V"⟩ : MethodName) prog_50_method_1_code 3 none :: ws) ({ frames := 2, cells := 0, slots := 0, locals := 24 } : Room)) (fun aa U => aa = #[(.ref a), (.int x1), (.int x2)] ∧ Z.Warmed39 U.vm ∧ U.heap = h0) (fun _ _ _ _ _ => True) (fun _ U o U' => ∃ v L, o = .returned v ∧ Q2 Z a x1 x2 h0 n0 v U'.heap L ∧ FrameEnd U o U' L ({ frames := 2, cells := 0, slots := 0, locals := 24 } : Room).cells ({ frames := 2, cells := 0, slots := 0, locals := 24 } : Room).slots) := by
  refine MetFree.of_bodySF (plainFor_of_name pn_1) hisR ?_
  intro p e s m args below meth c s₁ Bd hml0 hP hK
  obtain ⟨rfl, hZ, hh⟩ := hP
  have hx := Bd.exec
  have hby := Bd.bytes
  have hml : c.maxLocals = 3 := hml0
  have hown : s.vm.findClass "com/example/crownfield/crownfield/search/Step" = some m.cls := findClass_of_methodNamed Bd.named
  have hnm := (name_of_methodNamed Bd.named Bd.method).1
  have X0 : Stand p l e ({ frames := 2, cells := 0, slots := 0, locals := 24 } : Room) s m #[(.ref a), (.int x1), (.int x2)] below meth c s₁ [] 0 0 := Stand.of_body Bd
  have e0 : s₁.heap = h0 := by rw [← hh, Bd.state]; rfl
  have N0 := Fr.nil n0
  have pre0 : ∀ t, Steps p.tables e below (s₁.setTop (mkF m 0 #[.val (.ref a), .val (.int x1), .val (.int x2)] [])) t → Steps p.tables e below (s₁.setTop (entryFrame m #[(.ref a), (.int x1), (.int x2)] 3)) t := fun t k => castTop (ef_2 m a x1 x2) k
  have pre1 : ∀ t, Steps p.tables e below (s₁.setTop (mkF m 1 #[.val (.ref a), .val (.int x1), .val (.int x2)] [(.ref a)])) t → Steps p.tables e below (s₁.setTop (entryFrame m #[(.ref a), (.int x1), (.int x2)] 3)) t := fun t k => pre0 t (by
    show Steps p.tables e below (s₁.setTop (mkF m 0 #[.val (.ref a), .val (.int x1), .val (.int x2)] [])) _
    refine XS.aloadN X0.here hx rfl (hb hby d2_0) rfl rfl ?_
    show Steps p.tables e below (s₁.setTop (mkF m 1 #[.val (.ref a), .val (.int x1), .val (.int x2)] [(.ref a)])) _
    exact k)
  obtain ⟨_, _, ⟨T3, L3, k3, n3⟩, -, X3, ⟨Lc3, hQ3, l3, y3, z3⟩, st3⟩ := X0.specialBack hx (y := (⟨"java/lang/Record", "<init>", "()V"⟩ : MethodName)) rfl hown (mvT hZ (hw _ (List.mem_of_getElem? (i := 12) rfl))) (mvT hZ (hw _ (List.mem_of_getElem? (i := 13) rfl))) (mvT hZ (hw _ (List.mem_of_getElem? (i := 16) rfl))) (by decide) (backOf (W := 0) (rm3 l Z a0 hw [] a  h0 n0 Z0 ) hZ (hw _ (List.mem_of_getElem? (i := 16) rfl)) (hw _ (List.mem_of_getElem? (i := 15) rfl)) (by decide) (by decide)) (g := (mkF m 1 #[.val (.ref a), .val (.int x1), .val (.int x2)] [(.ref a)])) rfl (by rw [hml]; rfl) (Steps.refl _) (a := a) (argsL := []) (rest := []) (lenOf pd_0 rfl) rfl (by show 2 * 0 + _ ≤ _; exact Nat.le_of_eq rfl) (hb hby d2_1) (fun _ _ => ⟨rfl, e0, (by decide : 0 + 0 ≤ _), (by decide : 0 + 0 ≤ _)⟩)
  dsimp only [Pt.U, Pt.locs, Pt.cells, Pt.slots] at X3 l3 y3 z3 st3 hQ3
  subst l3 y3 z3
  obtain ⟨rfl, N3q, e3⟩ := hQ3
  have N3 := Fr.app N0 N3q
  have pre4 : ∀ t, Steps p.tables e below (T3.setTop (mkF m 4 #[.val (.ref a), .val (.int x1), .val (.int x2)] [])) t → Steps p.tables e below (s₁.setTop (entryFrame m #[(.ref a), (.int x1), (.int x2)] 3)) t := fun t k => pre1 t (st3.trans k)
  have pre5 : ∀ t, Steps p.tables e below (T3.setTop (mkF m 6 #[.val (.ref a), .val (.int x1), .val (.int x2)] [(.int x1), (.ref a)])) t → Steps p.tables e below (s₁.setTop (entryFrame m #[(.ref a), (.int x1), (.int x2)] 3)) t := fun t k => pre4 t (by
    show Steps p.tables e below (T3.setTop (mkF m 4 #[.val (.ref a), .val (.int x1), .val (.int x2)] [])) _
    refine XS.aloadN X3.here hx rfl (hb hby d2_4) rfl rfl ?_
    show Steps p.tables e below (T3.setTop (mkF m 5 #[.val (.ref a), .val (.int x1), .val (.int x2)] [(.ref a)])) _
    refine XS.iloadN X3.here hx rfl (hb hby d2_5) rfl ?_
    show Steps p.tables e below (T3.setTop (mkF m 6 #[.val (.ref a), .val (.int x1), .val (.int x2)] [(.int x1), (.ref a)])) _
    exact k)
  obtain ⟨T6, h6, X6, e6, W6, st6⟩ := putF X3 hx hZ hown (host := "") (Or.inl (hw _ (List.mem_of_getElem? (i := 20) rfl))) Via.refl e3 F_rows Ea (Or.inr ⟨(hw _ (List.mem_of_getElem? (i := 21) rfl)), rfl, hnm⟩) (hw _ (List.mem_of_getElem? (i := 7) rfl)) (ty := .int) (by decide) rfl rfl (g := (mkF m 6 #[.val (.ref a), .val (.int x1), .val (.int x2)] [(.int x1), (.ref a)])) rfl rfl (hb hby d2_6)
  have Fw6 : Fld Z h6 a "com/example/crownfield/crownfield/search/Step" "rows" "I" (.int x1) := (F_rows).same W6
  have c7 := (Ea).wr W6
  have c9 := (F_columns).other W6 (Or.inr (slot_ne (Or.inr (hw _ (List.mem_of_getElem? (i := 23) rfl))) (Or.inr (hw _ (List.mem_of_getElem? (i := 21) rfl))) (by decide) (t := .int) (t' := .int) (by decide) (by decide)))
  have N6 := Fr.snoc X6 N3 ga
  have Zz6 : n0 ≤ h6.size := Nat.le_trans Z0 (Keep.of_wr W6).1
  have pre10 : ∀ t, Steps p.tables e below (T6.setTop (mkF m 9 #[.val (.ref a), .val (.int x1), .val (.int x2)] [])) t → Steps p.tables e below (s₁.setTop (entryFrame m #[(.ref a), (.int x1), (.int x2)] 3)) t := fun t k => pre5 t (st6 _ k)
  have Kp6 : Keep h0 h6 [a] := ((Keep.refl h0 [a])).wr W6 (Or.inl (List.mem_of_getElem? (i := 0) rfl))
  have pre11 : ∀ t, Steps p.tables e below (T6.setTop (mkF m 11 #[.val (.ref a), .val (.int x1), .val (.int x2)] [(.int x2), (.ref a)])) t → Steps p.tables e below (s₁.setTop (entryFrame m #[(.ref a), (.int x1), (.int x2)] 3)) t := fun t k => pre10 t (by
    show Steps p.tables e below (T6.setTop (mkF m 9 #[.val (.ref a), .val (.int x1), .val (.int x2)] [])) _
    refine XS.aloadN X6.here hx rfl (hb hby d2_9) rfl rfl ?_
    show Steps p.tables e below (T6.setTop (mkF m 10 #[.val (.ref a), .val (.int x1), .val (.int x2)] [(.ref a)])) _
    refine XS.iloadN X6.here hx rfl (hb hby d2_10) rfl ?_
    show Steps p.tables e below (T6.setTop (mkF m 11 #[.val (.ref a), .val (.int x1), .val (.int x2)] [(.int x2), (.ref a)])) _
    exact k)
  obtain ⟨T12, h12, X12, e12, W12, st12⟩ := putF X6 hx hZ hown (host := "") (Or.inl (hw _ (List.mem_of_getElem? (i := 22) rfl))) Via.refl e6 c9 c7 (Or.inr ⟨(hw _ (List.mem_of_getElem? (i := 23) rfl)), rfl, hnm⟩) (hw _ (List.mem_of_getElem? (i := 7) rfl)) (ty := .int) (by decide) rfl rfl (g := (mkF m 11 #[.val (.ref a), .val (.int x1), .val (.int x2)] [(.int x2), (.ref a)])) rfl rfl (hb hby d2_11)
  have Fw12 : Fld Z h12 a "com/example/crownfield/crownfield/search/Step" "columns" "I" (.int x2) := (c9).same W12
  have c13 := (c7).wr W12
  have c15 := (Fw6).other W12 (Or.inr (slot_ne (Or.inr (hw _ (List.mem_of_getElem? (i := 21) rfl))) (Or.inr (hw _ (List.mem_of_getElem? (i := 23) rfl))) (by decide) (t := .int) (t' := .int) (by decide) (by decide)))
  have N12 := Fr.snoc X12 N6 ga
  have Zz12 : n0 ≤ h12.size := Nat.le_trans Zz6 (Keep.of_wr W12).1
  have pre16 : ∀ t, Steps p.tables e below (T12.setTop (mkF m 14 #[.val (.ref a), .val (.int x1), .val (.int x2)] [])) t → Steps p.tables e below (s₁.setTop (entryFrame m #[(.ref a), (.int x1), (.int x2)] 3)) t := fun t k => pre11 t (st12 _ k)
  have Kp12 : Keep h0 h12 [a] := (Kp6).wr W12 (Or.inl (List.mem_of_getElem? (i := 0) rfl))
  obtain ⟨fs, hr, hrun, hended, hW, hsame⟩ := X12.leave (v := none) (fun _ => rfl)
  refine ⟨_, _, pre16 _ ?_, hrun, hended, _, _, rfl, ?_, ⟨_, rfl⟩, hW, hsame.mono (by decide) (by decide)⟩
  · show Steps p.tables e below (T12.setTop (mkF m 14 #[.val (.ref a), .val (.int x1), .val (.int x2)] [])) _
    exact X12.returnOut hx Bd.returns (hb hby d2_14) hr
  · show Q2 Z a x1 x2 h0 n0 _ T12.heap _
    rw [e12]
    exact ⟨rfl, N12, Kp12, c13, c15, Fw12⟩
def F5 (x1 : Int64) (x2 : Int64) (u_rows : Int32) (u_columns : Int32) : Int32 := (if x1 = (u_rows.toInt64) then (if x2 = (u_columns.toInt64) then (1 : Int32) else (if x1 = ((-u_rows).toInt64) then (nar .boolean (if x2 = ((-u_columns).toInt64) then (1 : Int32) else (0 : Int32))) else (0 : Int32))) else (if x1 = ((-u_rows).toInt64) then (nar .boolean (if x2 = ((-u_columns).toInt64) then (1 : Int32) else (0 : Int32))) else (0 : Int32)))
theorem d5_0 : decode prog_50_method_4_code 0 = .ok (.lload_n 1, 1) := by decide +kernel
theorem d5_1 : decode prog_50_method_4_code 1 = .ok (.aload_n 0, 1) := by decide +kernel
theorem d5_2 : decode prog_50_method_4_code 2 = .ok (.getfield 7, 3) := by decide +kernel
theorem d5_5 : decode prog_50_method_4_code 5 = .ok (.i2l, 1) := by decide +kernel
theorem d5_6 : decode prog_50_method_4_code 6 = .ok (.lcmp, 1) := by decide +kernel
theorem d5_7 : decode prog_50_method_4_code 7 = .ok (.ifCond .ne 13, 3) := by decide +kernel
theorem d5_10 : decode prog_50_method_4_code 10 = .ok (.lload_n 3, 1) := by decide +kernel
theorem d5_11 : decode prog_50_method_4_code 11 = .ok (.aload_n 0, 1) := by decide +kernel
theorem d5_12 : decode prog_50_method_4_code 12 = .ok (.getfield 13, 3) := by decide +kernel
theorem d5_15 : decode prog_50_method_4_code 15 = .ok (.i2l, 1) := by decide +kernel
theorem d5_16 : decode prog_50_method_4_code 16 = .ok (.lcmp, 1) := by decide +kernel
theorem d5_17 : decode prog_50_method_4_code 17 = .ok (.ifCond .eq 25, 3) := by decide +kernel
theorem d5_20 : decode prog_50_method_4_code 20 = .ok (.lload_n 1, 1) := by decide +kernel
theorem d5_21 : decode prog_50_method_4_code 21 = .ok (.aload_n 0, 1) := by decide +kernel
theorem d5_22 : decode prog_50_method_4_code 22 = .ok (.getfield 7, 3) := by decide +kernel
theorem d5_25 : decode prog_50_method_4_code 25 = .ok (.ineg, 1) := by decide +kernel
theorem d5_26 : decode prog_50_method_4_code 26 = .ok (.i2l, 1) := by decide +kernel
theorem d5_27 : decode prog_50_method_4_code 27 = .ok (.lcmp, 1) := by decide +kernel
theorem d5_28 : decode prog_50_method_4_code 28 = .ok (.ifCond .ne 18, 3) := by decide +kernel
theorem d5_31 : decode prog_50_method_4_code 31 = .ok (.lload_n 3, 1) := by decide +kernel
theorem d5_32 : decode prog_50_method_4_code 32 = .ok (.aload_n 0, 1) := by decide +kernel
theorem d5_33 : decode prog_50_method_4_code 33 = .ok (.getfield 13, 3) := by decide +kernel
theorem d5_36 : decode prog_50_method_4_code 36 = .ok (.ineg, 1) := by decide +kernel
theorem d5_37 : decode prog_50_method_4_code 37 = .ok (.i2l, 1) := by decide +kernel
theorem d5_38 : decode prog_50_method_4_code 38 = .ok (.lcmp, 1) := by decide +kernel
theorem d5_39 : decode prog_50_method_4_code 39 = .ok (.ifCond .ne 7, 3) := by decide +kernel
theorem d5_42 : decode prog_50_method_4_code 42 = .ok (.iconst 1, 1) := by decide +kernel
theorem d5_43 : decode prog_50_method_4_code 43 = .ok (.goto 4, 3) := by decide +kernel
theorem d5_46 : decode prog_50_method_4_code 46 = .ok (.iconst 0, 1) := by decide +kernel
theorem d5_47 : decode prog_50_method_4_code 47 = .ok (.ireturn, 1) := by decide +kernel
theorem ef_5 (m : MethodId) (x0 : Addr) (x1 : Int64) (x2 : Int64) : entryFrame m #[(.ref x0), (.long x1), (.long x2)] 5 = mkF m 0 #[.val (.ref x0), .val (.long x1), .second, .val (.long x2), .second] [] := by first | (simp [entryFrame, mkF, argsToLocals, Value.category]; done) | rfl
def Q5 (Z : State) (a : Addr) (x1 : Int64) (x2 : Int64) (u_rows : Int32) (u_columns : Int32) (h0 : Heap) (n0 : Nat) (v : Option Value) (h : Heap) (L : List Loc) : Prop := ∃ z : Int32, v = some (.int z) ∧ Fr n0 L ∧ h = h0 ∧ (z = F5 x1 x2 u_rows u_columns)
set_option maxRecDepth 65536 in
set_option maxHeartbeats 40000000 in
theorem rm5 (l : Launch) (Z : State) (a0 : Array Value) (hw : ∀ d ∈ tables_1, d.before a0 Z = true) (ws : List Jvm.Cond) (a : Addr) (x1 : Int64) (x2 : Int64) (u_rows : Int32) (u_columns : Int32) (h0 : Heap) (n0 : Nat) (Z0 : n0 ≤ h0.size) (F_rows : Fld Z h0 a "com/example/crownfield/crownfield/search/Step" "rows" "I" (.int u_rows)) (F_columns : Fld Z h0 a "com/example/crownfield/crownfield/search/Step" "columns" "I" (.int u_columns)) :
    MetFree l (⟨"com/example/crownfield/crownfield/search/Step", "reaches", "(JJ)Z"⟩ : MethodName) (head1 (Jvm.Cond.code (⟨"com/example/crownfield/crownfield/search/Step", "reaches", "(JJ)Z"⟩ : MethodName) prog_50_method_4_code 5 (some .boolean) :: ws) ({ frames := 0, cells := 0, slots := 0, locals := 0 } : Room)) (fun aa U => aa = #[(.ref a), (.long x1), (.long x2)] ∧ Z.Warmed39 U.vm ∧ U.heap = h0) (fun _ _ _ _ _ => True) (fun _ U o U' => ∃ v L, o = .returned v ∧ Q5 Z a x1 x2 u_rows u_columns h0 n0 v U'.heap L ∧ FrameEnd U o U' L ({ frames := 0, cells := 0, slots := 0, locals := 0 } : Room).cells ({ frames := 0, cells := 0, slots := 0, locals := 0 } : Room).slots) := by
  refine MetFree.of_bodySF (plainFor_of_name pn_1) hisR ?_
  intro p e s m args below meth c s₁ Bd hml0 hP hK
  obtain ⟨rfl, hZ, hh⟩ := hP
  have hx := Bd.exec
  have hby := Bd.bytes
  have hml : c.maxLocals = 5 := hml0
  have hown : s.vm.findClass "com/example/crownfield/crownfield/search/Step" = some m.cls := findClass_of_methodNamed Bd.named
  have hnm := (name_of_methodNamed Bd.named Bd.method).1
  have X0 : Stand p l e ({ frames := 0, cells := 0, slots := 0, locals := 0 } : Room) s m #[(.ref a), (.long x1), (.long x2)] below meth c s₁ [] 0 0 := Stand.of_body Bd
  have e0 : s₁.heap = h0 := by rw [← hh, Bd.state]; rfl
  have N0 := Fr.nil n0
  have pre0 : ∀ t, Steps p.tables e below (s₁.setTop (mkF m 0 #[.val (.ref a), .val (.long x1), .second, .val (.long x2), .second] [])) t → Steps p.tables e below (s₁.setTop (entryFrame m #[(.ref a), (.long x1), (.long x2)] 5)) t := fun t k => castTop (ef_5 m a x1 x2) k
  have pre1 : ∀ t, Steps p.tables e below (s₁.setTop (mkF m 2 #[.val (.ref a), .val (.long x1), .second, .val (.long x2), .second] [(.ref a), (.long x1)])) t → Steps p.tables e below (s₁.setTop (entryFrame m #[(.ref a), (.long x1), (.long x2)] 5)) t := fun t k => pre0 t (by
    show Steps p.tables e below (s₁.setTop (mkF m 0 #[.val (.ref a), .val (.long x1), .second, .val (.long x2), .second] [])) _
    refine XS.lloadN X0.here hx rfl (hb hby d5_0) rfl ?_
    show Steps p.tables e below (s₁.setTop (mkF m 1 #[.val (.ref a), .val (.long x1), .second, .val (.long x2), .second] [(.long x1)])) _
    refine XS.aloadN X0.here hx rfl (hb hby d5_1) rfl rfl ?_
    show Steps p.tables e below (s₁.setTop (mkF m 2 #[.val (.ref a), .val (.long x1), .second, .val (.long x2), .second] [(.ref a), (.long x1)])) _
    exact k)
  obtain ⟨T2, X2, e2, st2⟩ := getF X0 hx hZ hown (host := "") (Or.inl (hw _ (List.mem_of_getElem? (i := 20) rfl))) Via.refl e0 F_rows (g := (mkF m 2 #[.val (.ref a), .val (.long x1), .second, .val (.long x2), .second] [(.ref a), (.long x1)])) rfl rfl (hb hby d5_2)
  have pre3 : ∀ t, Steps p.tables e below (T2.setTop (mkF m 5 #[.val (.ref a), .val (.long x1), .second, .val (.long x2), .second] [(.int u_rows), (.long x1)])) t → Steps p.tables e below (s₁.setTop (entryFrame m #[(.ref a), (.long x1), (.long x2)] 5)) t := fun t k => pre1 t (st2 _ k)
  have pre4 : ∀ t, Steps p.tables e below (T2.setTop (mkF m 7 #[.val (.ref a), .val (.long x1), .second, .val (.long x2), .second] [(.int (lcmpW x1 (u_rows.toInt64)))])) t → Steps p.tables e below (s₁.setTop (entryFrame m #[(.ref a), (.long x1), (.long x2)] 5)) t := fun t k => pre3 t (by
    show Steps p.tables e below (T2.setTop (mkF m 5 #[.val (.ref a), .val (.long x1), .second, .val (.long x2), .second] [(.int u_rows), (.long x1)])) _
    refine XS.i2l X2.here hx rfl (hb hby d5_5) rfl ?_
    show Steps p.tables e below (T2.setTop (mkF m 6 #[.val (.ref a), .val (.long x1), .second, .val (.long x2), .second] [(.long (u_rows.toInt64)), (.long x1)])) _
    refine XS.lcmp X2.here hx rfl (hb hby d5_6) rfl ?_
    show Steps p.tables e below (T2.setTop (mkF m 7 #[.val (.ref a), .val (.long x1), .second, .val (.long x2), .second] [(.int (lcmpW x1 (u_rows.toInt64)))])) _
    exact k)
  by_cases hc5 : x1 = (u_rows.toInt64)
  · skip
    have pre6 : ∀ t, Steps p.tables e below (T2.setTop (mkF m 12 #[.val (.ref a), .val (.long x1), .second, .val (.long x2), .second] [(.ref a), (.long x2)])) t → Steps p.tables e below (s₁.setTop (entryFrame m #[(.ref a), (.long x1), (.long x2)] 5)) t := fun t k => pre4 t (by
      show Steps p.tables e below (T2.setTop (mkF m 7 #[.val (.ref a), .val (.long x1), .second, .val (.long x2), .second] [(.int (lcmpW x1 (u_rows.toInt64)))])) _
      refine XS.ifNo X2.here hx rfl (hb hby d5_7) rfl ((if0 _ _).trans (teq ((lw_eq _ _).mpr hc5)).2) ?_
      show Steps p.tables e below (T2.setTop (mkF m 10 #[.val (.ref a), .val (.long x1), .second, .val (.long x2), .second] [])) _
      refine XS.lloadN X2.here hx rfl (hb hby d5_10) rfl ?_
      show Steps p.tables e below (T2.setTop (mkF m 11 #[.val (.ref a), .val (.long x1), .second, .val (.long x2), .second] [(.long x2)])) _
      refine XS.aloadN X2.here hx rfl (hb hby d5_11) rfl rfl ?_
      show Steps p.tables e below (T2.setTop (mkF m 12 #[.val (.ref a), .val (.long x1), .second, .val (.long x2), .second] [(.ref a), (.long x2)])) _
      exact k)
    obtain ⟨T7, X7, e7, st7⟩ := getF X2 hx hZ hown (host := "") (Or.inl (hw _ (List.mem_of_getElem? (i := 22) rfl))) Via.refl e2 F_columns (g := (mkF m 12 #[.val (.ref a), .val (.long x1), .second, .val (.long x2), .second] [(.ref a), (.long x2)])) rfl rfl (hb hby d5_12)
    have pre8 : ∀ t, Steps p.tables e below (T7.setTop (mkF m 15 #[.val (.ref a), .val (.long x1), .second, .val (.long x2), .second] [(.int u_columns), (.long x2)])) t → Steps p.tables e below (s₁.setTop (entryFrame m #[(.ref a), (.long x1), (.long x2)] 5)) t := fun t k => pre6 t (st7 _ k)
    have pre9 : ∀ t, Steps p.tables e below (T7.setTop (mkF m 17 #[.val (.ref a), .val (.long x1), .second, .val (.long x2), .second] [(.int (lcmpW x2 (u_columns.toInt64)))])) t → Steps p.tables e below (s₁.setTop (entryFrame m #[(.ref a), (.long x1), (.long x2)] 5)) t := fun t k => pre8 t (by
      show Steps p.tables e below (T7.setTop (mkF m 15 #[.val (.ref a), .val (.long x1), .second, .val (.long x2), .second] [(.int u_columns), (.long x2)])) _
      refine XS.i2l X7.here hx rfl (hb hby d5_15) rfl ?_
      show Steps p.tables e below (T7.setTop (mkF m 16 #[.val (.ref a), .val (.long x1), .second, .val (.long x2), .second] [(.long (u_columns.toInt64)), (.long x2)])) _
      refine XS.lcmp X7.here hx rfl (hb hby d5_16) rfl ?_
      show Steps p.tables e below (T7.setTop (mkF m 17 #[.val (.ref a), .val (.long x1), .second, .val (.long x2), .second] [(.int (lcmpW x2 (u_columns.toInt64)))])) _
      exact k)
    by_cases hc10 : x2 = (u_columns.toInt64)
    · skip
      have pre11 : ∀ t, Steps p.tables e below (T7.setTop (mkF m 47 #[.val (.ref a), .val (.long x1), .second, .val (.long x2), .second] [(.int (1 : Int32))])) t → Steps p.tables e below (s₁.setTop (entryFrame m #[(.ref a), (.long x1), (.long x2)] 5)) t := fun t k => pre9 t (by
        show Steps p.tables e below (T7.setTop (mkF m 17 #[.val (.ref a), .val (.long x1), .second, .val (.long x2), .second] [(.int (lcmpW x2 (u_columns.toInt64)))])) _
        refine XS.ifYes X7.here hx rfl (pc0 := 17) (pc' := 42) rfl (hb hby d5_17) rfl ((if0 _ _).trans (teq ((lw_eq _ _).mpr hc10)).1) (by decide) (by decide) ?_
        show Steps p.tables e below (T7.setTop (mkF m 42 #[.val (.ref a), .val (.long x1), .second, .val (.long x2), .second] [])) _
        refine XS.iconst X7.here hx rfl (hb hby d5_42) ?_
        show Steps p.tables e below (T7.setTop (mkF m 43 #[.val (.ref a), .val (.long x1), .second, .val (.long x2), .second] [(.int (1 : Int32))])) _
        refine XS.goto X7.here hx rfl (pc0 := 43) (pc' := 47) rfl (hb hby d5_43) (by decide) (by decide) ?_
        show Steps p.tables e below (T7.setTop (mkF m 47 #[.val (.ref a), .val (.long x1), .second, .val (.long x2), .second] [(.int (1 : Int32))])) _
        exact k)
      obtain ⟨fs, hr, hrun, hended, hW, hsame⟩ := X7.leave (v := some (.int (1 : Int32))) (fun h => by rw [Bd.returns] at h; cases h)
      refine ⟨_, _, pre11 _ ?_, hrun, hended, _, _, rfl, ?_, ⟨_, rfl⟩, hW, hsame.mono (by decide) (by decide)⟩
      · show Steps p.tables e below (T7.setTop (mkF m 47 #[.val (.ref a), .val (.long x1), .second, .val (.long x2), .second] [(.int (1 : Int32))])) _
        exact retN X7 hx (t := .boolean) Bd.returns (by simp) (hb hby d5_47) hr
      · show Q5 Z a x1 x2 u_rows u_columns h0 n0 _ T7.heap _
        rw [e7]
        exact ⟨_, rfl, N0, rfl, by rw [F5, if_pos hc5, if_pos hc10]⟩
    · skip
      have pre12 : ∀ t, Steps p.tables e below (T7.setTop (mkF m 22 #[.val (.ref a), .val (.long x1), .second, .val (.long x2), .second] [(.ref a), (.long x1)])) t → Steps p.tables e below (s₁.setTop (entryFrame m #[(.ref a), (.long x1), (.long x2)] 5)) t := fun t k => pre9 t (by
        show Steps p.tables e below (T7.setTop (mkF m 17 #[.val (.ref a), .val (.long x1), .second, .val (.long x2), .second] [(.int (lcmpW x2 (u_columns.toInt64)))])) _
        refine XS.ifNo X7.here hx rfl (hb hby d5_17) rfl ((if0 _ _).trans (feq (fun q => hc10 ((lw_eq _ _).mp q))).1) ?_
        show Steps p.tables e below (T7.setTop (mkF m 20 #[.val (.ref a), .val (.long x1), .second, .val (.long x2), .second] [])) _
        refine XS.lloadN X7.here hx rfl (hb hby d5_20) rfl ?_
        show Steps p.tables e below (T7.setTop (mkF m 21 #[.val (.ref a), .val (.long x1), .second, .val (.long x2), .second] [(.long x1)])) _
        refine XS.aloadN X7.here hx rfl (hb hby d5_21) rfl rfl ?_
        show Steps p.tables e below (T7.setTop (mkF m 22 #[.val (.ref a), .val (.long x1), .second, .val (.long x2), .second] [(.ref a), (.long x1)])) _
        exact k)
      obtain ⟨T13, X13, e13, st13⟩ := getF X7 hx hZ hown (host := "") (Or.inl (hw _ (List.mem_of_getElem? (i := 20) rfl))) Via.refl e7 F_rows (g := (mkF m 22 #[.val (.ref a), .val (.long x1), .second, .val (.long x2), .second] [(.ref a), (.long x1)])) rfl rfl (hb hby d5_22)
      have pre14 : ∀ t, Steps p.tables e below (T13.setTop (mkF m 25 #[.val (.ref a), .val (.long x1), .second, .val (.long x2), .second] [(.int u_rows), (.long x1)])) t → Steps p.tables e below (s₁.setTop (entryFrame m #[(.ref a), (.long x1), (.long x2)] 5)) t := fun t k => pre12 t (st13 _ k)
      have pre15 : ∀ t, Steps p.tables e below (T13.setTop (mkF m 28 #[.val (.ref a), .val (.long x1), .second, .val (.long x2), .second] [(.int (lcmpW x1 ((-u_rows).toInt64)))])) t → Steps p.tables e below (s₁.setTop (entryFrame m #[(.ref a), (.long x1), (.long x2)] 5)) t := fun t k => pre14 t (by
        show Steps p.tables e below (T13.setTop (mkF m 25 #[.val (.ref a), .val (.long x1), .second, .val (.long x2), .second] [(.int u_rows), (.long x1)])) _
        refine XS.ineg X13.here hx rfl (hb hby d5_25) rfl ?_
        show Steps p.tables e below (T13.setTop (mkF m 26 #[.val (.ref a), .val (.long x1), .second, .val (.long x2), .second] [(.int (-u_rows)), (.long x1)])) _
        refine XS.i2l X13.here hx rfl (hb hby d5_26) rfl ?_
        show Steps p.tables e below (T13.setTop (mkF m 27 #[.val (.ref a), .val (.long x1), .second, .val (.long x2), .second] [(.long ((-u_rows).toInt64)), (.long x1)])) _
        refine XS.lcmp X13.here hx rfl (hb hby d5_27) rfl ?_
        show Steps p.tables e below (T13.setTop (mkF m 28 #[.val (.ref a), .val (.long x1), .second, .val (.long x2), .second] [(.int (lcmpW x1 ((-u_rows).toInt64)))])) _
        exact k)
      by_cases hc16 : x1 = ((-u_rows).toInt64)
      · skip
        have pre17 : ∀ t, Steps p.tables e below (T13.setTop (mkF m 33 #[.val (.ref a), .val (.long x1), .second, .val (.long x2), .second] [(.ref a), (.long x2)])) t → Steps p.tables e below (s₁.setTop (entryFrame m #[(.ref a), (.long x1), (.long x2)] 5)) t := fun t k => pre15 t (by
          show Steps p.tables e below (T13.setTop (mkF m 28 #[.val (.ref a), .val (.long x1), .second, .val (.long x2), .second] [(.int (lcmpW x1 ((-u_rows).toInt64)))])) _
          refine XS.ifNo X13.here hx rfl (hb hby d5_28) rfl ((if0 _ _).trans (teq ((lw_eq _ _).mpr hc16)).2) ?_
          show Steps p.tables e below (T13.setTop (mkF m 31 #[.val (.ref a), .val (.long x1), .second, .val (.long x2), .second] [])) _
          refine XS.lloadN X13.here hx rfl (hb hby d5_31) rfl ?_
          show Steps p.tables e below (T13.setTop (mkF m 32 #[.val (.ref a), .val (.long x1), .second, .val (.long x2), .second] [(.long x2)])) _
          refine XS.aloadN X13.here hx rfl (hb hby d5_32) rfl rfl ?_
          show Steps p.tables e below (T13.setTop (mkF m 33 #[.val (.ref a), .val (.long x1), .second, .val (.long x2), .second] [(.ref a), (.long x2)])) _
          exact k)
        obtain ⟨T18, X18, e18, st18⟩ := getF X13 hx hZ hown (host := "") (Or.inl (hw _ (List.mem_of_getElem? (i := 22) rfl))) Via.refl e13 F_columns (g := (mkF m 33 #[.val (.ref a), .val (.long x1), .second, .val (.long x2), .second] [(.ref a), (.long x2)])) rfl rfl (hb hby d5_33)
        have pre19 : ∀ t, Steps p.tables e below (T18.setTop (mkF m 36 #[.val (.ref a), .val (.long x1), .second, .val (.long x2), .second] [(.int u_columns), (.long x2)])) t → Steps p.tables e below (s₁.setTop (entryFrame m #[(.ref a), (.long x1), (.long x2)] 5)) t := fun t k => pre17 t (st18 _ k)
        obtain ⟨v21, hv21⟩ : ∃ z : Int32, z = (if x2 = ((-u_columns).toInt64) then (1 : Int32) else (0 : Int32)) := ⟨_, rfl⟩
        have pre22 : ∀ t, Steps p.tables e below (T18.setTop (mkF m 47 #[.val (.ref a), .val (.long x1), .second, .val (.long x2), .second] [(.int v21)])) t → Steps p.tables e below (s₁.setTop (entryFrame m #[(.ref a), (.long x1), (.long x2)] 5)) t := fun t k => pre19 t (by
          show Steps p.tables e below (T18.setTop (mkF m 36 #[.val (.ref a), .val (.long x1), .second, .val (.long x2), .second] [(.int u_columns), (.long x2)])) _
          refine XS.ineg X18.here hx rfl (hb hby d5_36) rfl ?_
          show Steps p.tables e below (T18.setTop (mkF m 37 #[.val (.ref a), .val (.long x1), .second, .val (.long x2), .second] [(.int (-u_columns)), (.long x2)])) _
          refine XS.i2l X18.here hx rfl (hb hby d5_37) rfl ?_
          show Steps p.tables e below (T18.setTop (mkF m 38 #[.val (.ref a), .val (.long x1), .second, .val (.long x2), .second] [(.long ((-u_columns).toInt64)), (.long x2)])) _
          refine XS.lcmp X18.here hx rfl (hb hby d5_38) rfl ?_
          show Steps p.tables e below (T18.setTop (mkF m 39 #[.val (.ref a), .val (.long x1), .second, .val (.long x2), .second] [(.int (lcmpW x2 ((-u_columns).toInt64)))])) _
          by_cases hc20 : x2 = ((-u_columns).toInt64)
          · skip
            refine XS.ifNo X18.here hx rfl (hb hby d5_39) rfl ((if0 _ _).trans (teq ((lw_eq _ _).mpr hc20)).2) ?_
            show Steps p.tables e below (T18.setTop (mkF m 42 #[.val (.ref a), .val (.long x1), .second, .val (.long x2), .second] [])) _
            refine XS.iconst X18.here hx rfl (hb hby d5_42) ?_
            show Steps p.tables e below (T18.setTop (mkF m 43 #[.val (.ref a), .val (.long x1), .second, .val (.long x2), .second] [(.int (1 : Int32))])) _
            refine XS.goto X18.here hx rfl (pc0 := 43) (pc' := 47) rfl (hb hby d5_43) (by decide) (by decide) ?_
            show Steps p.tables e below (T18.setTop (mkF m 47 #[.val (.ref a), .val (.long x1), .second, .val (.long x2), .second] [(.int (1 : Int32))])) _
            rw [show v21 = (1 : Int32) from by rw [hv21, if_pos hc20]] at k
            exact k
          · skip
            refine XS.ifYes X18.here hx rfl (pc0 := 39) (pc' := 46) rfl (hb hby d5_39) rfl ((if0 _ _).trans (feq (fun q => hc20 ((lw_eq _ _).mp q))).2) (by decide) (by decide) ?_
            show Steps p.tables e below (T18.setTop (mkF m 46 #[.val (.ref a), .val (.long x1), .second, .val (.long x2), .second] [])) _
            refine XS.iconst X18.here hx rfl (hb hby d5_46) ?_
            show Steps p.tables e below (T18.setTop (mkF m 47 #[.val (.ref a), .val (.long x1), .second, .val (.long x2), .second] [(.int (0 : Int32))])) _
            rw [show v21 = (0 : Int32) from by rw [hv21, if_neg hc20]] at k
            exact k)
        obtain ⟨fs, hr, hrun, hended, hW, hsame⟩ := X18.leave (v := some (.int (nar .boolean v21))) (fun h => by rw [Bd.returns] at h; cases h)
        refine ⟨_, _, pre22 _ ?_, hrun, hended, _, _, rfl, ?_, ⟨_, rfl⟩, hW, hsame.mono (by decide) (by decide)⟩
        · show Steps p.tables e below (T18.setTop (mkF m 47 #[.val (.ref a), .val (.long x1), .second, .val (.long x2), .second] [(.int v21)])) _
          exact retN X18 hx (t := .boolean) Bd.returns (by simp) (hb hby d5_47) hr
        · show Q5 Z a x1 x2 u_rows u_columns h0 n0 _ T18.heap _
          rw [e18]
          exact ⟨_, rfl, N0, rfl, by subst hv21; rw [F5, if_pos hc5, if_neg hc10, if_pos hc16]⟩
      · skip
        have pre23 : ∀ t, Steps p.tables e below (T13.setTop (mkF m 47 #[.val (.ref a), .val (.long x1), .second, .val (.long x2), .second] [(.int (0 : Int32))])) t → Steps p.tables e below (s₁.setTop (entryFrame m #[(.ref a), (.long x1), (.long x2)] 5)) t := fun t k => pre15 t (by
          show Steps p.tables e below (T13.setTop (mkF m 28 #[.val (.ref a), .val (.long x1), .second, .val (.long x2), .second] [(.int (lcmpW x1 ((-u_rows).toInt64)))])) _
          refine XS.ifYes X13.here hx rfl (pc0 := 28) (pc' := 46) rfl (hb hby d5_28) rfl ((if0 _ _).trans (feq (fun q => hc16 ((lw_eq _ _).mp q))).2) (by decide) (by decide) ?_
          show Steps p.tables e below (T13.setTop (mkF m 46 #[.val (.ref a), .val (.long x1), .second, .val (.long x2), .second] [])) _
          refine XS.iconst X13.here hx rfl (hb hby d5_46) ?_
          show Steps p.tables e below (T13.setTop (mkF m 47 #[.val (.ref a), .val (.long x1), .second, .val (.long x2), .second] [(.int (0 : Int32))])) _
          exact k)
        obtain ⟨fs, hr, hrun, hended, hW, hsame⟩ := X13.leave (v := some (.int (0 : Int32))) (fun h => by rw [Bd.returns] at h; cases h)
        refine ⟨_, _, pre23 _ ?_, hrun, hended, _, _, rfl, ?_, ⟨_, rfl⟩, hW, hsame.mono (by decide) (by decide)⟩
        · show Steps p.tables e below (T13.setTop (mkF m 47 #[.val (.ref a), .val (.long x1), .second, .val (.long x2), .second] [(.int (0 : Int32))])) _
          exact retN X13 hx (t := .boolean) Bd.returns (by simp) (hb hby d5_47) hr
        · show Q5 Z a x1 x2 u_rows u_columns h0 n0 _ T13.heap _
          rw [e13]
          exact ⟨_, rfl, N0, rfl, by rw [F5, if_pos hc5, if_neg hc10, if_neg hc16]⟩
  · skip
    have pre24 : ∀ t, Steps p.tables e below (T2.setTop (mkF m 22 #[.val (.ref a), .val (.long x1), .second, .val (.long x2), .second] [(.ref a), (.long x1)])) t → Steps p.tables e below (s₁.setTop (entryFrame m #[(.ref a), (.long x1), (.long x2)] 5)) t := fun t k => pre4 t (by
      show Steps p.tables e below (T2.setTop (mkF m 7 #[.val (.ref a), .val (.long x1), .second, .val (.long x2), .second] [(.int (lcmpW x1 (u_rows.toInt64)))])) _
      refine XS.ifYes X2.here hx rfl (pc0 := 7) (pc' := 20) rfl (hb hby d5_7) rfl ((if0 _ _).trans (feq (fun q => hc5 ((lw_eq _ _).mp q))).2) (by decide) (by decide) ?_
      show Steps p.tables e below (T2.setTop (mkF m 20 #[.val (.ref a), .val (.long x1), .second, .val (.long x2), .second] [])) _
      refine XS.lloadN X2.here hx rfl (hb hby d5_20) rfl ?_
      show Steps p.tables e below (T2.setTop (mkF m 21 #[.val (.ref a), .val (.long x1), .second, .val (.long x2), .second] [(.long x1)])) _
      refine XS.aloadN X2.here hx rfl (hb hby d5_21) rfl rfl ?_
      show Steps p.tables e below (T2.setTop (mkF m 22 #[.val (.ref a), .val (.long x1), .second, .val (.long x2), .second] [(.ref a), (.long x1)])) _
      exact k)
    obtain ⟨T25, X25, e25, st25⟩ := getF X2 hx hZ hown (host := "") (Or.inl (hw _ (List.mem_of_getElem? (i := 20) rfl))) Via.refl e2 F_rows (g := (mkF m 22 #[.val (.ref a), .val (.long x1), .second, .val (.long x2), .second] [(.ref a), (.long x1)])) rfl rfl (hb hby d5_22)
    have pre26 : ∀ t, Steps p.tables e below (T25.setTop (mkF m 25 #[.val (.ref a), .val (.long x1), .second, .val (.long x2), .second] [(.int u_rows), (.long x1)])) t → Steps p.tables e below (s₁.setTop (entryFrame m #[(.ref a), (.long x1), (.long x2)] 5)) t := fun t k => pre24 t (st25 _ k)
    have pre27 : ∀ t, Steps p.tables e below (T25.setTop (mkF m 28 #[.val (.ref a), .val (.long x1), .second, .val (.long x2), .second] [(.int (lcmpW x1 ((-u_rows).toInt64)))])) t → Steps p.tables e below (s₁.setTop (entryFrame m #[(.ref a), (.long x1), (.long x2)] 5)) t := fun t k => pre26 t (by
      show Steps p.tables e below (T25.setTop (mkF m 25 #[.val (.ref a), .val (.long x1), .second, .val (.long x2), .second] [(.int u_rows), (.long x1)])) _
      refine XS.ineg X25.here hx rfl (hb hby d5_25) rfl ?_
      show Steps p.tables e below (T25.setTop (mkF m 26 #[.val (.ref a), .val (.long x1), .second, .val (.long x2), .second] [(.int (-u_rows)), (.long x1)])) _
      refine XS.i2l X25.here hx rfl (hb hby d5_26) rfl ?_
      show Steps p.tables e below (T25.setTop (mkF m 27 #[.val (.ref a), .val (.long x1), .second, .val (.long x2), .second] [(.long ((-u_rows).toInt64)), (.long x1)])) _
      refine XS.lcmp X25.here hx rfl (hb hby d5_27) rfl ?_
      show Steps p.tables e below (T25.setTop (mkF m 28 #[.val (.ref a), .val (.long x1), .second, .val (.long x2), .second] [(.int (lcmpW x1 ((-u_rows).toInt64)))])) _
      exact k)
    by_cases hc28 : x1 = ((-u_rows).toInt64)
    · skip
      have pre29 : ∀ t, Steps p.tables e below (T25.setTop (mkF m 33 #[.val (.ref a), .val (.long x1), .second, .val (.long x2), .second] [(.ref a), (.long x2)])) t → Steps p.tables e below (s₁.setTop (entryFrame m #[(.ref a), (.long x1), (.long x2)] 5)) t := fun t k => pre27 t (by
        show Steps p.tables e below (T25.setTop (mkF m 28 #[.val (.ref a), .val (.long x1), .second, .val (.long x2), .second] [(.int (lcmpW x1 ((-u_rows).toInt64)))])) _
        refine XS.ifNo X25.here hx rfl (hb hby d5_28) rfl ((if0 _ _).trans (teq ((lw_eq _ _).mpr hc28)).2) ?_
        show Steps p.tables e below (T25.setTop (mkF m 31 #[.val (.ref a), .val (.long x1), .second, .val (.long x2), .second] [])) _
        refine XS.lloadN X25.here hx rfl (hb hby d5_31) rfl ?_
        show Steps p.tables e below (T25.setTop (mkF m 32 #[.val (.ref a), .val (.long x1), .second, .val (.long x2), .second] [(.long x2)])) _
        refine XS.aloadN X25.here hx rfl (hb hby d5_32) rfl rfl ?_
        show Steps p.tables e below (T25.setTop (mkF m 33 #[.val (.ref a), .val (.long x1), .second, .val (.long x2), .second] [(.ref a), (.long x2)])) _
        exact k)
      obtain ⟨T30, X30, e30, st30⟩ := getF X25 hx hZ hown (host := "") (Or.inl (hw _ (List.mem_of_getElem? (i := 22) rfl))) Via.refl e25 F_columns (g := (mkF m 33 #[.val (.ref a), .val (.long x1), .second, .val (.long x2), .second] [(.ref a), (.long x2)])) rfl rfl (hb hby d5_33)
      have pre31 : ∀ t, Steps p.tables e below (T30.setTop (mkF m 36 #[.val (.ref a), .val (.long x1), .second, .val (.long x2), .second] [(.int u_columns), (.long x2)])) t → Steps p.tables e below (s₁.setTop (entryFrame m #[(.ref a), (.long x1), (.long x2)] 5)) t := fun t k => pre29 t (st30 _ k)
      obtain ⟨v33, hv33⟩ : ∃ z : Int32, z = (if x2 = ((-u_columns).toInt64) then (1 : Int32) else (0 : Int32)) := ⟨_, rfl⟩
      have pre34 : ∀ t, Steps p.tables e below (T30.setTop (mkF m 47 #[.val (.ref a), .val (.long x1), .second, .val (.long x2), .second] [(.int v33)])) t → Steps p.tables e below (s₁.setTop (entryFrame m #[(.ref a), (.long x1), (.long x2)] 5)) t := fun t k => pre31 t (by
        show Steps p.tables e below (T30.setTop (mkF m 36 #[.val (.ref a), .val (.long x1), .second, .val (.long x2), .second] [(.int u_columns), (.long x2)])) _
        refine XS.ineg X30.here hx rfl (hb hby d5_36) rfl ?_
        show Steps p.tables e below (T30.setTop (mkF m 37 #[.val (.ref a), .val (.long x1), .second, .val (.long x2), .second] [(.int (-u_columns)), (.long x2)])) _
        refine XS.i2l X30.here hx rfl (hb hby d5_37) rfl ?_
        show Steps p.tables e below (T30.setTop (mkF m 38 #[.val (.ref a), .val (.long x1), .second, .val (.long x2), .second] [(.long ((-u_columns).toInt64)), (.long x2)])) _
        refine XS.lcmp X30.here hx rfl (hb hby d5_38) rfl ?_
        show Steps p.tables e below (T30.setTop (mkF m 39 #[.val (.ref a), .val (.long x1), .second, .val (.long x2), .second] [(.int (lcmpW x2 ((-u_columns).toInt64)))])) _
        by_cases hc32 : x2 = ((-u_columns).toInt64)
        · skip
          refine XS.ifNo X30.here hx rfl (hb hby d5_39) rfl ((if0 _ _).trans (teq ((lw_eq _ _).mpr hc32)).2) ?_
          show Steps p.tables e below (T30.setTop (mkF m 42 #[.val (.ref a), .val (.long x1), .second, .val (.long x2), .second] [])) _
          refine XS.iconst X30.here hx rfl (hb hby d5_42) ?_
          show Steps p.tables e below (T30.setTop (mkF m 43 #[.val (.ref a), .val (.long x1), .second, .val (.long x2), .second] [(.int (1 : Int32))])) _
          refine XS.goto X30.here hx rfl (pc0 := 43) (pc' := 47) rfl (hb hby d5_43) (by decide) (by decide) ?_
          show Steps p.tables e below (T30.setTop (mkF m 47 #[.val (.ref a), .val (.long x1), .second, .val (.long x2), .second] [(.int (1 : Int32))])) _
          rw [show v33 = (1 : Int32) from by rw [hv33, if_pos hc32]] at k
          exact k
        · skip
          refine XS.ifYes X30.here hx rfl (pc0 := 39) (pc' := 46) rfl (hb hby d5_39) rfl ((if0 _ _).trans (feq (fun q => hc32 ((lw_eq _ _).mp q))).2) (by decide) (by decide) ?_
          show Steps p.tables e below (T30.setTop (mkF m 46 #[.val (.ref a), .val (.long x1), .second, .val (.long x2), .second] [])) _
          refine XS.iconst X30.here hx rfl (hb hby d5_46) ?_
          show Steps p.tables e below (T30.setTop (mkF m 47 #[.val (.ref a), .val (.long x1), .second, .val (.long x2), .second] [(.int (0 : Int32))])) _
          rw [show v33 = (0 : Int32) from by rw [hv33, if_neg hc32]] at k
          exact k)
      obtain ⟨fs, hr, hrun, hended, hW, hsame⟩ := X30.leave (v := some (.int (nar .boolean v33))) (fun h => by rw [Bd.returns] at h; cases h)
      refine ⟨_, _, pre34 _ ?_, hrun, hended, _, _, rfl, ?_, ⟨_, rfl⟩, hW, hsame.mono (by decide) (by decide)⟩
      · show Steps p.tables e below (T30.setTop (mkF m 47 #[.val (.ref a), .val (.long x1), .second, .val (.long x2), .second] [(.int v33)])) _
        exact retN X30 hx (t := .boolean) Bd.returns (by simp) (hb hby d5_47) hr
      · show Q5 Z a x1 x2 u_rows u_columns h0 n0 _ T30.heap _
        rw [e30]
        exact ⟨_, rfl, N0, rfl, by subst hv33; rw [F5, if_neg hc5, if_pos hc28]⟩
    · skip
      have pre35 : ∀ t, Steps p.tables e below (T25.setTop (mkF m 47 #[.val (.ref a), .val (.long x1), .second, .val (.long x2), .second] [(.int (0 : Int32))])) t → Steps p.tables e below (s₁.setTop (entryFrame m #[(.ref a), (.long x1), (.long x2)] 5)) t := fun t k => pre27 t (by
        show Steps p.tables e below (T25.setTop (mkF m 28 #[.val (.ref a), .val (.long x1), .second, .val (.long x2), .second] [(.int (lcmpW x1 ((-u_rows).toInt64)))])) _
        refine XS.ifYes X25.here hx rfl (pc0 := 28) (pc' := 46) rfl (hb hby d5_28) rfl ((if0 _ _).trans (feq (fun q => hc28 ((lw_eq _ _).mp q))).2) (by decide) (by decide) ?_
        show Steps p.tables e below (T25.setTop (mkF m 46 #[.val (.ref a), .val (.long x1), .second, .val (.long x2), .second] [])) _
        refine XS.iconst X25.here hx rfl (hb hby d5_46) ?_
        show Steps p.tables e below (T25.setTop (mkF m 47 #[.val (.ref a), .val (.long x1), .second, .val (.long x2), .second] [(.int (0 : Int32))])) _
        exact k)
      obtain ⟨fs, hr, hrun, hended, hW, hsame⟩ := X25.leave (v := some (.int (0 : Int32))) (fun h => by rw [Bd.returns] at h; cases h)
      refine ⟨_, _, pre35 _ ?_, hrun, hended, _, _, rfl, ?_, ⟨_, rfl⟩, hW, hsame.mono (by decide) (by decide)⟩
      · show Steps p.tables e below (T25.setTop (mkF m 47 #[.val (.ref a), .val (.long x1), .second, .val (.long x2), .second] [(.int (0 : Int32))])) _
        exact retN X25 hx (t := .boolean) Bd.returns (by simp) (hb hby d5_47) hr
      · show Q5 Z a x1 x2 u_rows u_columns h0 n0 _ T25.heap _
        rw [e25]
        exact ⟨_, rfl, N0, rfl, by rw [F5, if_neg hc5, if_neg hc28]⟩
def F1 (x0 : Int64) (x1 : Int64) (x2 : Int32) (x3 : Int32) : Int64 := (if x2 = (0 : Int32) then x0 else (if x3 = (0 : Int32) then (x0 + x1) else (x0 + ((x1 &&& (3 : Int64)) - (1 : Int64)))))
theorem pn_2 : plainName "com/example/crownfield/crownfield/search/StepReachesPinLaw" = true := by first | (simp [plainName, overriddenIn]; done) | decide +kernel
theorem d1_0 : decode method_2_code 0 = .ok (.iload 4, 2) := by decide +kernel
theorem d1_2 : decode method_2_code 2 = .ok (.ifCond .ne 5, 3) := by decide +kernel
theorem d1_5 : decode method_2_code 5 = .ok (.lload_n 0, 1) := by decide +kernel
theorem d1_6 : decode method_2_code 6 = .ok (.lreturn, 1) := by decide +kernel
theorem d1_7 : decode method_2_code 7 = .ok (.iload 5, 2) := by decide +kernel
theorem d1_9 : decode method_2_code 9 = .ok (.ifCond .ne 7, 3) := by decide +kernel
theorem d1_12 : decode method_2_code 12 = .ok (.lload_n 0, 1) := by decide +kernel
theorem d1_13 : decode method_2_code 13 = .ok (.lload_n 2, 1) := by decide +kernel
theorem d1_14 : decode method_2_code 14 = .ok (.ladd, 1) := by decide +kernel
theorem d1_15 : decode method_2_code 15 = .ok (.lreturn, 1) := by decide +kernel
theorem d1_16 : decode method_2_code 16 = .ok (.lload_n 0, 1) := by decide +kernel
theorem d1_17 : decode method_2_code 17 = .ok (.lload_n 2, 1) := by decide +kernel
theorem d1_18 : decode method_2_code 18 = .ok (.ldc2_w 7, 3) := by decide +kernel
theorem d1_21 : decode method_2_code 21 = .ok (.land, 1) := by decide +kernel
theorem d1_22 : decode method_2_code 22 = .ok (.lconst 1, 1) := by decide +kernel
theorem d1_23 : decode method_2_code 23 = .ok (.lsub, 1) := by decide +kernel
theorem d1_24 : decode method_2_code 24 = .ok (.ladd, 1) := by decide +kernel
theorem d1_25 : decode method_2_code 25 = .ok (.lreturn, 1) := by decide +kernel
theorem ef_1 (m : MethodId) (x0 : Int64) (x1 : Int64) (x2 : Int32) (x3 : Int32) : entryFrame m #[(.long x0), (.long x1), (.int x2), (.int x3)] 6 = mkF m 0 #[.val (.long x0), .second, .val (.long x1), .second, .val (.int x2), .val (.int x3)] [] := by first | (simp [entryFrame, mkF, argsToLocals, Value.category]; done) | rfl
def Q1 (Z : State) (x0 : Int64) (x1 : Int64) (x2 : Int32) (x3 : Int32) (h0 : Heap) (n0 : Nat) (v : Option Value) (h : Heap) (L : List Loc) : Prop := ∃ z : Int64, v = some (.long z) ∧ Fr n0 L ∧ h = h0 ∧ z = F1 x0 x1 x2 x3
set_option maxRecDepth 65536 in
set_option maxHeartbeats 40000000 in
theorem rm1 (l : Launch) (Z : State) (a0 : Array Value) (hw : ∀ d ∈ tables_1, d.before a0 Z = true) (ws : List Jvm.Cond) (x0 : Int64) (x1 : Int64) (x2 : Int32) (x3 : Int32) (h0 : Heap) (n0 : Nat) (Z0 : n0 ≤ h0.size) :
    MetFree l (⟨"com/example/crownfield/crownfield/search/StepReachesPinLaw", "offset", "(JJII)J"⟩ : MethodName) (head1 (Jvm.Cond.code (⟨"com/example/crownfield/crownfield/search/StepReachesPinLaw", "offset", "(JJII)J"⟩ : MethodName) method_2_code 6 (some .long) :: ws) ({ frames := 0, cells := 0, slots := 0, locals := 0 } : Room)) (fun aa U => aa = #[(.long x0), (.long x1), (.int x2), (.int x3)] ∧ Z.Warmed39 U.vm ∧ U.heap = h0) (fun _ _ _ _ _ => True) (fun _ U o U' => ∃ v L, o = .returned v ∧ Q1 Z x0 x1 x2 x3 h0 n0 v U'.heap L ∧ FrameEnd U o U' L ({ frames := 0, cells := 0, slots := 0, locals := 0 } : Room).cells ({ frames := 0, cells := 0, slots := 0, locals := 0 } : Room).slots) := by
  refine MetFree.of_bodySF (plainFor_of_name pn_2) hisR ?_
  intro p e s m args below meth c s₁ Bd hml0 hP hK
  obtain ⟨rfl, hZ, hh⟩ := hP
  have hx := Bd.exec
  have hby := Bd.bytes
  have hml : c.maxLocals = 6 := hml0
  have hown : s.vm.findClass "com/example/crownfield/crownfield/search/StepReachesPinLaw" = some m.cls := findClass_of_methodNamed Bd.named
  have hnm := (name_of_methodNamed Bd.named Bd.method).1
  have X0 : Stand p l e ({ frames := 0, cells := 0, slots := 0, locals := 0 } : Room) s m #[(.long x0), (.long x1), (.int x2), (.int x3)] below meth c s₁ [] 0 0 := Stand.of_body Bd
  have e0 : s₁.heap = h0 := by rw [← hh, Bd.state]; rfl
  have N0 := Fr.nil n0
  have pre0 : ∀ t, Steps p.tables e below (s₁.setTop (mkF m 0 #[.val (.long x0), .second, .val (.long x1), .second, .val (.int x2), .val (.int x3)] [])) t → Steps p.tables e below (s₁.setTop (entryFrame m #[(.long x0), (.long x1), (.int x2), (.int x3)] 6)) t := fun t k => castTop (ef_1 m x0 x1 x2 x3) k
  have pre1 : ∀ t, Steps p.tables e below (s₁.setTop (mkF m 2 #[.val (.long x0), .second, .val (.long x1), .second, .val (.int x2), .val (.int x3)] [(.int x2)])) t → Steps p.tables e below (s₁.setTop (entryFrame m #[(.long x0), (.long x1), (.int x2), (.int x3)] 6)) t := fun t k => pre0 t (by
    show Steps p.tables e below (s₁.setTop (mkF m 0 #[.val (.long x0), .second, .val (.long x1), .second, .val (.int x2), .val (.int x3)] [])) _
    refine XS.iload X0.here hx rfl (hb hby d1_0) rfl ?_
    show Steps p.tables e below (s₁.setTop (mkF m 2 #[.val (.long x0), .second, .val (.long x1), .second, .val (.int x2), .val (.int x3)] [(.int x2)])) _
    exact k)
  by_cases hc2 : x2 = (0 : Int32)
  · skip
    have pre3 : ∀ t, Steps p.tables e below (s₁.setTop (mkF m 6 #[.val (.long x0), .second, .val (.long x1), .second, .val (.int x2), .val (.int x3)] [(.long x0)])) t → Steps p.tables e below (s₁.setTop (entryFrame m #[(.long x0), (.long x1), (.int x2), (.int x3)] 6)) t := fun t k => pre1 t (by
      show Steps p.tables e below (s₁.setTop (mkF m 2 #[.val (.long x0), .second, .val (.long x1), .second, .val (.int x2), .val (.int x3)] [(.int x2)])) _
      refine XS.ifNo X0.here hx rfl (hb hby d1_2) rfl ((if0 _ _).trans (teq hc2).2) ?_
      show Steps p.tables e below (s₁.setTop (mkF m 5 #[.val (.long x0), .second, .val (.long x1), .second, .val (.int x2), .val (.int x3)] [])) _
      refine XS.lloadN X0.here hx rfl (hb hby d1_5) rfl ?_
      show Steps p.tables e below (s₁.setTop (mkF m 6 #[.val (.long x0), .second, .val (.long x1), .second, .val (.int x2), .val (.int x3)] [(.long x0)])) _
      exact k)
    obtain ⟨fs, hr, hrun, hended, hW, hsame⟩ := X0.leave (v := some (.long x0)) (fun h => by rw [Bd.returns] at h; cases h)
    refine ⟨_, _, pre3 _ ?_, hrun, hended, _, _, rfl, ?_, ⟨_, rfl⟩, hW, hsame.mono (by decide) (by decide)⟩
    · show Steps p.tables e below (s₁.setTop (mkF m 6 #[.val (.long x0), .second, .val (.long x1), .second, .val (.int x2), .val (.int x3)] [(.long x0)])) _
      exact X0.lreturnOut hx Bd.returns (hb hby d1_6) hr
    · show Q1 Z x0 x1 x2 x3 h0 n0 _ s₁.heap _
      rw [e0]
      exact ⟨_, rfl, N0, rfl, by rw [F1, if_pos hc2]⟩
  · skip
    have pre4 : ∀ t, Steps p.tables e below (s₁.setTop (mkF m 9 #[.val (.long x0), .second, .val (.long x1), .second, .val (.int x2), .val (.int x3)] [(.int x3)])) t → Steps p.tables e below (s₁.setTop (entryFrame m #[(.long x0), (.long x1), (.int x2), (.int x3)] 6)) t := fun t k => pre1 t (by
      show Steps p.tables e below (s₁.setTop (mkF m 2 #[.val (.long x0), .second, .val (.long x1), .second, .val (.int x2), .val (.int x3)] [(.int x2)])) _
      refine XS.ifYes X0.here hx rfl (pc0 := 2) (pc' := 7) rfl (hb hby d1_2) rfl ((if0 _ _).trans (feq hc2).2) (by decide) (by decide) ?_
      show Steps p.tables e below (s₁.setTop (mkF m 7 #[.val (.long x0), .second, .val (.long x1), .second, .val (.int x2), .val (.int x3)] [])) _
      refine XS.iload X0.here hx rfl (hb hby d1_7) rfl ?_
      show Steps p.tables e below (s₁.setTop (mkF m 9 #[.val (.long x0), .second, .val (.long x1), .second, .val (.int x2), .val (.int x3)] [(.int x3)])) _
      exact k)
    by_cases hc5 : x3 = (0 : Int32)
    · skip
      have pre6 : ∀ t, Steps p.tables e below (s₁.setTop (mkF m 15 #[.val (.long x0), .second, .val (.long x1), .second, .val (.int x2), .val (.int x3)] [(.long (x0 + x1))])) t → Steps p.tables e below (s₁.setTop (entryFrame m #[(.long x0), (.long x1), (.int x2), (.int x3)] 6)) t := fun t k => pre4 t (by
        show Steps p.tables e below (s₁.setTop (mkF m 9 #[.val (.long x0), .second, .val (.long x1), .second, .val (.int x2), .val (.int x3)] [(.int x3)])) _
        refine XS.ifNo X0.here hx rfl (hb hby d1_9) rfl ((if0 _ _).trans (teq hc5).2) ?_
        show Steps p.tables e below (s₁.setTop (mkF m 12 #[.val (.long x0), .second, .val (.long x1), .second, .val (.int x2), .val (.int x3)] [])) _
        refine XS.lloadN X0.here hx rfl (hb hby d1_12) rfl ?_
        show Steps p.tables e below (s₁.setTop (mkF m 13 #[.val (.long x0), .second, .val (.long x1), .second, .val (.int x2), .val (.int x3)] [(.long x0)])) _
        refine XS.lloadN X0.here hx rfl (hb hby d1_13) rfl ?_
        show Steps p.tables e below (s₁.setTop (mkF m 14 #[.val (.long x0), .second, .val (.long x1), .second, .val (.int x2), .val (.int x3)] [(.long x1), (.long x0)])) _
        refine XS.ladd X0.here hx rfl (hb hby d1_14) rfl ?_
        show Steps p.tables e below (s₁.setTop (mkF m 15 #[.val (.long x0), .second, .val (.long x1), .second, .val (.int x2), .val (.int x3)] [(.long (x0 + x1))])) _
        exact k)
      obtain ⟨fs, hr, hrun, hended, hW, hsame⟩ := X0.leave (v := some (.long (x0 + x1))) (fun h => by rw [Bd.returns] at h; cases h)
      refine ⟨_, _, pre6 _ ?_, hrun, hended, _, _, rfl, ?_, ⟨_, rfl⟩, hW, hsame.mono (by decide) (by decide)⟩
      · show Steps p.tables e below (s₁.setTop (mkF m 15 #[.val (.long x0), .second, .val (.long x1), .second, .val (.int x2), .val (.int x3)] [(.long (x0 + x1))])) _
        exact X0.lreturnOut hx Bd.returns (hb hby d1_15) hr
      · show Q1 Z x0 x1 x2 x3 h0 n0 _ s₁.heap _
        rw [e0]
        exact ⟨_, rfl, N0, rfl, by rw [F1, if_neg hc2, if_pos hc5]⟩
    · skip
      have pre7 : ∀ t, Steps p.tables e below (s₁.setTop (mkF m 25 #[.val (.long x0), .second, .val (.long x1), .second, .val (.int x2), .val (.int x3)] [(.long (x0 + ((x1 &&& (3 : Int64)) - (1 : Int64))))])) t → Steps p.tables e below (s₁.setTop (entryFrame m #[(.long x0), (.long x1), (.int x2), (.int x3)] 6)) t := fun t k => pre4 t (by
        show Steps p.tables e below (s₁.setTop (mkF m 9 #[.val (.long x0), .second, .val (.long x1), .second, .val (.int x2), .val (.int x3)] [(.int x3)])) _
        refine XS.ifYes X0.here hx rfl (pc0 := 9) (pc' := 16) rfl (hb hby d1_9) rfl ((if0 _ _).trans (feq hc5).2) (by decide) (by decide) ?_
        show Steps p.tables e below (s₁.setTop (mkF m 16 #[.val (.long x0), .second, .val (.long x1), .second, .val (.int x2), .val (.int x3)] [])) _
        refine XS.lloadN X0.here hx rfl (hb hby d1_16) rfl ?_
        show Steps p.tables e below (s₁.setTop (mkF m 17 #[.val (.long x0), .second, .val (.long x1), .second, .val (.int x2), .val (.int x3)] [(.long x0)])) _
        refine XS.lloadN X0.here hx rfl (hb hby d1_17) rfl ?_
        show Steps p.tables e below (s₁.setTop (mkF m 18 #[.val (.long x0), .second, .val (.long x1), .second, .val (.int x2), .val (.int x3)] [(.long x1), (.long x0)])) _
        refine X0.ldc2Long hx hown (mvT hZ (hw _ (List.mem_of_getElem? (i := 29) rfl))) (g := (mkF m 18 #[.val (.long x0), .second, .val (.long x1), .second, .val (.int x2), .val (.int x3)] [(.long x1), (.long x0)])) rfl (hb hby d1_18) _ ?_
        show Steps p.tables e below (s₁.setTop (mkF m 21 #[.val (.long x0), .second, .val (.long x1), .second, .val (.int x2), .val (.int x3)] [(.long (3 : Int64)), (.long x1), (.long x0)])) _
        refine XS.land X0.here hx rfl (hb hby d1_21) rfl ?_
        show Steps p.tables e below (s₁.setTop (mkF m 22 #[.val (.long x0), .second, .val (.long x1), .second, .val (.int x2), .val (.int x3)] [(.long (x1 &&& (3 : Int64))), (.long x0)])) _
        refine XS.lconst X0.here hx rfl (hb hby d1_22) ?_
        show Steps p.tables e below (s₁.setTop (mkF m 23 #[.val (.long x0), .second, .val (.long x1), .second, .val (.int x2), .val (.int x3)] [(.long (1 : Int64)), (.long (x1 &&& (3 : Int64))), (.long x0)])) _
        refine XS.lsub X0.here hx rfl (hb hby d1_23) rfl ?_
        show Steps p.tables e below (s₁.setTop (mkF m 24 #[.val (.long x0), .second, .val (.long x1), .second, .val (.int x2), .val (.int x3)] [(.long ((x1 &&& (3 : Int64)) - (1 : Int64))), (.long x0)])) _
        refine XS.ladd X0.here hx rfl (hb hby d1_24) rfl ?_
        show Steps p.tables e below (s₁.setTop (mkF m 25 #[.val (.long x0), .second, .val (.long x1), .second, .val (.int x2), .val (.int x3)] [(.long (x0 + ((x1 &&& (3 : Int64)) - (1 : Int64))))])) _
        exact k)
      obtain ⟨fs, hr, hrun, hended, hW, hsame⟩ := X0.leave (v := some (.long (x0 + ((x1 &&& (3 : Int64)) - (1 : Int64))))) (fun h => by rw [Bd.returns] at h; cases h)
      refine ⟨_, _, pre7 _ ?_, hrun, hended, _, _, rfl, ?_, ⟨_, rfl⟩, hW, hsame.mono (by decide) (by decide)⟩
      · show Steps p.tables e below (s₁.setTop (mkF m 25 #[.val (.long x0), .second, .val (.long x1), .second, .val (.int x2), .val (.int x3)] [(.long (x0 + ((x1 &&& (3 : Int64)) - (1 : Int64))))])) _
        exact X0.lreturnOut hx Bd.returns (hb hby d1_25) hr
      · show Q1 Z x0 x1 x2 x3 h0 n0 _ s₁.heap _
        rw [e0]
        exact ⟨_, rfl, N0, rfl, by rw [F1, if_neg hc2, if_neg hc5]⟩
theorem pd_1 : parseMethodDescriptor "(JJII)J" = some ⟨[.long, .long, .int, .int], some .long⟩ := by decide +kernel
theorem pd_2 : parseMethodDescriptor "(II)V" = some ⟨[.int, .int], none⟩ := by decide +kernel
theorem pd_3 : parseMethodDescriptor "(JJ)Z" = some ⟨[.long, .long], some .boolean⟩ := by decide +kernel
set_option maxHeartbeats 8000000 in
theorem own_fin2 (x0 : Int32) (x1 : Int32) (x2 : Int64) (x3 : Int64) (x4 : Int32) (v4 : Int32) (v5 : Int64) (v6 : Int64) (v7 : Int64) (v8 : Int64) (v9 : Int32) (v13 : Int64) (v14 : Int64) (r18 : Int64) (r22 : Int64) (v36 : Int32) (v40 : Int32) (v44 : Int32) (r48 : Int32) (v51 : Int32) (hc2 : ¬ (x1 = (-2147483648 : Int32))) (hv4 : v4 = (x0 &&& (2147483647 : Int32))) (hv5 : v5 = (v4.toInt64)) (hv6 : v6 = (x1.toInt64)) (hv7 : v7 = (-v5)) (hv8 : v8 = (-v6)) (hv9 : v9 = (x4 &&& (3 : Int32))) (hv13 : v13 = (if v9 = (0 : Int32) then v5 else (if v9 = (1 : Int32) then v7 else (if v9 = (2 : Int32) then v5 else v7)))) (hv14 : v14 = (if v9 = (0 : Int32) then v6 else (if v9 = (1 : Int32) then v8 else (if v9 = (2 : Int32) then v8 else v6)))) (P18 : r18 = F1 v13 x2 ((x4 >>> ((2 : Int32) &&& 31)) &&& (1 : Int32)) ((x4 >>> ((4 : Int32) &&& 31)) &&& (1 : Int32))) (P22 : r22 = F1 v14 x3 ((x4 >>> ((3 : Int32) &&& 31)) &&& (1 : Int32)) ((x4 >>> ((5 : Int32) &&& 31)) &&& (1 : Int32))) (hv36 : v36 = (if r18 = v5 then (if r22 = v6 then (1 : Int32) else (0 : Int32)) else (0 : Int32))) (hv40 : v40 = (if r18 = v7 then (if r22 = v8 then (1 : Int32) else (0 : Int32)) else (0 : Int32))) (hv44 : v44 = (if v36 = (0 : Int32) then (if v40 = (0 : Int32) then (0 : Int32) else (1 : Int32)) else (1 : Int32))) (P48 : r48 = F5 r18 r22 v4 x1) (hv51 : v51 = (if r48 = v44 then (1 : Int32) else (0 : Int32))) : v51 = (1 : Int32) := by
  have n1 : ¬ v4 = (-2147483648 : Int32) := by
    have a := c_mask x0 2147483647 31 (by decide) (by decide)
    rw [← hv4] at a
    intro q
    have e : (-2147483648 : Int32).toInt = -2147483648 := by decide
    rw [q, e] at a; omega
  unfold F5 at P48
  rw [own_neg v4 n1, own_neg x1 hc2, ← hv5, ← hv6, ← hv7, ← hv8] at P48
  have z1 : nar .boolean 1 = 1 := by decide
  have z2 : nar .boolean 0 = 0 := by decide
  have z3 : (1 : Int32) ≠ 0 := by decide
  clear P18 P22 hv13 hv14 hv9 hv7 hv8 hv5 hv6 hv4 hc2 n1
  rw [hv51, if_pos]
  rw [P48, hv44, hv36, hv40]
  by_cases h1 : r18 = v5 <;> by_cases h2 : r22 = v6 <;> by_cases h3 : r18 = v7 <;> by_cases h4 : r22 = v8 <;> simp only [h1, h2, h3, h4, if_true, if_false, if_pos, if_neg, z1, z2, z3, not_false_eq_true, ite_self, ↓reduceIte] <;> (try simp_all)
theorem ef_0 (m : MethodId) (x0 : Int32) (x1 : Int32) (x2 : Int64) (x3 : Int64) (x4 : Int32) : entryFrame m #[(.int x0), (.int x1), (.long x2), (.long x3), (.int x4)] maxLocals = mkF m 0 #[.val (.int x0), .val (.int x1), .val (.long x2), .second, .val (.long x3), .second, .val (.int x4), .unset, .unset, .unset, .unset, .unset, .unset, .unset, .unset, .unset, .unset, .unset, .unset, .unset, .unset, .unset, .unset, .unset, .unset, .unset, .unset, .unset, .unset] [] := by first | (simp [entryFrame, mkF, argsToLocals, Value.category, maxLocals]; done) | rfl
def Q0 (Z : State) (x0 : Int32) (x1 : Int32) (x2 : Int64) (x3 : Int64) (x4 : Int32) (h0 : Heap) (n0 : Nat) (v : Option Value) (h : Heap) (L : List Loc) : Prop := v = some (.int 1) ∧ Fr n0 L
set_option maxRecDepth 65536 in
set_option maxHeartbeats 40000000 in
theorem rm0 (l : Launch) (Z : State) (a0 : Array Value) (hw : ∀ d ∈ tables_1, d.before a0 Z = true) (ws : List Jvm.Cond) (x0 : Int32) (x1 : Int32) (x2 : Int64) (x3 : Int64) (x4 : Int32) (h0 : Heap) (n0 : Nat) (Z0 : n0 ≤ h0.size) :
    MetFree l x (head1 (Jvm.Cond.code x code maxLocals ret :: ws) room_1) (fun aa U => aa = #[(.int x0), (.int x1), (.long x2), (.long x3), (.int x4)] ∧ Z.Warmed39 U.vm ∧ U.heap = h0) (fun _ _ _ _ _ => True) (fun _ U o U' => ∃ v L, o = .returned v ∧ Q0 Z x0 x1 x2 x3 x4 h0 n0 v U'.heap L ∧ FrameEnd U o U' L room_1.cells room_1.slots) := by
  refine MetFree.of_bodySF (plainFor_of_name pn_2) hisR ?_
  intro p e s m args below meth c s₁ Bd hml0 hP hK
  obtain ⟨rfl, hZ, hh⟩ := hP
  have hx := Bd.exec
  have hby := Bd.bytes
  have hml : c.maxLocals = 29 := hml0
  have hown : s.vm.findClass "com/example/crownfield/crownfield/search/StepReachesPinLaw" = some m.cls := findClass_of_methodNamed Bd.named
  have hnm := (name_of_methodNamed Bd.named Bd.method).1
  have X0 : Stand p l e room_1 s m #[(.int x0), (.int x1), (.long x2), (.long x3), (.int x4)] below meth c s₁ [] 0 0 := Stand.of_body Bd
  have e0 : s₁.heap = h0 := by rw [← hh, Bd.state]; rfl
  have N0 := Fr.nil n0
  have pre0 : ∀ t, Steps p.tables e below (s₁.setTop (mkF m 0 #[.val (.int x0), .val (.int x1), .val (.long x2), .second, .val (.long x3), .second, .val (.int x4), .unset, .unset, .unset, .unset, .unset, .unset, .unset, .unset, .unset, .unset, .unset, .unset, .unset, .unset, .unset, .unset, .unset, .unset, .unset, .unset, .unset, .unset] [])) t → Steps p.tables e below (s₁.setTop (entryFrame m #[(.int x0), (.int x1), (.long x2), (.long x3), (.int x4)] maxLocals)) t := fun t k => castTop (ef_0 m x0 x1 x2 x3 x4) k
  have pre1 : ∀ t, Steps p.tables e below (s₁.setTop (mkF m 3 #[.val (.int x0), .val (.int x1), .val (.long x2), .second, .val (.long x3), .second, .val (.int x4), .unset, .unset, .unset, .unset, .unset, .unset, .unset, .unset, .unset, .unset, .unset, .unset, .unset, .unset, .unset, .unset, .unset, .unset, .unset, .unset, .unset, .unset] [(.int (-2147483648 : Int32)), (.int x1)])) t → Steps p.tables e below (s₁.setTop (entryFrame m #[(.int x0), (.int x1), (.long x2), (.long x3), (.int x4)] maxLocals)) t := fun t k => pre0 t (by
    show Steps p.tables e below (s₁.setTop (mkF m 0 #[.val (.int x0), .val (.int x1), .val (.long x2), .second, .val (.long x3), .second, .val (.int x4), .unset, .unset, .unset, .unset, .unset, .unset, .unset, .unset, .unset, .unset, .unset, .unset, .unset, .unset, .unset, .unset, .unset, .unset, .unset, .unset, .unset, .unset] [])) _
    refine XS.iloadN X0.here hx rfl (hb hby at_0) rfl ?_
    show Steps p.tables e below (s₁.setTop (mkF m 1 #[.val (.int x0), .val (.int x1), .val (.long x2), .second, .val (.long x3), .second, .val (.int x4), .unset, .unset, .unset, .unset, .unset, .unset, .unset, .unset, .unset, .unset, .unset, .unset, .unset, .unset, .unset, .unset, .unset, .unset, .unset, .unset, .unset, .unset] [(.int x1)])) _
    refine X0.ldcInt hx hown (mvT hZ (hw _ (List.mem_of_getElem? (i := 0) rfl))) (g := (mkF m 1 #[.val (.int x0), .val (.int x1), .val (.long x2), .second, .val (.long x3), .second, .val (.int x4), .unset, .unset, .unset, .unset, .unset, .unset, .unset, .unset, .unset, .unset, .unset, .unset, .unset, .unset, .unset, .unset, .unset, .unset, .unset, .unset, .unset, .unset] [(.int x1)])) rfl (hb hby at_1) _ ?_
    show Steps p.tables e below (s₁.setTop (mkF m 3 #[.val (.int x0), .val (.int x1), .val (.long x2), .second, .val (.long x3), .second, .val (.int x4), .unset, .unset, .unset, .unset, .unset, .unset, .unset, .unset, .unset, .unset, .unset, .unset, .unset, .unset, .unset, .unset, .unset, .unset, .unset, .unset, .unset, .unset] [(.int (-2147483648 : Int32)), (.int x1)])) _
    exact k)
  by_cases hc2 : x1 = (-2147483648 : Int32)
  · skip
    have pre3 : ∀ t, Steps p.tables e below (s₁.setTop (mkF m 7 #[.val (.int x0), .val (.int x1), .val (.long x2), .second, .val (.long x3), .second, .val (.int x4), .unset, .unset, .unset, .unset, .unset, .unset, .unset, .unset, .unset, .unset, .unset, .unset, .unset, .unset, .unset, .unset, .unset, .unset, .unset, .unset, .unset, .unset] [(.int (1 : Int32))])) t → Steps p.tables e below (s₁.setTop (entryFrame m #[(.int x0), (.int x1), (.long x2), (.long x3), (.int x4)] maxLocals)) t := fun t k => pre1 t (by
      show Steps p.tables e below (s₁.setTop (mkF m 3 #[.val (.int x0), .val (.int x1), .val (.long x2), .second, .val (.long x3), .second, .val (.int x4), .unset, .unset, .unset, .unset, .unset, .unset, .unset, .unset, .unset, .unset, .unset, .unset, .unset, .unset, .unset, .unset, .unset, .unset, .unset, .unset, .unset, .unset] [(.int (-2147483648 : Int32)), (.int x1)])) _
      refine XS.icmpNo X0.here hx rfl (hb hby at_3) rfl (teq hc2).2 ?_
      show Steps p.tables e below (s₁.setTop (mkF m 6 #[.val (.int x0), .val (.int x1), .val (.long x2), .second, .val (.long x3), .second, .val (.int x4), .unset, .unset, .unset, .unset, .unset, .unset, .unset, .unset, .unset, .unset, .unset, .unset, .unset, .unset, .unset, .unset, .unset, .unset, .unset, .unset, .unset, .unset] [])) _
      refine XS.iconst X0.here hx rfl (hb hby at_6) ?_
      show Steps p.tables e below (s₁.setTop (mkF m 7 #[.val (.int x0), .val (.int x1), .val (.long x2), .second, .val (.long x3), .second, .val (.int x4), .unset, .unset, .unset, .unset, .unset, .unset, .unset, .unset, .unset, .unset, .unset, .unset, .unset, .unset, .unset, .unset, .unset, .unset, .unset, .unset, .unset, .unset] [(.int (1 : Int32))])) _
      exact k)
    obtain ⟨fs, hr, hrun, hended, hW, hsame⟩ := X0.leave (v := some (.int (1 : Int32))) (fun h => by rw [Bd.returns] at h; cases h)
    refine ⟨_, _, pre3 _ ?_, hrun, hended, _, _, rfl, ?_, ⟨_, rfl⟩, hW, hsame.mono (by decide) (by decide)⟩
    · show Steps p.tables e below (s₁.setTop (mkF m 7 #[.val (.int x0), .val (.int x1), .val (.long x2), .second, .val (.long x3), .second, .val (.int x4), .unset, .unset, .unset, .unset, .unset, .unset, .unset, .unset, .unset, .unset, .unset, .unset, .unset, .unset, .unset, .unset, .unset, .unset, .unset, .unset, .unset, .unset] [(.int (1 : Int32))])) _
      exact retN X0 hx (t := .boolean) Bd.returns (by simp) (hb hby at_7) hr
    · show Q0 Z x0 x1 x2 x3 x4 h0 n0 _ s₁.heap _
      rw [e0]
      exact ⟨rfl, N0⟩
  · skip
    obtain ⟨v4, hv4⟩ : ∃ z : Int32, z = (x0 &&& (2147483647 : Int32)) := ⟨_, rfl⟩
    obtain ⟨v5, hv5⟩ : ∃ z : Int64, z = (v4.toInt64) := ⟨_, rfl⟩
    obtain ⟨v6, hv6⟩ : ∃ z : Int64, z = (x1.toInt64) := ⟨_, rfl⟩
    obtain ⟨v7, hv7⟩ : ∃ z : Int64, z = (-v5) := ⟨_, rfl⟩
    obtain ⟨v8, hv8⟩ : ∃ z : Int64, z = (-v6) := ⟨_, rfl⟩
    obtain ⟨v9, hv9⟩ : ∃ z : Int32, z = (x4 &&& (3 : Int32)) := ⟨_, rfl⟩
    obtain ⟨v13, hv13⟩ : ∃ z : Int64, z = (if v9 = (0 : Int32) then v5 else (if v9 = (1 : Int32) then v7 else (if v9 = (2 : Int32) then v5 else v7))) := ⟨_, rfl⟩
    obtain ⟨v14, hv14⟩ : ∃ z : Int64, z = (if v9 = (0 : Int32) then v6 else (if v9 = (1 : Int32) then v8 else (if v9 = (2 : Int32) then v8 else v6))) := ⟨_, rfl⟩
    have pre15 : ∀ t, Steps p.tables e below (s₁.setTop (mkF m 97 #[.val (.int x0), .val (.int x1), .val (.long x2), .second, .val (.long x3), .second, .val (.int x4), .val (.int v4), .val (.long v5), .second, .val (.long v6), .second, .val (.long v7), .second, .val (.long v8), .second, .val (.int v9), .val (.long v13), .second, .val (.long v14), .second, .unset, .unset, .unset, .unset, .unset, .unset, .unset, .unset] [])) t → Steps p.tables e below (s₁.setTop (entryFrame m #[(.int x0), (.int x1), (.long x2), (.long x3), (.int x4)] maxLocals)) t := fun t k => pre1 t (by
      subst hv9
      subst hv8
      subst hv7
      subst hv6
      subst hv5
      subst hv4
      show Steps p.tables e below (s₁.setTop (mkF m 3 #[.val (.int x0), .val (.int x1), .val (.long x2), .second, .val (.long x3), .second, .val (.int x4), .unset, .unset, .unset, .unset, .unset, .unset, .unset, .unset, .unset, .unset, .unset, .unset, .unset, .unset, .unset, .unset, .unset, .unset, .unset, .unset, .unset, .unset] [(.int (-2147483648 : Int32)), (.int x1)])) _
      refine XS.icmpYes X0.here hx rfl (pc0 := 3) (pc' := 8) rfl (hb hby at_3) rfl (feq hc2).2 (by decide) (by decide) ?_
      show Steps p.tables e below (s₁.setTop (mkF m 8 #[.val (.int x0), .val (.int x1), .val (.long x2), .second, .val (.long x3), .second, .val (.int x4), .unset, .unset, .unset, .unset, .unset, .unset, .unset, .unset, .unset, .unset, .unset, .unset, .unset, .unset, .unset, .unset, .unset, .unset, .unset, .unset, .unset, .unset] [])) _
      refine XS.iloadN X0.here hx rfl (hb hby at_8) rfl ?_
      show Steps p.tables e below (s₁.setTop (mkF m 9 #[.val (.int x0), .val (.int x1), .val (.long x2), .second, .val (.long x3), .second, .val (.int x4), .unset, .unset, .unset, .unset, .unset, .unset, .unset, .unset, .unset, .unset, .unset, .unset, .unset, .unset, .unset, .unset, .unset, .unset, .unset, .unset, .unset, .unset] [(.int x0)])) _
      refine X0.ldcInt hx hown (mvT hZ (hw _ (List.mem_of_getElem? (i := 1) rfl))) (g := (mkF m 9 #[.val (.int x0), .val (.int x1), .val (.long x2), .second, .val (.long x3), .second, .val (.int x4), .unset, .unset, .unset, .unset, .unset, .unset, .unset, .unset, .unset, .unset, .unset, .unset, .unset, .unset, .unset, .unset, .unset, .unset, .unset, .unset, .unset, .unset] [(.int x0)])) rfl (hb hby at_9) _ ?_
      show Steps p.tables e below (s₁.setTop (mkF m 11 #[.val (.int x0), .val (.int x1), .val (.long x2), .second, .val (.long x3), .second, .val (.int x4), .unset, .unset, .unset, .unset, .unset, .unset, .unset, .unset, .unset, .unset, .unset, .unset, .unset, .unset, .unset, .unset, .unset, .unset, .unset, .unset, .unset, .unset] [(.int (2147483647 : Int32)), (.int x0)])) _
      refine XS.iand X0.here hx rfl (hb hby at_11) rfl ?_
      show Steps p.tables e below (s₁.setTop (mkF m 12 #[.val (.int x0), .val (.int x1), .val (.long x2), .second, .val (.long x3), .second, .val (.int x4), .unset, .unset, .unset, .unset, .unset, .unset, .unset, .unset, .unset, .unset, .unset, .unset, .unset, .unset, .unset, .unset, .unset, .unset, .unset, .unset, .unset, .unset] [(.int (x0 &&& (2147483647 : Int32)))])) _
      refine XS.istore X0.here hx rfl (hb hby at_12) rfl (l' := #[.val (.int x0), .val (.int x1), .val (.long x2), .second, .val (.long x3), .second, .val (.int x4), .val (.int (x0 &&& (2147483647 : Int32))), .unset, .unset, .unset, .unset, .unset, .unset, .unset, .unset, .unset, .unset, .unset, .unset, .unset, .unset, .unset, .unset, .unset, .unset, .unset, .unset, .unset]) rfl ?_
      show Steps p.tables e below (s₁.setTop (mkF m 14 #[.val (.int x0), .val (.int x1), .val (.long x2), .second, .val (.long x3), .second, .val (.int x4), .val (.int (x0 &&& (2147483647 : Int32))), .unset, .unset, .unset, .unset, .unset, .unset, .unset, .unset, .unset, .unset, .unset, .unset, .unset, .unset, .unset, .unset, .unset, .unset, .unset, .unset, .unset] [])) _
      refine XS.iload X0.here hx rfl (hb hby at_14) rfl ?_
      show Steps p.tables e below (s₁.setTop (mkF m 16 #[.val (.int x0), .val (.int x1), .val (.long x2), .second, .val (.long x3), .second, .val (.int x4), .val (.int (x0 &&& (2147483647 : Int32))), .unset, .unset, .unset, .unset, .unset, .unset, .unset, .unset, .unset, .unset, .unset, .unset, .unset, .unset, .unset, .unset, .unset, .unset, .unset, .unset, .unset] [(.int (x0 &&& (2147483647 : Int32)))])) _
      refine XS.i2l X0.here hx rfl (hb hby at_16) rfl ?_
      show Steps p.tables e below (s₁.setTop (mkF m 17 #[.val (.int x0), .val (.int x1), .val (.long x2), .second, .val (.long x3), .second, .val (.int x4), .val (.int (x0 &&& (2147483647 : Int32))), .unset, .unset, .unset, .unset, .unset, .unset, .unset, .unset, .unset, .unset, .unset, .unset, .unset, .unset, .unset, .unset, .unset, .unset, .unset, .unset, .unset] [(.long ((x0 &&& (2147483647 : Int32)).toInt64))])) _
      refine XS.lstore X0.here hx rfl (hb hby at_17) rfl (l' := #[.val (.int x0), .val (.int x1), .val (.long x2), .second, .val (.long x3), .second, .val (.int x4), .val (.int (x0 &&& (2147483647 : Int32))), .val (.long ((x0 &&& (2147483647 : Int32)).toInt64)), .second, .unset, .unset, .unset, .unset, .unset, .unset, .unset, .unset, .unset, .unset, .unset, .unset, .unset, .unset, .unset, .unset, .unset, .unset, .unset]) rfl ?_
      show Steps p.tables e below (s₁.setTop (mkF m 19 #[.val (.int x0), .val (.int x1), .val (.long x2), .second, .val (.long x3), .second, .val (.int x4), .val (.int (x0 &&& (2147483647 : Int32))), .val (.long ((x0 &&& (2147483647 : Int32)).toInt64)), .second, .unset, .unset, .unset, .unset, .unset, .unset, .unset, .unset, .unset, .unset, .unset, .unset, .unset, .unset, .unset, .unset, .unset, .unset, .unset] [])) _
      refine XS.iloadN X0.here hx rfl (hb hby at_19) rfl ?_
      show Steps p.tables e below (s₁.setTop (mkF m 20 #[.val (.int x0), .val (.int x1), .val (.long x2), .second, .val (.long x3), .second, .val (.int x4), .val (.int (x0 &&& (2147483647 : Int32))), .val (.long ((x0 &&& (2147483647 : Int32)).toInt64)), .second, .unset, .unset, .unset, .unset, .unset, .unset, .unset, .unset, .unset, .unset, .unset, .unset, .unset, .unset, .unset, .unset, .unset, .unset, .unset] [(.int x1)])) _
      refine XS.i2l X0.here hx rfl (hb hby at_20) rfl ?_
      show Steps p.tables e below (s₁.setTop (mkF m 21 #[.val (.int x0), .val (.int x1), .val (.long x2), .second, .val (.long x3), .second, .val (.int x4), .val (.int (x0 &&& (2147483647 : Int32))), .val (.long ((x0 &&& (2147483647 : Int32)).toInt64)), .second, .unset, .unset, .unset, .unset, .unset, .unset, .unset, .unset, .unset, .unset, .unset, .unset, .unset, .unset, .unset, .unset, .unset, .unset, .unset] [(.long (x1.toInt64))])) _
      refine XS.lstore X0.here hx rfl (hb hby at_21) rfl (l' := #[.val (.int x0), .val (.int x1), .val (.long x2), .second, .val (.long x3), .second, .val (.int x4), .val (.int (x0 &&& (2147483647 : Int32))), .val (.long ((x0 &&& (2147483647 : Int32)).toInt64)), .second, .val (.long (x1.toInt64)), .second, .unset, .unset, .unset, .unset, .unset, .unset, .unset, .unset, .unset, .unset, .unset, .unset, .unset, .unset, .unset, .unset, .unset]) rfl ?_
      show Steps p.tables e below (s₁.setTop (mkF m 23 #[.val (.int x0), .val (.int x1), .val (.long x2), .second, .val (.long x3), .second, .val (.int x4), .val (.int (x0 &&& (2147483647 : Int32))), .val (.long ((x0 &&& (2147483647 : Int32)).toInt64)), .second, .val (.long (x1.toInt64)), .second, .unset, .unset, .unset, .unset, .unset, .unset, .unset, .unset, .unset, .unset, .unset, .unset, .unset, .unset, .unset, .unset, .unset] [])) _
      refine XS.lload X0.here hx rfl (hb hby at_23) rfl ?_
      show Steps p.tables e below (s₁.setTop (mkF m 25 #[.val (.int x0), .val (.int x1), .val (.long x2), .second, .val (.long x3), .second, .val (.int x4), .val (.int (x0 &&& (2147483647 : Int32))), .val (.long ((x0 &&& (2147483647 : Int32)).toInt64)), .second, .val (.long (x1.toInt64)), .second, .unset, .unset, .unset, .unset, .unset, .unset, .unset, .unset, .unset, .unset, .unset, .unset, .unset, .unset, .unset, .unset, .unset] [(.long ((x0 &&& (2147483647 : Int32)).toInt64))])) _
      refine XS.lneg X0.here hx rfl (hb hby at_25) rfl ?_
      show Steps p.tables e below (s₁.setTop (mkF m 26 #[.val (.int x0), .val (.int x1), .val (.long x2), .second, .val (.long x3), .second, .val (.int x4), .val (.int (x0 &&& (2147483647 : Int32))), .val (.long ((x0 &&& (2147483647 : Int32)).toInt64)), .second, .val (.long (x1.toInt64)), .second, .unset, .unset, .unset, .unset, .unset, .unset, .unset, .unset, .unset, .unset, .unset, .unset, .unset, .unset, .unset, .unset, .unset] [(.long (-((x0 &&& (2147483647 : Int32)).toInt64)))])) _
      refine XS.lstore X0.here hx rfl (hb hby at_26) rfl (l' := #[.val (.int x0), .val (.int x1), .val (.long x2), .second, .val (.long x3), .second, .val (.int x4), .val (.int (x0 &&& (2147483647 : Int32))), .val (.long ((x0 &&& (2147483647 : Int32)).toInt64)), .second, .val (.long (x1.toInt64)), .second, .val (.long (-((x0 &&& (2147483647 : Int32)).toInt64))), .second, .unset, .unset, .unset, .unset, .unset, .unset, .unset, .unset, .unset, .unset, .unset, .unset, .unset, .unset, .unset]) rfl ?_
      show Steps p.tables e below (s₁.setTop (mkF m 28 #[.val (.int x0), .val (.int x1), .val (.long x2), .second, .val (.long x3), .second, .val (.int x4), .val (.int (x0 &&& (2147483647 : Int32))), .val (.long ((x0 &&& (2147483647 : Int32)).toInt64)), .second, .val (.long (x1.toInt64)), .second, .val (.long (-((x0 &&& (2147483647 : Int32)).toInt64))), .second, .unset, .unset, .unset, .unset, .unset, .unset, .unset, .unset, .unset, .unset, .unset, .unset, .unset, .unset, .unset] [])) _
      refine XS.lload X0.here hx rfl (hb hby at_28) rfl ?_
      show Steps p.tables e below (s₁.setTop (mkF m 30 #[.val (.int x0), .val (.int x1), .val (.long x2), .second, .val (.long x3), .second, .val (.int x4), .val (.int (x0 &&& (2147483647 : Int32))), .val (.long ((x0 &&& (2147483647 : Int32)).toInt64)), .second, .val (.long (x1.toInt64)), .second, .val (.long (-((x0 &&& (2147483647 : Int32)).toInt64))), .second, .unset, .unset, .unset, .unset, .unset, .unset, .unset, .unset, .unset, .unset, .unset, .unset, .unset, .unset, .unset] [(.long (x1.toInt64))])) _
      refine XS.lneg X0.here hx rfl (hb hby at_30) rfl ?_
      show Steps p.tables e below (s₁.setTop (mkF m 31 #[.val (.int x0), .val (.int x1), .val (.long x2), .second, .val (.long x3), .second, .val (.int x4), .val (.int (x0 &&& (2147483647 : Int32))), .val (.long ((x0 &&& (2147483647 : Int32)).toInt64)), .second, .val (.long (x1.toInt64)), .second, .val (.long (-((x0 &&& (2147483647 : Int32)).toInt64))), .second, .unset, .unset, .unset, .unset, .unset, .unset, .unset, .unset, .unset, .unset, .unset, .unset, .unset, .unset, .unset] [(.long (-(x1.toInt64)))])) _
      refine XS.lstore X0.here hx rfl (hb hby at_31) rfl (l' := #[.val (.int x0), .val (.int x1), .val (.long x2), .second, .val (.long x3), .second, .val (.int x4), .val (.int (x0 &&& (2147483647 : Int32))), .val (.long ((x0 &&& (2147483647 : Int32)).toInt64)), .second, .val (.long (x1.toInt64)), .second, .val (.long (-((x0 &&& (2147483647 : Int32)).toInt64))), .second, .val (.long (-(x1.toInt64))), .second, .unset, .unset, .unset, .unset, .unset, .unset, .unset, .unset, .unset, .unset, .unset, .unset, .unset]) rfl ?_
      show Steps p.tables e below (s₁.setTop (mkF m 33 #[.val (.int x0), .val (.int x1), .val (.long x2), .second, .val (.long x3), .second, .val (.int x4), .val (.int (x0 &&& (2147483647 : Int32))), .val (.long ((x0 &&& (2147483647 : Int32)).toInt64)), .second, .val (.long (x1.toInt64)), .second, .val (.long (-((x0 &&& (2147483647 : Int32)).toInt64))), .second, .val (.long (-(x1.toInt64))), .second, .unset, .unset, .unset, .unset, .unset, .unset, .unset, .unset, .unset, .unset, .unset, .unset, .unset] [])) _
      refine XS.iload X0.here hx rfl (hb hby at_33) rfl ?_
      show Steps p.tables e below (s₁.setTop (mkF m 35 #[.val (.int x0), .val (.int x1), .val (.long x2), .second, .val (.long x3), .second, .val (.int x4), .val (.int (x0 &&& (2147483647 : Int32))), .val (.long ((x0 &&& (2147483647 : Int32)).toInt64)), .second, .val (.long (x1.toInt64)), .second, .val (.long (-((x0 &&& (2147483647 : Int32)).toInt64))), .second, .val (.long (-(x1.toInt64))), .second, .unset, .unset, .unset, .unset, .unset, .unset, .unset, .unset, .unset, .unset, .unset, .unset, .unset] [(.int x4)])) _
      refine XS.iconst X0.here hx rfl (hb hby at_35) ?_
      show Steps p.tables e below (s₁.setTop (mkF m 36 #[.val (.int x0), .val (.int x1), .val (.long x2), .second, .val (.long x3), .second, .val (.int x4), .val (.int (x0 &&& (2147483647 : Int32))), .val (.long ((x0 &&& (2147483647 : Int32)).toInt64)), .second, .val (.long (x1.toInt64)), .second, .val (.long (-((x0 &&& (2147483647 : Int32)).toInt64))), .second, .val (.long (-(x1.toInt64))), .second, .unset, .unset, .unset, .unset, .unset, .unset, .unset, .unset, .unset, .unset, .unset, .unset, .unset] [(.int (3 : Int32)), (.int x4)])) _
      refine XS.iand X0.here hx rfl (hb hby at_36) rfl ?_
      show Steps p.tables e below (s₁.setTop (mkF m 37 #[.val (.int x0), .val (.int x1), .val (.long x2), .second, .val (.long x3), .second, .val (.int x4), .val (.int (x0 &&& (2147483647 : Int32))), .val (.long ((x0 &&& (2147483647 : Int32)).toInt64)), .second, .val (.long (x1.toInt64)), .second, .val (.long (-((x0 &&& (2147483647 : Int32)).toInt64))), .second, .val (.long (-(x1.toInt64))), .second, .unset, .unset, .unset, .unset, .unset, .unset, .unset, .unset, .unset, .unset, .unset, .unset, .unset] [(.int (x4 &&& (3 : Int32)))])) _
      refine XS.istore X0.here hx rfl (hb hby at_37) rfl (l' := #[.val (.int x0), .val (.int x1), .val (.long x2), .second, .val (.long x3), .second, .val (.int x4), .val (.int (x0 &&& (2147483647 : Int32))), .val (.long ((x0 &&& (2147483647 : Int32)).toInt64)), .second, .val (.long (x1.toInt64)), .second, .val (.long (-((x0 &&& (2147483647 : Int32)).toInt64))), .second, .val (.long (-(x1.toInt64))), .second, .val (.int (x4 &&& (3 : Int32))), .unset, .unset, .unset, .unset, .unset, .unset, .unset, .unset, .unset, .unset, .unset, .unset]) rfl ?_
      show Steps p.tables e below (s₁.setTop (mkF m 39 #[.val (.int x0), .val (.int x1), .val (.long x2), .second, .val (.long x3), .second, .val (.int x4), .val (.int (x0 &&& (2147483647 : Int32))), .val (.long ((x0 &&& (2147483647 : Int32)).toInt64)), .second, .val (.long (x1.toInt64)), .second, .val (.long (-((x0 &&& (2147483647 : Int32)).toInt64))), .second, .val (.long (-(x1.toInt64))), .second, .val (.int (x4 &&& (3 : Int32))), .unset, .unset, .unset, .unset, .unset, .unset, .unset, .unset, .unset, .unset, .unset, .unset] [])) _
      refine XS.iload X0.here hx rfl (hb hby at_39) rfl ?_
      show Steps p.tables e below (s₁.setTop (mkF m 41 #[.val (.int x0), .val (.int x1), .val (.long x2), .second, .val (.long x3), .second, .val (.int x4), .val (.int (x0 &&& (2147483647 : Int32))), .val (.long ((x0 &&& (2147483647 : Int32)).toInt64)), .second, .val (.long (x1.toInt64)), .second, .val (.long (-((x0 &&& (2147483647 : Int32)).toInt64))), .second, .val (.long (-(x1.toInt64))), .second, .val (.int (x4 &&& (3 : Int32))), .unset, .unset, .unset, .unset, .unset, .unset, .unset, .unset, .unset, .unset, .unset, .unset] [(.int (x4 &&& (3 : Int32)))])) _
      by_cases hc10 : (x4 &&& (3 : Int32)) = (0 : Int32)
      · skip
        refine XS.ifNo X0.here hx rfl (hb hby at_41) rfl ((if0 _ _).trans (teq hc10).2) ?_
        show Steps p.tables e below (s₁.setTop (mkF m 44 #[.val (.int x0), .val (.int x1), .val (.long x2), .second, .val (.long x3), .second, .val (.int x4), .val (.int (x0 &&& (2147483647 : Int32))), .val (.long ((x0 &&& (2147483647 : Int32)).toInt64)), .second, .val (.long (x1.toInt64)), .second, .val (.long (-((x0 &&& (2147483647 : Int32)).toInt64))), .second, .val (.long (-(x1.toInt64))), .second, .val (.int (x4 &&& (3 : Int32))), .unset, .unset, .unset, .unset, .unset, .unset, .unset, .unset, .unset, .unset, .unset, .unset] [])) _
        refine XS.lload X0.here hx rfl (hb hby at_44) rfl ?_
        show Steps p.tables e below (s₁.setTop (mkF m 46 #[.val (.int x0), .val (.int x1), .val (.long x2), .second, .val (.long x3), .second, .val (.int x4), .val (.int (x0 &&& (2147483647 : Int32))), .val (.long ((x0 &&& (2147483647 : Int32)).toInt64)), .second, .val (.long (x1.toInt64)), .second, .val (.long (-((x0 &&& (2147483647 : Int32)).toInt64))), .second, .val (.long (-(x1.toInt64))), .second, .val (.int (x4 &&& (3 : Int32))), .unset, .unset, .unset, .unset, .unset, .unset, .unset, .unset, .unset, .unset, .unset, .unset] [(.long ((x0 &&& (2147483647 : Int32)).toInt64))])) _
        refine XS.lstore X0.here hx rfl (hb hby at_46) rfl (l' := #[.val (.int x0), .val (.int x1), .val (.long x2), .second, .val (.long x3), .second, .val (.int x4), .val (.int (x0 &&& (2147483647 : Int32))), .val (.long ((x0 &&& (2147483647 : Int32)).toInt64)), .second, .val (.long (x1.toInt64)), .second, .val (.long (-((x0 &&& (2147483647 : Int32)).toInt64))), .second, .val (.long (-(x1.toInt64))), .second, .val (.int (x4 &&& (3 : Int32))), .val (.long ((x0 &&& (2147483647 : Int32)).toInt64)), .second, .unset, .unset, .unset, .unset, .unset, .unset, .unset, .unset, .unset, .unset]) rfl ?_
        show Steps p.tables e below (s₁.setTop (mkF m 48 #[.val (.int x0), .val (.int x1), .val (.long x2), .second, .val (.long x3), .second, .val (.int x4), .val (.int (x0 &&& (2147483647 : Int32))), .val (.long ((x0 &&& (2147483647 : Int32)).toInt64)), .second, .val (.long (x1.toInt64)), .second, .val (.long (-((x0 &&& (2147483647 : Int32)).toInt64))), .second, .val (.long (-(x1.toInt64))), .second, .val (.int (x4 &&& (3 : Int32))), .val (.long ((x0 &&& (2147483647 : Int32)).toInt64)), .second, .unset, .unset, .unset, .unset, .unset, .unset, .unset, .unset, .unset, .unset] [])) _
        refine XS.lload X0.here hx rfl (hb hby at_48) rfl ?_
        show Steps p.tables e below (s₁.setTop (mkF m 50 #[.val (.int x0), .val (.int x1), .val (.long x2), .second, .val (.long x3), .second, .val (.int x4), .val (.int (x0 &&& (2147483647 : Int32))), .val (.long ((x0 &&& (2147483647 : Int32)).toInt64)), .second, .val (.long (x1.toInt64)), .second, .val (.long (-((x0 &&& (2147483647 : Int32)).toInt64))), .second, .val (.long (-(x1.toInt64))), .second, .val (.int (x4 &&& (3 : Int32))), .val (.long ((x0 &&& (2147483647 : Int32)).toInt64)), .second, .unset, .unset, .unset, .unset, .unset, .unset, .unset, .unset, .unset, .unset] [(.long (x1.toInt64))])) _
        refine XS.lstore X0.here hx rfl (hb hby at_50) rfl (l' := #[.val (.int x0), .val (.int x1), .val (.long x2), .second, .val (.long x3), .second, .val (.int x4), .val (.int (x0 &&& (2147483647 : Int32))), .val (.long ((x0 &&& (2147483647 : Int32)).toInt64)), .second, .val (.long (x1.toInt64)), .second, .val (.long (-((x0 &&& (2147483647 : Int32)).toInt64))), .second, .val (.long (-(x1.toInt64))), .second, .val (.int (x4 &&& (3 : Int32))), .val (.long ((x0 &&& (2147483647 : Int32)).toInt64)), .second, .val (.long (x1.toInt64)), .second, .unset, .unset, .unset, .unset, .unset, .unset, .unset, .unset]) rfl ?_
        show Steps p.tables e below (s₁.setTop (mkF m 52 #[.val (.int x0), .val (.int x1), .val (.long x2), .second, .val (.long x3), .second, .val (.int x4), .val (.int (x0 &&& (2147483647 : Int32))), .val (.long ((x0 &&& (2147483647 : Int32)).toInt64)), .second, .val (.long (x1.toInt64)), .second, .val (.long (-((x0 &&& (2147483647 : Int32)).toInt64))), .second, .val (.long (-(x1.toInt64))), .second, .val (.int (x4 &&& (3 : Int32))), .val (.long ((x0 &&& (2147483647 : Int32)).toInt64)), .second, .val (.long (x1.toInt64)), .second, .unset, .unset, .unset, .unset, .unset, .unset, .unset, .unset] [])) _
        refine XS.goto X0.here hx rfl (pc0 := 52) (pc' := 97) rfl (hb hby at_52) (by decide) (by decide) ?_
        show Steps p.tables e below (s₁.setTop (mkF m 97 #[.val (.int x0), .val (.int x1), .val (.long x2), .second, .val (.long x3), .second, .val (.int x4), .val (.int (x0 &&& (2147483647 : Int32))), .val (.long ((x0 &&& (2147483647 : Int32)).toInt64)), .second, .val (.long (x1.toInt64)), .second, .val (.long (-((x0 &&& (2147483647 : Int32)).toInt64))), .second, .val (.long (-(x1.toInt64))), .second, .val (.int (x4 &&& (3 : Int32))), .val (.long ((x0 &&& (2147483647 : Int32)).toInt64)), .second, .val (.long (x1.toInt64)), .second, .unset, .unset, .unset, .unset, .unset, .unset, .unset, .unset] [])) _
        rw [show v13 = ((x0 &&& (2147483647 : Int32)).toInt64) from by rw [hv13, if_pos hc10]] at k
        rw [show v14 = (x1.toInt64) from by rw [hv14, if_pos hc10]] at k
        exact k
      · skip
        refine XS.ifYes X0.here hx rfl (pc0 := 41) (pc' := 55) rfl (hb hby at_41) rfl ((if0 _ _).trans (feq hc10).2) (by decide) (by decide) ?_
        show Steps p.tables e below (s₁.setTop (mkF m 55 #[.val (.int x0), .val (.int x1), .val (.long x2), .second, .val (.long x3), .second, .val (.int x4), .val (.int (x0 &&& (2147483647 : Int32))), .val (.long ((x0 &&& (2147483647 : Int32)).toInt64)), .second, .val (.long (x1.toInt64)), .second, .val (.long (-((x0 &&& (2147483647 : Int32)).toInt64))), .second, .val (.long (-(x1.toInt64))), .second, .val (.int (x4 &&& (3 : Int32))), .unset, .unset, .unset, .unset, .unset, .unset, .unset, .unset, .unset, .unset, .unset, .unset] [])) _
        refine XS.iload X0.here hx rfl (hb hby at_55) rfl ?_
        show Steps p.tables e below (s₁.setTop (mkF m 57 #[.val (.int x0), .val (.int x1), .val (.long x2), .second, .val (.long x3), .second, .val (.int x4), .val (.int (x0 &&& (2147483647 : Int32))), .val (.long ((x0 &&& (2147483647 : Int32)).toInt64)), .second, .val (.long (x1.toInt64)), .second, .val (.long (-((x0 &&& (2147483647 : Int32)).toInt64))), .second, .val (.long (-(x1.toInt64))), .second, .val (.int (x4 &&& (3 : Int32))), .unset, .unset, .unset, .unset, .unset, .unset, .unset, .unset, .unset, .unset, .unset, .unset] [(.int (x4 &&& (3 : Int32)))])) _
        refine XS.iconst X0.here hx rfl (hb hby at_57) ?_
        show Steps p.tables e below (s₁.setTop (mkF m 58 #[.val (.int x0), .val (.int x1), .val (.long x2), .second, .val (.long x3), .second, .val (.int x4), .val (.int (x0 &&& (2147483647 : Int32))), .val (.long ((x0 &&& (2147483647 : Int32)).toInt64)), .second, .val (.long (x1.toInt64)), .second, .val (.long (-((x0 &&& (2147483647 : Int32)).toInt64))), .second, .val (.long (-(x1.toInt64))), .second, .val (.int (x4 &&& (3 : Int32))), .unset, .unset, .unset, .unset, .unset, .unset, .unset, .unset, .unset, .unset, .unset, .unset] [(.int (1 : Int32)), (.int (x4 &&& (3 : Int32)))])) _
        by_cases hc11 : (x4 &&& (3 : Int32)) = (1 : Int32)
        · skip
          refine XS.icmpNo X0.here hx rfl (hb hby at_58) rfl (teq hc11).2 ?_
          show Steps p.tables e below (s₁.setTop (mkF m 61 #[.val (.int x0), .val (.int x1), .val (.long x2), .second, .val (.long x3), .second, .val (.int x4), .val (.int (x0 &&& (2147483647 : Int32))), .val (.long ((x0 &&& (2147483647 : Int32)).toInt64)), .second, .val (.long (x1.toInt64)), .second, .val (.long (-((x0 &&& (2147483647 : Int32)).toInt64))), .second, .val (.long (-(x1.toInt64))), .second, .val (.int (x4 &&& (3 : Int32))), .unset, .unset, .unset, .unset, .unset, .unset, .unset, .unset, .unset, .unset, .unset, .unset] [])) _
          refine XS.lload X0.here hx rfl (hb hby at_61) rfl ?_
          show Steps p.tables e below (s₁.setTop (mkF m 63 #[.val (.int x0), .val (.int x1), .val (.long x2), .second, .val (.long x3), .second, .val (.int x4), .val (.int (x0 &&& (2147483647 : Int32))), .val (.long ((x0 &&& (2147483647 : Int32)).toInt64)), .second, .val (.long (x1.toInt64)), .second, .val (.long (-((x0 &&& (2147483647 : Int32)).toInt64))), .second, .val (.long (-(x1.toInt64))), .second, .val (.int (x4 &&& (3 : Int32))), .unset, .unset, .unset, .unset, .unset, .unset, .unset, .unset, .unset, .unset, .unset, .unset] [(.long (-((x0 &&& (2147483647 : Int32)).toInt64)))])) _
          refine XS.lstore X0.here hx rfl (hb hby at_63) rfl (l' := #[.val (.int x0), .val (.int x1), .val (.long x2), .second, .val (.long x3), .second, .val (.int x4), .val (.int (x0 &&& (2147483647 : Int32))), .val (.long ((x0 &&& (2147483647 : Int32)).toInt64)), .second, .val (.long (x1.toInt64)), .second, .val (.long (-((x0 &&& (2147483647 : Int32)).toInt64))), .second, .val (.long (-(x1.toInt64))), .second, .val (.int (x4 &&& (3 : Int32))), .val (.long (-((x0 &&& (2147483647 : Int32)).toInt64))), .second, .unset, .unset, .unset, .unset, .unset, .unset, .unset, .unset, .unset, .unset]) rfl ?_
          show Steps p.tables e below (s₁.setTop (mkF m 65 #[.val (.int x0), .val (.int x1), .val (.long x2), .second, .val (.long x3), .second, .val (.int x4), .val (.int (x0 &&& (2147483647 : Int32))), .val (.long ((x0 &&& (2147483647 : Int32)).toInt64)), .second, .val (.long (x1.toInt64)), .second, .val (.long (-((x0 &&& (2147483647 : Int32)).toInt64))), .second, .val (.long (-(x1.toInt64))), .second, .val (.int (x4 &&& (3 : Int32))), .val (.long (-((x0 &&& (2147483647 : Int32)).toInt64))), .second, .unset, .unset, .unset, .unset, .unset, .unset, .unset, .unset, .unset, .unset] [])) _
          refine XS.lload X0.here hx rfl (hb hby at_65) rfl ?_
          show Steps p.tables e below (s₁.setTop (mkF m 67 #[.val (.int x0), .val (.int x1), .val (.long x2), .second, .val (.long x3), .second, .val (.int x4), .val (.int (x0 &&& (2147483647 : Int32))), .val (.long ((x0 &&& (2147483647 : Int32)).toInt64)), .second, .val (.long (x1.toInt64)), .second, .val (.long (-((x0 &&& (2147483647 : Int32)).toInt64))), .second, .val (.long (-(x1.toInt64))), .second, .val (.int (x4 &&& (3 : Int32))), .val (.long (-((x0 &&& (2147483647 : Int32)).toInt64))), .second, .unset, .unset, .unset, .unset, .unset, .unset, .unset, .unset, .unset, .unset] [(.long (-(x1.toInt64)))])) _
          refine XS.lstore X0.here hx rfl (hb hby at_67) rfl (l' := #[.val (.int x0), .val (.int x1), .val (.long x2), .second, .val (.long x3), .second, .val (.int x4), .val (.int (x0 &&& (2147483647 : Int32))), .val (.long ((x0 &&& (2147483647 : Int32)).toInt64)), .second, .val (.long (x1.toInt64)), .second, .val (.long (-((x0 &&& (2147483647 : Int32)).toInt64))), .second, .val (.long (-(x1.toInt64))), .second, .val (.int (x4 &&& (3 : Int32))), .val (.long (-((x0 &&& (2147483647 : Int32)).toInt64))), .second, .val (.long (-(x1.toInt64))), .second, .unset, .unset, .unset, .unset, .unset, .unset, .unset, .unset]) rfl ?_
          show Steps p.tables e below (s₁.setTop (mkF m 69 #[.val (.int x0), .val (.int x1), .val (.long x2), .second, .val (.long x3), .second, .val (.int x4), .val (.int (x0 &&& (2147483647 : Int32))), .val (.long ((x0 &&& (2147483647 : Int32)).toInt64)), .second, .val (.long (x1.toInt64)), .second, .val (.long (-((x0 &&& (2147483647 : Int32)).toInt64))), .second, .val (.long (-(x1.toInt64))), .second, .val (.int (x4 &&& (3 : Int32))), .val (.long (-((x0 &&& (2147483647 : Int32)).toInt64))), .second, .val (.long (-(x1.toInt64))), .second, .unset, .unset, .unset, .unset, .unset, .unset, .unset, .unset] [])) _
          refine XS.goto X0.here hx rfl (pc0 := 69) (pc' := 97) rfl (hb hby at_69) (by decide) (by decide) ?_
          show Steps p.tables e below (s₁.setTop (mkF m 97 #[.val (.int x0), .val (.int x1), .val (.long x2), .second, .val (.long x3), .second, .val (.int x4), .val (.int (x0 &&& (2147483647 : Int32))), .val (.long ((x0 &&& (2147483647 : Int32)).toInt64)), .second, .val (.long (x1.toInt64)), .second, .val (.long (-((x0 &&& (2147483647 : Int32)).toInt64))), .second, .val (.long (-(x1.toInt64))), .second, .val (.int (x4 &&& (3 : Int32))), .val (.long (-((x0 &&& (2147483647 : Int32)).toInt64))), .second, .val (.long (-(x1.toInt64))), .second, .unset, .unset, .unset, .unset, .unset, .unset, .unset, .unset] [])) _
          rw [show v13 = (-((x0 &&& (2147483647 : Int32)).toInt64)) from by rw [hv13, if_neg hc10, if_pos hc11]] at k
          rw [show v14 = (-(x1.toInt64)) from by rw [hv14, if_neg hc10, if_pos hc11]] at k
          exact k
        · skip
          refine XS.icmpYes X0.here hx rfl (pc0 := 58) (pc' := 72) rfl (hb hby at_58) rfl (feq hc11).2 (by decide) (by decide) ?_
          show Steps p.tables e below (s₁.setTop (mkF m 72 #[.val (.int x0), .val (.int x1), .val (.long x2), .second, .val (.long x3), .second, .val (.int x4), .val (.int (x0 &&& (2147483647 : Int32))), .val (.long ((x0 &&& (2147483647 : Int32)).toInt64)), .second, .val (.long (x1.toInt64)), .second, .val (.long (-((x0 &&& (2147483647 : Int32)).toInt64))), .second, .val (.long (-(x1.toInt64))), .second, .val (.int (x4 &&& (3 : Int32))), .unset, .unset, .unset, .unset, .unset, .unset, .unset, .unset, .unset, .unset, .unset, .unset] [])) _
          refine XS.iload X0.here hx rfl (hb hby at_72) rfl ?_
          show Steps p.tables e below (s₁.setTop (mkF m 74 #[.val (.int x0), .val (.int x1), .val (.long x2), .second, .val (.long x3), .second, .val (.int x4), .val (.int (x0 &&& (2147483647 : Int32))), .val (.long ((x0 &&& (2147483647 : Int32)).toInt64)), .second, .val (.long (x1.toInt64)), .second, .val (.long (-((x0 &&& (2147483647 : Int32)).toInt64))), .second, .val (.long (-(x1.toInt64))), .second, .val (.int (x4 &&& (3 : Int32))), .unset, .unset, .unset, .unset, .unset, .unset, .unset, .unset, .unset, .unset, .unset, .unset] [(.int (x4 &&& (3 : Int32)))])) _
          refine XS.iconst X0.here hx rfl (hb hby at_74) ?_
          show Steps p.tables e below (s₁.setTop (mkF m 75 #[.val (.int x0), .val (.int x1), .val (.long x2), .second, .val (.long x3), .second, .val (.int x4), .val (.int (x0 &&& (2147483647 : Int32))), .val (.long ((x0 &&& (2147483647 : Int32)).toInt64)), .second, .val (.long (x1.toInt64)), .second, .val (.long (-((x0 &&& (2147483647 : Int32)).toInt64))), .second, .val (.long (-(x1.toInt64))), .second, .val (.int (x4 &&& (3 : Int32))), .unset, .unset, .unset, .unset, .unset, .unset, .unset, .unset, .unset, .unset, .unset, .unset] [(.int (2 : Int32)), (.int (x4 &&& (3 : Int32)))])) _
          by_cases hc12 : (x4 &&& (3 : Int32)) = (2 : Int32)
          · skip
            refine XS.icmpNo X0.here hx rfl (hb hby at_75) rfl (teq hc12).2 ?_
            show Steps p.tables e below (s₁.setTop (mkF m 78 #[.val (.int x0), .val (.int x1), .val (.long x2), .second, .val (.long x3), .second, .val (.int x4), .val (.int (x0 &&& (2147483647 : Int32))), .val (.long ((x0 &&& (2147483647 : Int32)).toInt64)), .second, .val (.long (x1.toInt64)), .second, .val (.long (-((x0 &&& (2147483647 : Int32)).toInt64))), .second, .val (.long (-(x1.toInt64))), .second, .val (.int (x4 &&& (3 : Int32))), .unset, .unset, .unset, .unset, .unset, .unset, .unset, .unset, .unset, .unset, .unset, .unset] [])) _
            refine XS.lload X0.here hx rfl (hb hby at_78) rfl ?_
            show Steps p.tables e below (s₁.setTop (mkF m 80 #[.val (.int x0), .val (.int x1), .val (.long x2), .second, .val (.long x3), .second, .val (.int x4), .val (.int (x0 &&& (2147483647 : Int32))), .val (.long ((x0 &&& (2147483647 : Int32)).toInt64)), .second, .val (.long (x1.toInt64)), .second, .val (.long (-((x0 &&& (2147483647 : Int32)).toInt64))), .second, .val (.long (-(x1.toInt64))), .second, .val (.int (x4 &&& (3 : Int32))), .unset, .unset, .unset, .unset, .unset, .unset, .unset, .unset, .unset, .unset, .unset, .unset] [(.long ((x0 &&& (2147483647 : Int32)).toInt64))])) _
            refine XS.lstore X0.here hx rfl (hb hby at_80) rfl (l' := #[.val (.int x0), .val (.int x1), .val (.long x2), .second, .val (.long x3), .second, .val (.int x4), .val (.int (x0 &&& (2147483647 : Int32))), .val (.long ((x0 &&& (2147483647 : Int32)).toInt64)), .second, .val (.long (x1.toInt64)), .second, .val (.long (-((x0 &&& (2147483647 : Int32)).toInt64))), .second, .val (.long (-(x1.toInt64))), .second, .val (.int (x4 &&& (3 : Int32))), .val (.long ((x0 &&& (2147483647 : Int32)).toInt64)), .second, .unset, .unset, .unset, .unset, .unset, .unset, .unset, .unset, .unset, .unset]) rfl ?_
            show Steps p.tables e below (s₁.setTop (mkF m 82 #[.val (.int x0), .val (.int x1), .val (.long x2), .second, .val (.long x3), .second, .val (.int x4), .val (.int (x0 &&& (2147483647 : Int32))), .val (.long ((x0 &&& (2147483647 : Int32)).toInt64)), .second, .val (.long (x1.toInt64)), .second, .val (.long (-((x0 &&& (2147483647 : Int32)).toInt64))), .second, .val (.long (-(x1.toInt64))), .second, .val (.int (x4 &&& (3 : Int32))), .val (.long ((x0 &&& (2147483647 : Int32)).toInt64)), .second, .unset, .unset, .unset, .unset, .unset, .unset, .unset, .unset, .unset, .unset] [])) _
            refine XS.lload X0.here hx rfl (hb hby at_82) rfl ?_
            show Steps p.tables e below (s₁.setTop (mkF m 84 #[.val (.int x0), .val (.int x1), .val (.long x2), .second, .val (.long x3), .second, .val (.int x4), .val (.int (x0 &&& (2147483647 : Int32))), .val (.long ((x0 &&& (2147483647 : Int32)).toInt64)), .second, .val (.long (x1.toInt64)), .second, .val (.long (-((x0 &&& (2147483647 : Int32)).toInt64))), .second, .val (.long (-(x1.toInt64))), .second, .val (.int (x4 &&& (3 : Int32))), .val (.long ((x0 &&& (2147483647 : Int32)).toInt64)), .second, .unset, .unset, .unset, .unset, .unset, .unset, .unset, .unset, .unset, .unset] [(.long (-(x1.toInt64)))])) _
            refine XS.lstore X0.here hx rfl (hb hby at_84) rfl (l' := #[.val (.int x0), .val (.int x1), .val (.long x2), .second, .val (.long x3), .second, .val (.int x4), .val (.int (x0 &&& (2147483647 : Int32))), .val (.long ((x0 &&& (2147483647 : Int32)).toInt64)), .second, .val (.long (x1.toInt64)), .second, .val (.long (-((x0 &&& (2147483647 : Int32)).toInt64))), .second, .val (.long (-(x1.toInt64))), .second, .val (.int (x4 &&& (3 : Int32))), .val (.long ((x0 &&& (2147483647 : Int32)).toInt64)), .second, .val (.long (-(x1.toInt64))), .second, .unset, .unset, .unset, .unset, .unset, .unset, .unset, .unset]) rfl ?_
            show Steps p.tables e below (s₁.setTop (mkF m 86 #[.val (.int x0), .val (.int x1), .val (.long x2), .second, .val (.long x3), .second, .val (.int x4), .val (.int (x0 &&& (2147483647 : Int32))), .val (.long ((x0 &&& (2147483647 : Int32)).toInt64)), .second, .val (.long (x1.toInt64)), .second, .val (.long (-((x0 &&& (2147483647 : Int32)).toInt64))), .second, .val (.long (-(x1.toInt64))), .second, .val (.int (x4 &&& (3 : Int32))), .val (.long ((x0 &&& (2147483647 : Int32)).toInt64)), .second, .val (.long (-(x1.toInt64))), .second, .unset, .unset, .unset, .unset, .unset, .unset, .unset, .unset] [])) _
            refine XS.goto X0.here hx rfl (pc0 := 86) (pc' := 97) rfl (hb hby at_86) (by decide) (by decide) ?_
            show Steps p.tables e below (s₁.setTop (mkF m 97 #[.val (.int x0), .val (.int x1), .val (.long x2), .second, .val (.long x3), .second, .val (.int x4), .val (.int (x0 &&& (2147483647 : Int32))), .val (.long ((x0 &&& (2147483647 : Int32)).toInt64)), .second, .val (.long (x1.toInt64)), .second, .val (.long (-((x0 &&& (2147483647 : Int32)).toInt64))), .second, .val (.long (-(x1.toInt64))), .second, .val (.int (x4 &&& (3 : Int32))), .val (.long ((x0 &&& (2147483647 : Int32)).toInt64)), .second, .val (.long (-(x1.toInt64))), .second, .unset, .unset, .unset, .unset, .unset, .unset, .unset, .unset] [])) _
            rw [show v13 = ((x0 &&& (2147483647 : Int32)).toInt64) from by rw [hv13, if_neg hc10, if_neg hc11, if_pos hc12]] at k
            rw [show v14 = (-(x1.toInt64)) from by rw [hv14, if_neg hc10, if_neg hc11, if_pos hc12]] at k
            exact k
          · skip
            refine XS.icmpYes X0.here hx rfl (pc0 := 75) (pc' := 89) rfl (hb hby at_75) rfl (feq hc12).2 (by decide) (by decide) ?_
            show Steps p.tables e below (s₁.setTop (mkF m 89 #[.val (.int x0), .val (.int x1), .val (.long x2), .second, .val (.long x3), .second, .val (.int x4), .val (.int (x0 &&& (2147483647 : Int32))), .val (.long ((x0 &&& (2147483647 : Int32)).toInt64)), .second, .val (.long (x1.toInt64)), .second, .val (.long (-((x0 &&& (2147483647 : Int32)).toInt64))), .second, .val (.long (-(x1.toInt64))), .second, .val (.int (x4 &&& (3 : Int32))), .unset, .unset, .unset, .unset, .unset, .unset, .unset, .unset, .unset, .unset, .unset, .unset] [])) _
            refine XS.lload X0.here hx rfl (hb hby at_89) rfl ?_
            show Steps p.tables e below (s₁.setTop (mkF m 91 #[.val (.int x0), .val (.int x1), .val (.long x2), .second, .val (.long x3), .second, .val (.int x4), .val (.int (x0 &&& (2147483647 : Int32))), .val (.long ((x0 &&& (2147483647 : Int32)).toInt64)), .second, .val (.long (x1.toInt64)), .second, .val (.long (-((x0 &&& (2147483647 : Int32)).toInt64))), .second, .val (.long (-(x1.toInt64))), .second, .val (.int (x4 &&& (3 : Int32))), .unset, .unset, .unset, .unset, .unset, .unset, .unset, .unset, .unset, .unset, .unset, .unset] [(.long (-((x0 &&& (2147483647 : Int32)).toInt64)))])) _
            refine XS.lstore X0.here hx rfl (hb hby at_91) rfl (l' := #[.val (.int x0), .val (.int x1), .val (.long x2), .second, .val (.long x3), .second, .val (.int x4), .val (.int (x0 &&& (2147483647 : Int32))), .val (.long ((x0 &&& (2147483647 : Int32)).toInt64)), .second, .val (.long (x1.toInt64)), .second, .val (.long (-((x0 &&& (2147483647 : Int32)).toInt64))), .second, .val (.long (-(x1.toInt64))), .second, .val (.int (x4 &&& (3 : Int32))), .val (.long (-((x0 &&& (2147483647 : Int32)).toInt64))), .second, .unset, .unset, .unset, .unset, .unset, .unset, .unset, .unset, .unset, .unset]) rfl ?_
            show Steps p.tables e below (s₁.setTop (mkF m 93 #[.val (.int x0), .val (.int x1), .val (.long x2), .second, .val (.long x3), .second, .val (.int x4), .val (.int (x0 &&& (2147483647 : Int32))), .val (.long ((x0 &&& (2147483647 : Int32)).toInt64)), .second, .val (.long (x1.toInt64)), .second, .val (.long (-((x0 &&& (2147483647 : Int32)).toInt64))), .second, .val (.long (-(x1.toInt64))), .second, .val (.int (x4 &&& (3 : Int32))), .val (.long (-((x0 &&& (2147483647 : Int32)).toInt64))), .second, .unset, .unset, .unset, .unset, .unset, .unset, .unset, .unset, .unset, .unset] [])) _
            refine XS.lload X0.here hx rfl (hb hby at_93) rfl ?_
            show Steps p.tables e below (s₁.setTop (mkF m 95 #[.val (.int x0), .val (.int x1), .val (.long x2), .second, .val (.long x3), .second, .val (.int x4), .val (.int (x0 &&& (2147483647 : Int32))), .val (.long ((x0 &&& (2147483647 : Int32)).toInt64)), .second, .val (.long (x1.toInt64)), .second, .val (.long (-((x0 &&& (2147483647 : Int32)).toInt64))), .second, .val (.long (-(x1.toInt64))), .second, .val (.int (x4 &&& (3 : Int32))), .val (.long (-((x0 &&& (2147483647 : Int32)).toInt64))), .second, .unset, .unset, .unset, .unset, .unset, .unset, .unset, .unset, .unset, .unset] [(.long (x1.toInt64))])) _
            refine XS.lstore X0.here hx rfl (hb hby at_95) rfl (l' := #[.val (.int x0), .val (.int x1), .val (.long x2), .second, .val (.long x3), .second, .val (.int x4), .val (.int (x0 &&& (2147483647 : Int32))), .val (.long ((x0 &&& (2147483647 : Int32)).toInt64)), .second, .val (.long (x1.toInt64)), .second, .val (.long (-((x0 &&& (2147483647 : Int32)).toInt64))), .second, .val (.long (-(x1.toInt64))), .second, .val (.int (x4 &&& (3 : Int32))), .val (.long (-((x0 &&& (2147483647 : Int32)).toInt64))), .second, .val (.long (x1.toInt64)), .second, .unset, .unset, .unset, .unset, .unset, .unset, .unset, .unset]) rfl ?_
            show Steps p.tables e below (s₁.setTop (mkF m 97 #[.val (.int x0), .val (.int x1), .val (.long x2), .second, .val (.long x3), .second, .val (.int x4), .val (.int (x0 &&& (2147483647 : Int32))), .val (.long ((x0 &&& (2147483647 : Int32)).toInt64)), .second, .val (.long (x1.toInt64)), .second, .val (.long (-((x0 &&& (2147483647 : Int32)).toInt64))), .second, .val (.long (-(x1.toInt64))), .second, .val (.int (x4 &&& (3 : Int32))), .val (.long (-((x0 &&& (2147483647 : Int32)).toInt64))), .second, .val (.long (x1.toInt64)), .second, .unset, .unset, .unset, .unset, .unset, .unset, .unset, .unset] [])) _
            rw [show v13 = (-((x0 &&& (2147483647 : Int32)).toInt64)) from by rw [hv13, if_neg hc10, if_neg hc11, if_neg hc12]] at k
            rw [show v14 = (x1.toInt64) from by rw [hv14, if_neg hc10, if_neg hc11, if_neg hc12]] at k
            exact k)
    have pre16 : ∀ t, Steps p.tables e below (s₁.setTop (mkF m 112 #[.val (.int x0), .val (.int x1), .val (.long x2), .second, .val (.long x3), .second, .val (.int x4), .val (.int v4), .val (.long v5), .second, .val (.long v6), .second, .val (.long v7), .second, .val (.long v8), .second, .val (.int v9), .val (.long v13), .second, .val (.long v14), .second, .unset, .unset, .unset, .unset, .unset, .unset, .unset, .unset] [(.int ((x4 >>> ((4 : Int32) &&& 31)) &&& (1 : Int32))), (.int ((x4 >>> ((2 : Int32) &&& 31)) &&& (1 : Int32))), (.long x2), (.long v13)])) t → Steps p.tables e below (s₁.setTop (entryFrame m #[(.int x0), (.int x1), (.long x2), (.long x3), (.int x4)] maxLocals)) t := fun t k => pre15 t (by
      show Steps p.tables e below (s₁.setTop (mkF m 97 #[.val (.int x0), .val (.int x1), .val (.long x2), .second, .val (.long x3), .second, .val (.int x4), .val (.int v4), .val (.long v5), .second, .val (.long v6), .second, .val (.long v7), .second, .val (.long v8), .second, .val (.int v9), .val (.long v13), .second, .val (.long v14), .second, .unset, .unset, .unset, .unset, .unset, .unset, .unset, .unset] [])) _
      refine XS.lload X0.here hx rfl (hb hby at_97) rfl ?_
      show Steps p.tables e below (s₁.setTop (mkF m 99 #[.val (.int x0), .val (.int x1), .val (.long x2), .second, .val (.long x3), .second, .val (.int x4), .val (.int v4), .val (.long v5), .second, .val (.long v6), .second, .val (.long v7), .second, .val (.long v8), .second, .val (.int v9), .val (.long v13), .second, .val (.long v14), .second, .unset, .unset, .unset, .unset, .unset, .unset, .unset, .unset] [(.long v13)])) _
      refine XS.lloadN X0.here hx rfl (hb hby at_99) rfl ?_
      show Steps p.tables e below (s₁.setTop (mkF m 100 #[.val (.int x0), .val (.int x1), .val (.long x2), .second, .val (.long x3), .second, .val (.int x4), .val (.int v4), .val (.long v5), .second, .val (.long v6), .second, .val (.long v7), .second, .val (.long v8), .second, .val (.int v9), .val (.long v13), .second, .val (.long v14), .second, .unset, .unset, .unset, .unset, .unset, .unset, .unset, .unset] [(.long x2), (.long v13)])) _
      refine XS.iload X0.here hx rfl (hb hby at_100) rfl ?_
      show Steps p.tables e below (s₁.setTop (mkF m 102 #[.val (.int x0), .val (.int x1), .val (.long x2), .second, .val (.long x3), .second, .val (.int x4), .val (.int v4), .val (.long v5), .second, .val (.long v6), .second, .val (.long v7), .second, .val (.long v8), .second, .val (.int v9), .val (.long v13), .second, .val (.long v14), .second, .unset, .unset, .unset, .unset, .unset, .unset, .unset, .unset] [(.int x4), (.long x2), (.long v13)])) _
      refine XS.iconst X0.here hx rfl (hb hby at_102) ?_
      show Steps p.tables e below (s₁.setTop (mkF m 103 #[.val (.int x0), .val (.int x1), .val (.long x2), .second, .val (.long x3), .second, .val (.int x4), .val (.int v4), .val (.long v5), .second, .val (.long v6), .second, .val (.long v7), .second, .val (.long v8), .second, .val (.int v9), .val (.long v13), .second, .val (.long v14), .second, .unset, .unset, .unset, .unset, .unset, .unset, .unset, .unset] [(.int (2 : Int32)), (.int x4), (.long x2), (.long v13)])) _
      refine XS.ishr X0.here hx rfl (hb hby at_103) rfl ?_
      show Steps p.tables e below (s₁.setTop (mkF m 104 #[.val (.int x0), .val (.int x1), .val (.long x2), .second, .val (.long x3), .second, .val (.int x4), .val (.int v4), .val (.long v5), .second, .val (.long v6), .second, .val (.long v7), .second, .val (.long v8), .second, .val (.int v9), .val (.long v13), .second, .val (.long v14), .second, .unset, .unset, .unset, .unset, .unset, .unset, .unset, .unset] [(.int (x4 >>> ((2 : Int32) &&& 31))), (.long x2), (.long v13)])) _
      refine XS.iconst X0.here hx rfl (hb hby at_104) ?_
      show Steps p.tables e below (s₁.setTop (mkF m 105 #[.val (.int x0), .val (.int x1), .val (.long x2), .second, .val (.long x3), .second, .val (.int x4), .val (.int v4), .val (.long v5), .second, .val (.long v6), .second, .val (.long v7), .second, .val (.long v8), .second, .val (.int v9), .val (.long v13), .second, .val (.long v14), .second, .unset, .unset, .unset, .unset, .unset, .unset, .unset, .unset] [(.int (1 : Int32)), (.int (x4 >>> ((2 : Int32) &&& 31))), (.long x2), (.long v13)])) _
      refine XS.iand X0.here hx rfl (hb hby at_105) rfl ?_
      show Steps p.tables e below (s₁.setTop (mkF m 106 #[.val (.int x0), .val (.int x1), .val (.long x2), .second, .val (.long x3), .second, .val (.int x4), .val (.int v4), .val (.long v5), .second, .val (.long v6), .second, .val (.long v7), .second, .val (.long v8), .second, .val (.int v9), .val (.long v13), .second, .val (.long v14), .second, .unset, .unset, .unset, .unset, .unset, .unset, .unset, .unset] [(.int ((x4 >>> ((2 : Int32) &&& 31)) &&& (1 : Int32))), (.long x2), (.long v13)])) _
      refine XS.iload X0.here hx rfl (hb hby at_106) rfl ?_
      show Steps p.tables e below (s₁.setTop (mkF m 108 #[.val (.int x0), .val (.int x1), .val (.long x2), .second, .val (.long x3), .second, .val (.int x4), .val (.int v4), .val (.long v5), .second, .val (.long v6), .second, .val (.long v7), .second, .val (.long v8), .second, .val (.int v9), .val (.long v13), .second, .val (.long v14), .second, .unset, .unset, .unset, .unset, .unset, .unset, .unset, .unset] [(.int x4), (.int ((x4 >>> ((2 : Int32) &&& 31)) &&& (1 : Int32))), (.long x2), (.long v13)])) _
      refine XS.iconst X0.here hx rfl (hb hby at_108) ?_
      show Steps p.tables e below (s₁.setTop (mkF m 109 #[.val (.int x0), .val (.int x1), .val (.long x2), .second, .val (.long x3), .second, .val (.int x4), .val (.int v4), .val (.long v5), .second, .val (.long v6), .second, .val (.long v7), .second, .val (.long v8), .second, .val (.int v9), .val (.long v13), .second, .val (.long v14), .second, .unset, .unset, .unset, .unset, .unset, .unset, .unset, .unset] [(.int (4 : Int32)), (.int x4), (.int ((x4 >>> ((2 : Int32) &&& 31)) &&& (1 : Int32))), (.long x2), (.long v13)])) _
      refine XS.ishr X0.here hx rfl (hb hby at_109) rfl ?_
      show Steps p.tables e below (s₁.setTop (mkF m 110 #[.val (.int x0), .val (.int x1), .val (.long x2), .second, .val (.long x3), .second, .val (.int x4), .val (.int v4), .val (.long v5), .second, .val (.long v6), .second, .val (.long v7), .second, .val (.long v8), .second, .val (.int v9), .val (.long v13), .second, .val (.long v14), .second, .unset, .unset, .unset, .unset, .unset, .unset, .unset, .unset] [(.int (x4 >>> ((4 : Int32) &&& 31))), (.int ((x4 >>> ((2 : Int32) &&& 31)) &&& (1 : Int32))), (.long x2), (.long v13)])) _
      refine XS.iconst X0.here hx rfl (hb hby at_110) ?_
      show Steps p.tables e below (s₁.setTop (mkF m 111 #[.val (.int x0), .val (.int x1), .val (.long x2), .second, .val (.long x3), .second, .val (.int x4), .val (.int v4), .val (.long v5), .second, .val (.long v6), .second, .val (.long v7), .second, .val (.long v8), .second, .val (.int v9), .val (.long v13), .second, .val (.long v14), .second, .unset, .unset, .unset, .unset, .unset, .unset, .unset, .unset] [(.int (1 : Int32)), (.int (x4 >>> ((4 : Int32) &&& 31))), (.int ((x4 >>> ((2 : Int32) &&& 31)) &&& (1 : Int32))), (.long x2), (.long v13)])) _
      refine XS.iand X0.here hx rfl (hb hby at_111) rfl ?_
      show Steps p.tables e below (s₁.setTop (mkF m 112 #[.val (.int x0), .val (.int x1), .val (.long x2), .second, .val (.long x3), .second, .val (.int x4), .val (.int v4), .val (.long v5), .second, .val (.long v6), .second, .val (.long v7), .second, .val (.long v8), .second, .val (.int v9), .val (.long v13), .second, .val (.long v14), .second, .unset, .unset, .unset, .unset, .unset, .unset, .unset, .unset] [(.int ((x4 >>> ((4 : Int32) &&& 31)) &&& (1 : Int32))), (.int ((x4 >>> ((2 : Int32) &&& 31)) &&& (1 : Int32))), (.long x2), (.long v13)])) _
      exact k)
    obtain ⟨_, _, ⟨T18, L18, k18, n18⟩, -, X18, ⟨Lc18, hQ18, l18, y18, z18⟩, st18⟩ := Jvm.LawKit.callS X0 hx (y := (⟨"com/example/crownfield/crownfield/search/StepReachesPinLaw", "offset", "(JJII)J"⟩ : MethodName)) hown (mvT hZ (hw _ (List.mem_of_getElem? (i := 2) rfl))) (mvT hZ (hw _ (List.mem_of_getElem? (i := 3) rfl))) (mvT hZ (hw _ (List.mem_of_getElem? (i := 4) rfl))) (mvT hZ (hw _ (List.mem_of_getElem? (i := 5) rfl))) (by decide) (backOf (W := 0) (rm1 l Z a0 hw [] v13 x2 ((x4 >>> ((2 : Int32) &&& 31)) &&& (1 : Int32)) ((x4 >>> ((4 : Int32) &&& 31)) &&& (1 : Int32))  h0 n0 Z0 ) hZ (hw _ (List.mem_of_getElem? (i := 5) rfl)) (hw _ (List.mem_of_getElem? (i := 4) rfl)) (by decide) (by decide)) (g := (mkF m 112 #[.val (.int x0), .val (.int x1), .val (.long x2), .second, .val (.long x3), .second, .val (.int x4), .val (.int v4), .val (.long v5), .second, .val (.long v6), .second, .val (.long v7), .second, .val (.long v8), .second, .val (.int v9), .val (.long v13), .second, .val (.long v14), .second, .unset, .unset, .unset, .unset, .unset, .unset, .unset, .unset] [(.int ((x4 >>> ((4 : Int32) &&& 31)) &&& (1 : Int32))), (.int ((x4 >>> ((2 : Int32) &&& 31)) &&& (1 : Int32))), (.long x2), (.long v13)])) rfl (by rw [hml]; rfl) (argsL := [(.long v13), (.long x2), (.int ((x4 >>> ((2 : Int32) &&& 31)) &&& (1 : Int32))), (.int ((x4 >>> ((4 : Int32) &&& 31)) &&& (1 : Int32)))]) (rest := []) (lenOf pd_1 rfl) rfl (by show 2 * 0 + _ ≤ _; exact Nat.le_of_eq rfl) (hb hby at_112) (fun _ _ => ⟨rfl, e0, (by decide : 0 + 0 ≤ _), (by decide : 0 + 0 ≤ _)⟩)
    dsimp only [Pt.U, Pt.locs, Pt.cells, Pt.slots] at X18 l18 y18 z18 st18 hQ18
    subst l18 y18 z18
    obtain ⟨r18, rfl, N18q, e18, P18⟩ := hQ18
    have N18 := Fr.app N0 N18q
    have pre19 : ∀ t, Steps p.tables e below (T18.setTop (mkF m 115 #[.val (.int x0), .val (.int x1), .val (.long x2), .second, .val (.long x3), .second, .val (.int x4), .val (.int v4), .val (.long v5), .second, .val (.long v6), .second, .val (.long v7), .second, .val (.long v8), .second, .val (.int v9), .val (.long v13), .second, .val (.long v14), .second, .unset, .unset, .unset, .unset, .unset, .unset, .unset, .unset] [(.long r18)])) t → Steps p.tables e below (s₁.setTop (entryFrame m #[(.int x0), (.int x1), (.long x2), (.long x3), (.int x4)] maxLocals)) t := fun t k => pre16 t (st18 _ k)
    have pre20 : ∀ t, Steps p.tables e below (T18.setTop (mkF m 133 #[.val (.int x0), .val (.int x1), .val (.long x2), .second, .val (.long x3), .second, .val (.int x4), .val (.int v4), .val (.long v5), .second, .val (.long v6), .second, .val (.long v7), .second, .val (.long v8), .second, .val (.int v9), .val (.long v13), .second, .val (.long v14), .second, .val (.long r18), .second, .unset, .unset, .unset, .unset, .unset, .unset] [(.int ((x4 >>> ((5 : Int32) &&& 31)) &&& (1 : Int32))), (.int ((x4 >>> ((3 : Int32) &&& 31)) &&& (1 : Int32))), (.long x3), (.long v14)])) t → Steps p.tables e below (s₁.setTop (entryFrame m #[(.int x0), (.int x1), (.long x2), (.long x3), (.int x4)] maxLocals)) t := fun t k => pre19 t (by
      show Steps p.tables e below (T18.setTop (mkF m 115 #[.val (.int x0), .val (.int x1), .val (.long x2), .second, .val (.long x3), .second, .val (.int x4), .val (.int v4), .val (.long v5), .second, .val (.long v6), .second, .val (.long v7), .second, .val (.long v8), .second, .val (.int v9), .val (.long v13), .second, .val (.long v14), .second, .unset, .unset, .unset, .unset, .unset, .unset, .unset, .unset] [(.long r18)])) _
      refine XS.lstore X18.here hx rfl (hb hby at_115) rfl (l' := #[.val (.int x0), .val (.int x1), .val (.long x2), .second, .val (.long x3), .second, .val (.int x4), .val (.int v4), .val (.long v5), .second, .val (.long v6), .second, .val (.long v7), .second, .val (.long v8), .second, .val (.int v9), .val (.long v13), .second, .val (.long v14), .second, .val (.long r18), .second, .unset, .unset, .unset, .unset, .unset, .unset]) rfl ?_
      show Steps p.tables e below (T18.setTop (mkF m 117 #[.val (.int x0), .val (.int x1), .val (.long x2), .second, .val (.long x3), .second, .val (.int x4), .val (.int v4), .val (.long v5), .second, .val (.long v6), .second, .val (.long v7), .second, .val (.long v8), .second, .val (.int v9), .val (.long v13), .second, .val (.long v14), .second, .val (.long r18), .second, .unset, .unset, .unset, .unset, .unset, .unset] [])) _
      refine XS.lload X18.here hx rfl (hb hby at_117) rfl ?_
      show Steps p.tables e below (T18.setTop (mkF m 119 #[.val (.int x0), .val (.int x1), .val (.long x2), .second, .val (.long x3), .second, .val (.int x4), .val (.int v4), .val (.long v5), .second, .val (.long v6), .second, .val (.long v7), .second, .val (.long v8), .second, .val (.int v9), .val (.long v13), .second, .val (.long v14), .second, .val (.long r18), .second, .unset, .unset, .unset, .unset, .unset, .unset] [(.long v14)])) _
      refine XS.lload X18.here hx rfl (hb hby at_119) rfl ?_
      show Steps p.tables e below (T18.setTop (mkF m 121 #[.val (.int x0), .val (.int x1), .val (.long x2), .second, .val (.long x3), .second, .val (.int x4), .val (.int v4), .val (.long v5), .second, .val (.long v6), .second, .val (.long v7), .second, .val (.long v8), .second, .val (.int v9), .val (.long v13), .second, .val (.long v14), .second, .val (.long r18), .second, .unset, .unset, .unset, .unset, .unset, .unset] [(.long x3), (.long v14)])) _
      refine XS.iload X18.here hx rfl (hb hby at_121) rfl ?_
      show Steps p.tables e below (T18.setTop (mkF m 123 #[.val (.int x0), .val (.int x1), .val (.long x2), .second, .val (.long x3), .second, .val (.int x4), .val (.int v4), .val (.long v5), .second, .val (.long v6), .second, .val (.long v7), .second, .val (.long v8), .second, .val (.int v9), .val (.long v13), .second, .val (.long v14), .second, .val (.long r18), .second, .unset, .unset, .unset, .unset, .unset, .unset] [(.int x4), (.long x3), (.long v14)])) _
      refine XS.iconst X18.here hx rfl (hb hby at_123) ?_
      show Steps p.tables e below (T18.setTop (mkF m 124 #[.val (.int x0), .val (.int x1), .val (.long x2), .second, .val (.long x3), .second, .val (.int x4), .val (.int v4), .val (.long v5), .second, .val (.long v6), .second, .val (.long v7), .second, .val (.long v8), .second, .val (.int v9), .val (.long v13), .second, .val (.long v14), .second, .val (.long r18), .second, .unset, .unset, .unset, .unset, .unset, .unset] [(.int (3 : Int32)), (.int x4), (.long x3), (.long v14)])) _
      refine XS.ishr X18.here hx rfl (hb hby at_124) rfl ?_
      show Steps p.tables e below (T18.setTop (mkF m 125 #[.val (.int x0), .val (.int x1), .val (.long x2), .second, .val (.long x3), .second, .val (.int x4), .val (.int v4), .val (.long v5), .second, .val (.long v6), .second, .val (.long v7), .second, .val (.long v8), .second, .val (.int v9), .val (.long v13), .second, .val (.long v14), .second, .val (.long r18), .second, .unset, .unset, .unset, .unset, .unset, .unset] [(.int (x4 >>> ((3 : Int32) &&& 31))), (.long x3), (.long v14)])) _
      refine XS.iconst X18.here hx rfl (hb hby at_125) ?_
      show Steps p.tables e below (T18.setTop (mkF m 126 #[.val (.int x0), .val (.int x1), .val (.long x2), .second, .val (.long x3), .second, .val (.int x4), .val (.int v4), .val (.long v5), .second, .val (.long v6), .second, .val (.long v7), .second, .val (.long v8), .second, .val (.int v9), .val (.long v13), .second, .val (.long v14), .second, .val (.long r18), .second, .unset, .unset, .unset, .unset, .unset, .unset] [(.int (1 : Int32)), (.int (x4 >>> ((3 : Int32) &&& 31))), (.long x3), (.long v14)])) _
      refine XS.iand X18.here hx rfl (hb hby at_126) rfl ?_
      show Steps p.tables e below (T18.setTop (mkF m 127 #[.val (.int x0), .val (.int x1), .val (.long x2), .second, .val (.long x3), .second, .val (.int x4), .val (.int v4), .val (.long v5), .second, .val (.long v6), .second, .val (.long v7), .second, .val (.long v8), .second, .val (.int v9), .val (.long v13), .second, .val (.long v14), .second, .val (.long r18), .second, .unset, .unset, .unset, .unset, .unset, .unset] [(.int ((x4 >>> ((3 : Int32) &&& 31)) &&& (1 : Int32))), (.long x3), (.long v14)])) _
      refine XS.iload X18.here hx rfl (hb hby at_127) rfl ?_
      show Steps p.tables e below (T18.setTop (mkF m 129 #[.val (.int x0), .val (.int x1), .val (.long x2), .second, .val (.long x3), .second, .val (.int x4), .val (.int v4), .val (.long v5), .second, .val (.long v6), .second, .val (.long v7), .second, .val (.long v8), .second, .val (.int v9), .val (.long v13), .second, .val (.long v14), .second, .val (.long r18), .second, .unset, .unset, .unset, .unset, .unset, .unset] [(.int x4), (.int ((x4 >>> ((3 : Int32) &&& 31)) &&& (1 : Int32))), (.long x3), (.long v14)])) _
      refine XS.iconst X18.here hx rfl (hb hby at_129) ?_
      show Steps p.tables e below (T18.setTop (mkF m 130 #[.val (.int x0), .val (.int x1), .val (.long x2), .second, .val (.long x3), .second, .val (.int x4), .val (.int v4), .val (.long v5), .second, .val (.long v6), .second, .val (.long v7), .second, .val (.long v8), .second, .val (.int v9), .val (.long v13), .second, .val (.long v14), .second, .val (.long r18), .second, .unset, .unset, .unset, .unset, .unset, .unset] [(.int (5 : Int32)), (.int x4), (.int ((x4 >>> ((3 : Int32) &&& 31)) &&& (1 : Int32))), (.long x3), (.long v14)])) _
      refine XS.ishr X18.here hx rfl (hb hby at_130) rfl ?_
      show Steps p.tables e below (T18.setTop (mkF m 131 #[.val (.int x0), .val (.int x1), .val (.long x2), .second, .val (.long x3), .second, .val (.int x4), .val (.int v4), .val (.long v5), .second, .val (.long v6), .second, .val (.long v7), .second, .val (.long v8), .second, .val (.int v9), .val (.long v13), .second, .val (.long v14), .second, .val (.long r18), .second, .unset, .unset, .unset, .unset, .unset, .unset] [(.int (x4 >>> ((5 : Int32) &&& 31))), (.int ((x4 >>> ((3 : Int32) &&& 31)) &&& (1 : Int32))), (.long x3), (.long v14)])) _
      refine XS.iconst X18.here hx rfl (hb hby at_131) ?_
      show Steps p.tables e below (T18.setTop (mkF m 132 #[.val (.int x0), .val (.int x1), .val (.long x2), .second, .val (.long x3), .second, .val (.int x4), .val (.int v4), .val (.long v5), .second, .val (.long v6), .second, .val (.long v7), .second, .val (.long v8), .second, .val (.int v9), .val (.long v13), .second, .val (.long v14), .second, .val (.long r18), .second, .unset, .unset, .unset, .unset, .unset, .unset] [(.int (1 : Int32)), (.int (x4 >>> ((5 : Int32) &&& 31))), (.int ((x4 >>> ((3 : Int32) &&& 31)) &&& (1 : Int32))), (.long x3), (.long v14)])) _
      refine XS.iand X18.here hx rfl (hb hby at_132) rfl ?_
      show Steps p.tables e below (T18.setTop (mkF m 133 #[.val (.int x0), .val (.int x1), .val (.long x2), .second, .val (.long x3), .second, .val (.int x4), .val (.int v4), .val (.long v5), .second, .val (.long v6), .second, .val (.long v7), .second, .val (.long v8), .second, .val (.int v9), .val (.long v13), .second, .val (.long v14), .second, .val (.long r18), .second, .unset, .unset, .unset, .unset, .unset, .unset] [(.int ((x4 >>> ((5 : Int32) &&& 31)) &&& (1 : Int32))), (.int ((x4 >>> ((3 : Int32) &&& 31)) &&& (1 : Int32))), (.long x3), (.long v14)])) _
      exact k)
    obtain ⟨_, _, ⟨T22, L22, k22, n22⟩, -, X22, ⟨Lc22, hQ22, l22, y22, z22⟩, st22⟩ := Jvm.LawKit.callS X18 hx (y := (⟨"com/example/crownfield/crownfield/search/StepReachesPinLaw", "offset", "(JJII)J"⟩ : MethodName)) hown (mvT hZ (hw _ (List.mem_of_getElem? (i := 2) rfl))) (mvT hZ (hw _ (List.mem_of_getElem? (i := 3) rfl))) (mvT hZ (hw _ (List.mem_of_getElem? (i := 4) rfl))) (mvT hZ (hw _ (List.mem_of_getElem? (i := 5) rfl))) (by decide) (backOf (W := 0) (rm1 l Z a0 hw [] v14 x3 ((x4 >>> ((3 : Int32) &&& 31)) &&& (1 : Int32)) ((x4 >>> ((5 : Int32) &&& 31)) &&& (1 : Int32))  h0 n0 Z0 ) hZ (hw _ (List.mem_of_getElem? (i := 5) rfl)) (hw _ (List.mem_of_getElem? (i := 4) rfl)) (by decide) (by decide)) (g := (mkF m 133 #[.val (.int x0), .val (.int x1), .val (.long x2), .second, .val (.long x3), .second, .val (.int x4), .val (.int v4), .val (.long v5), .second, .val (.long v6), .second, .val (.long v7), .second, .val (.long v8), .second, .val (.int v9), .val (.long v13), .second, .val (.long v14), .second, .val (.long r18), .second, .unset, .unset, .unset, .unset, .unset, .unset] [(.int ((x4 >>> ((5 : Int32) &&& 31)) &&& (1 : Int32))), (.int ((x4 >>> ((3 : Int32) &&& 31)) &&& (1 : Int32))), (.long x3), (.long v14)])) rfl (by rw [hml]; rfl) (argsL := [(.long v14), (.long x3), (.int ((x4 >>> ((3 : Int32) &&& 31)) &&& (1 : Int32))), (.int ((x4 >>> ((5 : Int32) &&& 31)) &&& (1 : Int32)))]) (rest := []) (lenOf pd_1 rfl) rfl (by show 2 * 0 + _ ≤ _; exact Nat.le_of_eq rfl) (hb hby at_133) (fun _ _ => ⟨rfl, e18, (by decide : 0 + 0 ≤ _), (by decide : 0 + 0 ≤ _)⟩)
    dsimp only [Pt.U, Pt.locs, Pt.cells, Pt.slots] at X22 l22 y22 z22 st22 hQ22
    subst l22 y22 z22
    obtain ⟨r22, rfl, N22q, e22, P22⟩ := hQ22
    have N22 := Fr.app N18 N22q
    have pre23 : ∀ t, Steps p.tables e below (T22.setTop (mkF m 136 #[.val (.int x0), .val (.int x1), .val (.long x2), .second, .val (.long x3), .second, .val (.int x4), .val (.int v4), .val (.long v5), .second, .val (.long v6), .second, .val (.long v7), .second, .val (.long v8), .second, .val (.int v9), .val (.long v13), .second, .val (.long v14), .second, .val (.long r18), .second, .unset, .unset, .unset, .unset, .unset, .unset] [(.long r22)])) t → Steps p.tables e below (s₁.setTop (entryFrame m #[(.int x0), (.int x1), (.long x2), (.long x3), (.int x4)] maxLocals)) t := fun t k => pre20 t (st22 _ k)
    have pre24 : ∀ t, Steps p.tables e below (T22.setTop (mkF m 138 #[.val (.int x0), .val (.int x1), .val (.long x2), .second, .val (.long x3), .second, .val (.int x4), .val (.int v4), .val (.long v5), .second, .val (.long v6), .second, .val (.long v7), .second, .val (.long v8), .second, .val (.int v9), .val (.long v13), .second, .val (.long v14), .second, .val (.long r18), .second, .val (.long r22), .second, .unset, .unset, .unset, .unset] [])) t → Steps p.tables e below (s₁.setTop (entryFrame m #[(.int x0), (.int x1), (.long x2), (.long x3), (.int x4)] maxLocals)) t := fun t k => pre23 t (by
      show Steps p.tables e below (T22.setTop (mkF m 136 #[.val (.int x0), .val (.int x1), .val (.long x2), .second, .val (.long x3), .second, .val (.int x4), .val (.int v4), .val (.long v5), .second, .val (.long v6), .second, .val (.long v7), .second, .val (.long v8), .second, .val (.int v9), .val (.long v13), .second, .val (.long v14), .second, .val (.long r18), .second, .unset, .unset, .unset, .unset, .unset, .unset] [(.long r22)])) _
      refine XS.lstore X22.here hx rfl (hb hby at_136) rfl (l' := #[.val (.int x0), .val (.int x1), .val (.long x2), .second, .val (.long x3), .second, .val (.int x4), .val (.int v4), .val (.long v5), .second, .val (.long v6), .second, .val (.long v7), .second, .val (.long v8), .second, .val (.int v9), .val (.long v13), .second, .val (.long v14), .second, .val (.long r18), .second, .val (.long r22), .second, .unset, .unset, .unset, .unset]) rfl ?_
      show Steps p.tables e below (T22.setTop (mkF m 138 #[.val (.int x0), .val (.int x1), .val (.long x2), .second, .val (.long x3), .second, .val (.int x4), .val (.int v4), .val (.long v5), .second, .val (.long v6), .second, .val (.long v7), .second, .val (.long v8), .second, .val (.int v9), .val (.long v13), .second, .val (.long v14), .second, .val (.long r18), .second, .val (.long r22), .second, .unset, .unset, .unset, .unset] [])) _
      exact k)
    obtain ⟨T25, h25, X25, e25, E25, A25, D25, -, st25⟩ := newO X22 hx hZ hown (hw _ (List.mem_of_getElem? (i := 6) rfl)) (hw _ (List.mem_of_getElem? (i := 7) rfl)) (hw _ (List.mem_of_getElem? (i := 8) rfl)) e22 (g := (mkF m 138 #[.val (.int x0), .val (.int x1), .val (.long x2), .second, .val (.long x3), .second, .val (.int x4), .val (.int v4), .val (.long v5), .second, .val (.long v6), .second, .val (.long v7), .second, .val (.long v8), .second, .val (.int v9), .val (.long v13), .second, .val (.long v14), .second, .val (.long r18), .second, .val (.long r22), .second, .unset, .unset, .unset, .unset] [])) rfl (hb hby at_138) (by decide) (by decide)
    obtain ⟨b25, g25⟩ : ∃ z, z = h0.size := ⟨_, rfl⟩
    rw [← g25] at A25 D25 st25
    have g_b25 : n0 ≤ b25 := Nat.le_trans Z0 (Nat.le_of_eq g25.symm)
    have Zz25 : n0 ≤ h25.size := Nat.le_trans Z0 E25.1
    have F_rows_b25 : Fld Z h25 b25 "com/example/crownfield/crownfield/search/Step" "rows" "I" (.int (0 : Int32)) := D25 (Or.inr (hw _ (List.mem_of_getElem? (i := 21) rfl))) (ty := .int) (by decide)
    have F_columns_b25 : Fld Z h25 b25 "com/example/crownfield/crownfield/search/Step" "columns" "I" (.int (0 : Int32)) := D25 (Or.inr (hw _ (List.mem_of_getElem? (i := 23) rfl))) (ty := .int) (by decide)
    have pre26 : ∀ t, Steps p.tables e below (T25.setTop (mkF m 141 #[.val (.int x0), .val (.int x1), .val (.long x2), .second, .val (.long x3), .second, .val (.int x4), .val (.int v4), .val (.long v5), .second, .val (.long v6), .second, .val (.long v7), .second, .val (.long v8), .second, .val (.int v9), .val (.long v13), .second, .val (.long v14), .second, .val (.long r18), .second, .val (.long r22), .second, .unset, .unset, .unset, .unset] [(.ref b25)])) t → Steps p.tables e below (s₁.setTop (entryFrame m #[(.int x0), (.int x1), (.long x2), (.long x3), (.int x4)] maxLocals)) t := fun t k => pre24 t (st25 _ k)
    have pre27 : ∀ t, Steps p.tables e below (T25.setTop (mkF m 145 #[.val (.int x0), .val (.int x1), .val (.long x2), .second, .val (.long x3), .second, .val (.int x4), .val (.int v4), .val (.long v5), .second, .val (.long v6), .second, .val (.long v7), .second, .val (.long v8), .second, .val (.int v9), .val (.long v13), .second, .val (.long v14), .second, .val (.long r18), .second, .val (.long r22), .second, .unset, .unset, .unset, .unset] [(.int x1), (.int v4), (.ref b25), (.ref b25)])) t → Steps p.tables e below (s₁.setTop (entryFrame m #[(.int x0), (.int x1), (.long x2), (.long x3), (.int x4)] maxLocals)) t := fun t k => pre26 t (by
      show Steps p.tables e below (T25.setTop (mkF m 141 #[.val (.int x0), .val (.int x1), .val (.long x2), .second, .val (.long x3), .second, .val (.int x4), .val (.int v4), .val (.long v5), .second, .val (.long v6), .second, .val (.long v7), .second, .val (.long v8), .second, .val (.int v9), .val (.long v13), .second, .val (.long v14), .second, .val (.long r18), .second, .val (.long r22), .second, .unset, .unset, .unset, .unset] [(.ref b25)])) _
      refine XS.dup X25.here hx rfl (hb hby at_141) rfl rfl ?_
      show Steps p.tables e below (T25.setTop (mkF m 142 #[.val (.int x0), .val (.int x1), .val (.long x2), .second, .val (.long x3), .second, .val (.int x4), .val (.int v4), .val (.long v5), .second, .val (.long v6), .second, .val (.long v7), .second, .val (.long v8), .second, .val (.int v9), .val (.long v13), .second, .val (.long v14), .second, .val (.long r18), .second, .val (.long r22), .second, .unset, .unset, .unset, .unset] [(.ref b25), (.ref b25)])) _
      refine XS.iload X25.here hx rfl (hb hby at_142) rfl ?_
      show Steps p.tables e below (T25.setTop (mkF m 144 #[.val (.int x0), .val (.int x1), .val (.long x2), .second, .val (.long x3), .second, .val (.int x4), .val (.int v4), .val (.long v5), .second, .val (.long v6), .second, .val (.long v7), .second, .val (.long v8), .second, .val (.int v9), .val (.long v13), .second, .val (.long v14), .second, .val (.long r18), .second, .val (.long r22), .second, .unset, .unset, .unset, .unset] [(.int v4), (.ref b25), (.ref b25)])) _
      refine XS.iloadN X25.here hx rfl (hb hby at_144) rfl ?_
      show Steps p.tables e below (T25.setTop (mkF m 145 #[.val (.int x0), .val (.int x1), .val (.long x2), .second, .val (.long x3), .second, .val (.int x4), .val (.int v4), .val (.long v5), .second, .val (.long v6), .second, .val (.long v7), .second, .val (.long v8), .second, .val (.int v9), .val (.long v13), .second, .val (.long v14), .second, .val (.long r18), .second, .val (.long r22), .second, .unset, .unset, .unset, .unset] [(.int x1), (.int v4), (.ref b25), (.ref b25)])) _
      exact k)
    obtain ⟨_, _, ⟨T29, L29, k29, n29⟩, -, X29, ⟨Lc29, hQ29, l29, y29, z29⟩, st29⟩ := X25.specialBack hx (y := (⟨"com/example/crownfield/crownfield/search/Step", "<init>", "(II)V"⟩ : MethodName)) rfl hown (mvT hZ (hw _ (List.mem_of_getElem? (i := 9) rfl))) (mvT hZ (hw _ (List.mem_of_getElem? (i := 10) rfl))) (mvT hZ (hw _ (List.mem_of_getElem? (i := 11) rfl))) (by decide) (backOf (W := 1) (rm2 l Z a0 hw [] b25 v4 x1   h25 n0 Zz25 A25 F_rows_b25 F_columns_b25 g_b25) hZ (hw _ (List.mem_of_getElem? (i := 11) rfl)) (hw _ (List.mem_of_getElem? (i := 8) rfl)) (by decide) (by decide)) (g := (mkF m 145 #[.val (.int x0), .val (.int x1), .val (.long x2), .second, .val (.long x3), .second, .val (.int x4), .val (.int v4), .val (.long v5), .second, .val (.long v6), .second, .val (.long v7), .second, .val (.long v8), .second, .val (.int v9), .val (.long v13), .second, .val (.long v14), .second, .val (.long r18), .second, .val (.long r22), .second, .unset, .unset, .unset, .unset] [(.int x1), (.int v4), (.ref b25), (.ref b25)])) rfl (by rw [hml]; rfl) (Steps.refl _) (a := b25) (argsL := [(.int v4), (.int x1)]) (rest := [(.ref b25)]) (lenOf pd_2 rfl) rfl (by show 2 * 0 + _ ≤ _; exact Nat.le_of_eq rfl) (hb hby at_145) (fun _ _ => ⟨rfl, e25, (by decide : 1 + 0 ≤ _), (by decide : 2 + 0 ≤ _)⟩)
    dsimp only [Pt.U, Pt.locs, Pt.cells, Pt.slots] at X29 l29 y29 z29 st29 hQ29
    subst l29 y29 z29
    obtain ⟨rfl, N29q, K29, Ec29, Fc29_rows, Fc29_columns⟩ := hQ29
    have N29 := Fr.app N22 N29q
    have pre30 : ∀ t, Steps p.tables e below (T29.setTop (mkF m 148 #[.val (.int x0), .val (.int x1), .val (.long x2), .second, .val (.long x3), .second, .val (.int x4), .val (.int v4), .val (.long v5), .second, .val (.long v6), .second, .val (.long v7), .second, .val (.long v8), .second, .val (.int v9), .val (.long v13), .second, .val (.long v14), .second, .val (.long r18), .second, .val (.long r22), .second, .unset, .unset, .unset, .unset] [(.ref b25)])) t → Steps p.tables e below (s₁.setTop (entryFrame m #[(.int x0), (.int x1), (.long x2), (.long x3), (.int x4)] maxLocals)) t := fun t k => pre27 t (st29.trans k)
    have Zz29 : n0 ≤ T29.heap.size := Nat.le_trans Zz25 K29.1
    have c31 := (A25).keep K29
    obtain ⟨v36, hv36⟩ : ∃ z : Int32, z = (if r18 = v5 then (if r22 = v6 then (1 : Int32) else (0 : Int32)) else (0 : Int32)) := ⟨_, rfl⟩
    have pre37 : ∀ t, Steps p.tables e below (T29.setTop (mkF m 171 #[.val (.int x0), .val (.int x1), .val (.long x2), .second, .val (.long x3), .second, .val (.int x4), .val (.int v4), .val (.long v5), .second, .val (.long v6), .second, .val (.long v7), .second, .val (.long v8), .second, .val (.int v9), .val (.long v13), .second, .val (.long v14), .second, .val (.long r18), .second, .val (.long r22), .second, .val (.ref b25), .unset, .unset, .unset] [(.int v36)])) t → Steps p.tables e below (s₁.setTop (entryFrame m #[(.int x0), (.int x1), (.long x2), (.long x3), (.int x4)] maxLocals)) t := fun t k => pre30 t (by
      show Steps p.tables e below (T29.setTop (mkF m 148 #[.val (.int x0), .val (.int x1), .val (.long x2), .second, .val (.long x3), .second, .val (.int x4), .val (.int v4), .val (.long v5), .second, .val (.long v6), .second, .val (.long v7), .second, .val (.long v8), .second, .val (.int v9), .val (.long v13), .second, .val (.long v14), .second, .val (.long r18), .second, .val (.long r22), .second, .unset, .unset, .unset, .unset] [(.ref b25)])) _
      refine XS.astore X29.here hx rfl (hb hby at_148) rfl rfl (l' := #[.val (.int x0), .val (.int x1), .val (.long x2), .second, .val (.long x3), .second, .val (.int x4), .val (.int v4), .val (.long v5), .second, .val (.long v6), .second, .val (.long v7), .second, .val (.long v8), .second, .val (.int v9), .val (.long v13), .second, .val (.long v14), .second, .val (.long r18), .second, .val (.long r22), .second, .val (.ref b25), .unset, .unset, .unset]) rfl ?_
      show Steps p.tables e below (T29.setTop (mkF m 150 #[.val (.int x0), .val (.int x1), .val (.long x2), .second, .val (.long x3), .second, .val (.int x4), .val (.int v4), .val (.long v5), .second, .val (.long v6), .second, .val (.long v7), .second, .val (.long v8), .second, .val (.int v9), .val (.long v13), .second, .val (.long v14), .second, .val (.long r18), .second, .val (.long r22), .second, .val (.ref b25), .unset, .unset, .unset] [])) _
      refine XS.lload X29.here hx rfl (hb hby at_150) rfl ?_
      show Steps p.tables e below (T29.setTop (mkF m 152 #[.val (.int x0), .val (.int x1), .val (.long x2), .second, .val (.long x3), .second, .val (.int x4), .val (.int v4), .val (.long v5), .second, .val (.long v6), .second, .val (.long v7), .second, .val (.long v8), .second, .val (.int v9), .val (.long v13), .second, .val (.long v14), .second, .val (.long r18), .second, .val (.long r22), .second, .val (.ref b25), .unset, .unset, .unset] [(.long r18)])) _
      refine XS.lload X29.here hx rfl (hb hby at_152) rfl ?_
      show Steps p.tables e below (T29.setTop (mkF m 154 #[.val (.int x0), .val (.int x1), .val (.long x2), .second, .val (.long x3), .second, .val (.int x4), .val (.int v4), .val (.long v5), .second, .val (.long v6), .second, .val (.long v7), .second, .val (.long v8), .second, .val (.int v9), .val (.long v13), .second, .val (.long v14), .second, .val (.long r18), .second, .val (.long r22), .second, .val (.ref b25), .unset, .unset, .unset] [(.long v5), (.long r18)])) _
      refine XS.lcmp X29.here hx rfl (hb hby at_154) rfl ?_
      show Steps p.tables e below (T29.setTop (mkF m 155 #[.val (.int x0), .val (.int x1), .val (.long x2), .second, .val (.long x3), .second, .val (.int x4), .val (.int v4), .val (.long v5), .second, .val (.long v6), .second, .val (.long v7), .second, .val (.long v8), .second, .val (.int v9), .val (.long v13), .second, .val (.long v14), .second, .val (.long r18), .second, .val (.long r22), .second, .val (.ref b25), .unset, .unset, .unset] [(.int (lcmpW r18 v5))])) _
      by_cases hc34 : r18 = v5
      · skip
        refine XS.ifNo X29.here hx rfl (hb hby at_155) rfl ((if0 _ _).trans (teq ((lw_eq _ _).mpr hc34)).2) ?_
        show Steps p.tables e below (T29.setTop (mkF m 158 #[.val (.int x0), .val (.int x1), .val (.long x2), .second, .val (.long x3), .second, .val (.int x4), .val (.int v4), .val (.long v5), .second, .val (.long v6), .second, .val (.long v7), .second, .val (.long v8), .second, .val (.int v9), .val (.long v13), .second, .val (.long v14), .second, .val (.long r18), .second, .val (.long r22), .second, .val (.ref b25), .unset, .unset, .unset] [])) _
        refine XS.lload X29.here hx rfl (hb hby at_158) rfl ?_
        show Steps p.tables e below (T29.setTop (mkF m 160 #[.val (.int x0), .val (.int x1), .val (.long x2), .second, .val (.long x3), .second, .val (.int x4), .val (.int v4), .val (.long v5), .second, .val (.long v6), .second, .val (.long v7), .second, .val (.long v8), .second, .val (.int v9), .val (.long v13), .second, .val (.long v14), .second, .val (.long r18), .second, .val (.long r22), .second, .val (.ref b25), .unset, .unset, .unset] [(.long r22)])) _
        refine XS.lload X29.here hx rfl (hb hby at_160) rfl ?_
        show Steps p.tables e below (T29.setTop (mkF m 162 #[.val (.int x0), .val (.int x1), .val (.long x2), .second, .val (.long x3), .second, .val (.int x4), .val (.int v4), .val (.long v5), .second, .val (.long v6), .second, .val (.long v7), .second, .val (.long v8), .second, .val (.int v9), .val (.long v13), .second, .val (.long v14), .second, .val (.long r18), .second, .val (.long r22), .second, .val (.ref b25), .unset, .unset, .unset] [(.long v6), (.long r22)])) _
        refine XS.lcmp X29.here hx rfl (hb hby at_162) rfl ?_
        show Steps p.tables e below (T29.setTop (mkF m 163 #[.val (.int x0), .val (.int x1), .val (.long x2), .second, .val (.long x3), .second, .val (.int x4), .val (.int v4), .val (.long v5), .second, .val (.long v6), .second, .val (.long v7), .second, .val (.long v8), .second, .val (.int v9), .val (.long v13), .second, .val (.long v14), .second, .val (.long r18), .second, .val (.long r22), .second, .val (.ref b25), .unset, .unset, .unset] [(.int (lcmpW r22 v6))])) _
        by_cases hc35 : r22 = v6
        · skip
          refine XS.ifNo X29.here hx rfl (hb hby at_163) rfl ((if0 _ _).trans (teq ((lw_eq _ _).mpr hc35)).2) ?_
          show Steps p.tables e below (T29.setTop (mkF m 166 #[.val (.int x0), .val (.int x1), .val (.long x2), .second, .val (.long x3), .second, .val (.int x4), .val (.int v4), .val (.long v5), .second, .val (.long v6), .second, .val (.long v7), .second, .val (.long v8), .second, .val (.int v9), .val (.long v13), .second, .val (.long v14), .second, .val (.long r18), .second, .val (.long r22), .second, .val (.ref b25), .unset, .unset, .unset] [])) _
          refine XS.iconst X29.here hx rfl (hb hby at_166) ?_
          show Steps p.tables e below (T29.setTop (mkF m 167 #[.val (.int x0), .val (.int x1), .val (.long x2), .second, .val (.long x3), .second, .val (.int x4), .val (.int v4), .val (.long v5), .second, .val (.long v6), .second, .val (.long v7), .second, .val (.long v8), .second, .val (.int v9), .val (.long v13), .second, .val (.long v14), .second, .val (.long r18), .second, .val (.long r22), .second, .val (.ref b25), .unset, .unset, .unset] [(.int (1 : Int32))])) _
          refine XS.goto X29.here hx rfl (pc0 := 167) (pc' := 171) rfl (hb hby at_167) (by decide) (by decide) ?_
          show Steps p.tables e below (T29.setTop (mkF m 171 #[.val (.int x0), .val (.int x1), .val (.long x2), .second, .val (.long x3), .second, .val (.int x4), .val (.int v4), .val (.long v5), .second, .val (.long v6), .second, .val (.long v7), .second, .val (.long v8), .second, .val (.int v9), .val (.long v13), .second, .val (.long v14), .second, .val (.long r18), .second, .val (.long r22), .second, .val (.ref b25), .unset, .unset, .unset] [(.int (1 : Int32))])) _
          rw [show v36 = (1 : Int32) from by rw [hv36, if_pos hc34, if_pos hc35]] at k
          exact k
        · skip
          refine XS.ifYes X29.here hx rfl (pc0 := 163) (pc' := 170) rfl (hb hby at_163) rfl ((if0 _ _).trans (feq (fun q => hc35 ((lw_eq _ _).mp q))).2) (by decide) (by decide) ?_
          show Steps p.tables e below (T29.setTop (mkF m 170 #[.val (.int x0), .val (.int x1), .val (.long x2), .second, .val (.long x3), .second, .val (.int x4), .val (.int v4), .val (.long v5), .second, .val (.long v6), .second, .val (.long v7), .second, .val (.long v8), .second, .val (.int v9), .val (.long v13), .second, .val (.long v14), .second, .val (.long r18), .second, .val (.long r22), .second, .val (.ref b25), .unset, .unset, .unset] [])) _
          refine XS.iconst X29.here hx rfl (hb hby at_170) ?_
          show Steps p.tables e below (T29.setTop (mkF m 171 #[.val (.int x0), .val (.int x1), .val (.long x2), .second, .val (.long x3), .second, .val (.int x4), .val (.int v4), .val (.long v5), .second, .val (.long v6), .second, .val (.long v7), .second, .val (.long v8), .second, .val (.int v9), .val (.long v13), .second, .val (.long v14), .second, .val (.long r18), .second, .val (.long r22), .second, .val (.ref b25), .unset, .unset, .unset] [(.int (0 : Int32))])) _
          rw [show v36 = (0 : Int32) from by rw [hv36, if_pos hc34, if_neg hc35]] at k
          exact k
      · skip
        refine XS.ifYes X29.here hx rfl (pc0 := 155) (pc' := 170) rfl (hb hby at_155) rfl ((if0 _ _).trans (feq (fun q => hc34 ((lw_eq _ _).mp q))).2) (by decide) (by decide) ?_
        show Steps p.tables e below (T29.setTop (mkF m 170 #[.val (.int x0), .val (.int x1), .val (.long x2), .second, .val (.long x3), .second, .val (.int x4), .val (.int v4), .val (.long v5), .second, .val (.long v6), .second, .val (.long v7), .second, .val (.long v8), .second, .val (.int v9), .val (.long v13), .second, .val (.long v14), .second, .val (.long r18), .second, .val (.long r22), .second, .val (.ref b25), .unset, .unset, .unset] [])) _
        refine XS.iconst X29.here hx rfl (hb hby at_170) ?_
        show Steps p.tables e below (T29.setTop (mkF m 171 #[.val (.int x0), .val (.int x1), .val (.long x2), .second, .val (.long x3), .second, .val (.int x4), .val (.int v4), .val (.long v5), .second, .val (.long v6), .second, .val (.long v7), .second, .val (.long v8), .second, .val (.int v9), .val (.long v13), .second, .val (.long v14), .second, .val (.long r18), .second, .val (.long r22), .second, .val (.ref b25), .unset, .unset, .unset] [(.int (0 : Int32))])) _
        rw [show v36 = (0 : Int32) from by rw [hv36, if_neg hc34]] at k
        exact k)
    obtain ⟨v40, hv40⟩ : ∃ z : Int32, z = (if r18 = v7 then (if r22 = v8 then (1 : Int32) else (0 : Int32)) else (0 : Int32)) := ⟨_, rfl⟩
    have pre41 : ∀ t, Steps p.tables e below (T29.setTop (mkF m 194 #[.val (.int x0), .val (.int x1), .val (.long x2), .second, .val (.long x3), .second, .val (.int x4), .val (.int v4), .val (.long v5), .second, .val (.long v6), .second, .val (.long v7), .second, .val (.long v8), .second, .val (.int v9), .val (.long v13), .second, .val (.long v14), .second, .val (.long r18), .second, .val (.long r22), .second, .val (.ref b25), .val (.int v36), .unset, .unset] [(.int v40)])) t → Steps p.tables e below (s₁.setTop (entryFrame m #[(.int x0), (.int x1), (.long x2), (.long x3), (.int x4)] maxLocals)) t := fun t k => pre37 t (by
      show Steps p.tables e below (T29.setTop (mkF m 171 #[.val (.int x0), .val (.int x1), .val (.long x2), .second, .val (.long x3), .second, .val (.int x4), .val (.int v4), .val (.long v5), .second, .val (.long v6), .second, .val (.long v7), .second, .val (.long v8), .second, .val (.int v9), .val (.long v13), .second, .val (.long v14), .second, .val (.long r18), .second, .val (.long r22), .second, .val (.ref b25), .unset, .unset, .unset] [(.int v36)])) _
      refine XS.istore X29.here hx rfl (hb hby at_171) rfl (l' := #[.val (.int x0), .val (.int x1), .val (.long x2), .second, .val (.long x3), .second, .val (.int x4), .val (.int v4), .val (.long v5), .second, .val (.long v6), .second, .val (.long v7), .second, .val (.long v8), .second, .val (.int v9), .val (.long v13), .second, .val (.long v14), .second, .val (.long r18), .second, .val (.long r22), .second, .val (.ref b25), .val (.int v36), .unset, .unset]) rfl ?_
      show Steps p.tables e below (T29.setTop (mkF m 173 #[.val (.int x0), .val (.int x1), .val (.long x2), .second, .val (.long x3), .second, .val (.int x4), .val (.int v4), .val (.long v5), .second, .val (.long v6), .second, .val (.long v7), .second, .val (.long v8), .second, .val (.int v9), .val (.long v13), .second, .val (.long v14), .second, .val (.long r18), .second, .val (.long r22), .second, .val (.ref b25), .val (.int v36), .unset, .unset] [])) _
      refine XS.lload X29.here hx rfl (hb hby at_173) rfl ?_
      show Steps p.tables e below (T29.setTop (mkF m 175 #[.val (.int x0), .val (.int x1), .val (.long x2), .second, .val (.long x3), .second, .val (.int x4), .val (.int v4), .val (.long v5), .second, .val (.long v6), .second, .val (.long v7), .second, .val (.long v8), .second, .val (.int v9), .val (.long v13), .second, .val (.long v14), .second, .val (.long r18), .second, .val (.long r22), .second, .val (.ref b25), .val (.int v36), .unset, .unset] [(.long r18)])) _
      refine XS.lload X29.here hx rfl (hb hby at_175) rfl ?_
      show Steps p.tables e below (T29.setTop (mkF m 177 #[.val (.int x0), .val (.int x1), .val (.long x2), .second, .val (.long x3), .second, .val (.int x4), .val (.int v4), .val (.long v5), .second, .val (.long v6), .second, .val (.long v7), .second, .val (.long v8), .second, .val (.int v9), .val (.long v13), .second, .val (.long v14), .second, .val (.long r18), .second, .val (.long r22), .second, .val (.ref b25), .val (.int v36), .unset, .unset] [(.long v7), (.long r18)])) _
      refine XS.lcmp X29.here hx rfl (hb hby at_177) rfl ?_
      show Steps p.tables e below (T29.setTop (mkF m 178 #[.val (.int x0), .val (.int x1), .val (.long x2), .second, .val (.long x3), .second, .val (.int x4), .val (.int v4), .val (.long v5), .second, .val (.long v6), .second, .val (.long v7), .second, .val (.long v8), .second, .val (.int v9), .val (.long v13), .second, .val (.long v14), .second, .val (.long r18), .second, .val (.long r22), .second, .val (.ref b25), .val (.int v36), .unset, .unset] [(.int (lcmpW r18 v7))])) _
      by_cases hc38 : r18 = v7
      · skip
        refine XS.ifNo X29.here hx rfl (hb hby at_178) rfl ((if0 _ _).trans (teq ((lw_eq _ _).mpr hc38)).2) ?_
        show Steps p.tables e below (T29.setTop (mkF m 181 #[.val (.int x0), .val (.int x1), .val (.long x2), .second, .val (.long x3), .second, .val (.int x4), .val (.int v4), .val (.long v5), .second, .val (.long v6), .second, .val (.long v7), .second, .val (.long v8), .second, .val (.int v9), .val (.long v13), .second, .val (.long v14), .second, .val (.long r18), .second, .val (.long r22), .second, .val (.ref b25), .val (.int v36), .unset, .unset] [])) _
        refine XS.lload X29.here hx rfl (hb hby at_181) rfl ?_
        show Steps p.tables e below (T29.setTop (mkF m 183 #[.val (.int x0), .val (.int x1), .val (.long x2), .second, .val (.long x3), .second, .val (.int x4), .val (.int v4), .val (.long v5), .second, .val (.long v6), .second, .val (.long v7), .second, .val (.long v8), .second, .val (.int v9), .val (.long v13), .second, .val (.long v14), .second, .val (.long r18), .second, .val (.long r22), .second, .val (.ref b25), .val (.int v36), .unset, .unset] [(.long r22)])) _
        refine XS.lload X29.here hx rfl (hb hby at_183) rfl ?_
        show Steps p.tables e below (T29.setTop (mkF m 185 #[.val (.int x0), .val (.int x1), .val (.long x2), .second, .val (.long x3), .second, .val (.int x4), .val (.int v4), .val (.long v5), .second, .val (.long v6), .second, .val (.long v7), .second, .val (.long v8), .second, .val (.int v9), .val (.long v13), .second, .val (.long v14), .second, .val (.long r18), .second, .val (.long r22), .second, .val (.ref b25), .val (.int v36), .unset, .unset] [(.long v8), (.long r22)])) _
        refine XS.lcmp X29.here hx rfl (hb hby at_185) rfl ?_
        show Steps p.tables e below (T29.setTop (mkF m 186 #[.val (.int x0), .val (.int x1), .val (.long x2), .second, .val (.long x3), .second, .val (.int x4), .val (.int v4), .val (.long v5), .second, .val (.long v6), .second, .val (.long v7), .second, .val (.long v8), .second, .val (.int v9), .val (.long v13), .second, .val (.long v14), .second, .val (.long r18), .second, .val (.long r22), .second, .val (.ref b25), .val (.int v36), .unset, .unset] [(.int (lcmpW r22 v8))])) _
        by_cases hc39 : r22 = v8
        · skip
          refine XS.ifNo X29.here hx rfl (hb hby at_186) rfl ((if0 _ _).trans (teq ((lw_eq _ _).mpr hc39)).2) ?_
          show Steps p.tables e below (T29.setTop (mkF m 189 #[.val (.int x0), .val (.int x1), .val (.long x2), .second, .val (.long x3), .second, .val (.int x4), .val (.int v4), .val (.long v5), .second, .val (.long v6), .second, .val (.long v7), .second, .val (.long v8), .second, .val (.int v9), .val (.long v13), .second, .val (.long v14), .second, .val (.long r18), .second, .val (.long r22), .second, .val (.ref b25), .val (.int v36), .unset, .unset] [])) _
          refine XS.iconst X29.here hx rfl (hb hby at_189) ?_
          show Steps p.tables e below (T29.setTop (mkF m 190 #[.val (.int x0), .val (.int x1), .val (.long x2), .second, .val (.long x3), .second, .val (.int x4), .val (.int v4), .val (.long v5), .second, .val (.long v6), .second, .val (.long v7), .second, .val (.long v8), .second, .val (.int v9), .val (.long v13), .second, .val (.long v14), .second, .val (.long r18), .second, .val (.long r22), .second, .val (.ref b25), .val (.int v36), .unset, .unset] [(.int (1 : Int32))])) _
          refine XS.goto X29.here hx rfl (pc0 := 190) (pc' := 194) rfl (hb hby at_190) (by decide) (by decide) ?_
          show Steps p.tables e below (T29.setTop (mkF m 194 #[.val (.int x0), .val (.int x1), .val (.long x2), .second, .val (.long x3), .second, .val (.int x4), .val (.int v4), .val (.long v5), .second, .val (.long v6), .second, .val (.long v7), .second, .val (.long v8), .second, .val (.int v9), .val (.long v13), .second, .val (.long v14), .second, .val (.long r18), .second, .val (.long r22), .second, .val (.ref b25), .val (.int v36), .unset, .unset] [(.int (1 : Int32))])) _
          rw [show v40 = (1 : Int32) from by rw [hv40, if_pos hc38, if_pos hc39]] at k
          exact k
        · skip
          refine XS.ifYes X29.here hx rfl (pc0 := 186) (pc' := 193) rfl (hb hby at_186) rfl ((if0 _ _).trans (feq (fun q => hc39 ((lw_eq _ _).mp q))).2) (by decide) (by decide) ?_
          show Steps p.tables e below (T29.setTop (mkF m 193 #[.val (.int x0), .val (.int x1), .val (.long x2), .second, .val (.long x3), .second, .val (.int x4), .val (.int v4), .val (.long v5), .second, .val (.long v6), .second, .val (.long v7), .second, .val (.long v8), .second, .val (.int v9), .val (.long v13), .second, .val (.long v14), .second, .val (.long r18), .second, .val (.long r22), .second, .val (.ref b25), .val (.int v36), .unset, .unset] [])) _
          refine XS.iconst X29.here hx rfl (hb hby at_193) ?_
          show Steps p.tables e below (T29.setTop (mkF m 194 #[.val (.int x0), .val (.int x1), .val (.long x2), .second, .val (.long x3), .second, .val (.int x4), .val (.int v4), .val (.long v5), .second, .val (.long v6), .second, .val (.long v7), .second, .val (.long v8), .second, .val (.int v9), .val (.long v13), .second, .val (.long v14), .second, .val (.long r18), .second, .val (.long r22), .second, .val (.ref b25), .val (.int v36), .unset, .unset] [(.int (0 : Int32))])) _
          rw [show v40 = (0 : Int32) from by rw [hv40, if_pos hc38, if_neg hc39]] at k
          exact k
      · skip
        refine XS.ifYes X29.here hx rfl (pc0 := 178) (pc' := 193) rfl (hb hby at_178) rfl ((if0 _ _).trans (feq (fun q => hc38 ((lw_eq _ _).mp q))).2) (by decide) (by decide) ?_
        show Steps p.tables e below (T29.setTop (mkF m 193 #[.val (.int x0), .val (.int x1), .val (.long x2), .second, .val (.long x3), .second, .val (.int x4), .val (.int v4), .val (.long v5), .second, .val (.long v6), .second, .val (.long v7), .second, .val (.long v8), .second, .val (.int v9), .val (.long v13), .second, .val (.long v14), .second, .val (.long r18), .second, .val (.long r22), .second, .val (.ref b25), .val (.int v36), .unset, .unset] [])) _
        refine XS.iconst X29.here hx rfl (hb hby at_193) ?_
        show Steps p.tables e below (T29.setTop (mkF m 194 #[.val (.int x0), .val (.int x1), .val (.long x2), .second, .val (.long x3), .second, .val (.int x4), .val (.int v4), .val (.long v5), .second, .val (.long v6), .second, .val (.long v7), .second, .val (.long v8), .second, .val (.int v9), .val (.long v13), .second, .val (.long v14), .second, .val (.long r18), .second, .val (.long r22), .second, .val (.ref b25), .val (.int v36), .unset, .unset] [(.int (0 : Int32))])) _
        rw [show v40 = (0 : Int32) from by rw [hv40, if_neg hc38]] at k
        exact k)
    obtain ⟨v44, hv44⟩ : ∃ z : Int32, z = (if v36 = (0 : Int32) then (if v40 = (0 : Int32) then (0 : Int32) else (1 : Int32)) else (1 : Int32)) := ⟨_, rfl⟩
    have pre45 : ∀ t, Steps p.tables e below (T29.setTop (mkF m 211 #[.val (.int x0), .val (.int x1), .val (.long x2), .second, .val (.long x3), .second, .val (.int x4), .val (.int v4), .val (.long v5), .second, .val (.long v6), .second, .val (.long v7), .second, .val (.long v8), .second, .val (.int v9), .val (.long v13), .second, .val (.long v14), .second, .val (.long r18), .second, .val (.long r22), .second, .val (.ref b25), .val (.int v36), .val (.int v40), .unset] [(.int v44)])) t → Steps p.tables e below (s₁.setTop (entryFrame m #[(.int x0), (.int x1), (.long x2), (.long x3), (.int x4)] maxLocals)) t := fun t k => pre41 t (by
      show Steps p.tables e below (T29.setTop (mkF m 194 #[.val (.int x0), .val (.int x1), .val (.long x2), .second, .val (.long x3), .second, .val (.int x4), .val (.int v4), .val (.long v5), .second, .val (.long v6), .second, .val (.long v7), .second, .val (.long v8), .second, .val (.int v9), .val (.long v13), .second, .val (.long v14), .second, .val (.long r18), .second, .val (.long r22), .second, .val (.ref b25), .val (.int v36), .unset, .unset] [(.int v40)])) _
      refine XS.istore X29.here hx rfl (hb hby at_194) rfl (l' := #[.val (.int x0), .val (.int x1), .val (.long x2), .second, .val (.long x3), .second, .val (.int x4), .val (.int v4), .val (.long v5), .second, .val (.long v6), .second, .val (.long v7), .second, .val (.long v8), .second, .val (.int v9), .val (.long v13), .second, .val (.long v14), .second, .val (.long r18), .second, .val (.long r22), .second, .val (.ref b25), .val (.int v36), .val (.int v40), .unset]) rfl ?_
      show Steps p.tables e below (T29.setTop (mkF m 196 #[.val (.int x0), .val (.int x1), .val (.long x2), .second, .val (.long x3), .second, .val (.int x4), .val (.int v4), .val (.long v5), .second, .val (.long v6), .second, .val (.long v7), .second, .val (.long v8), .second, .val (.int v9), .val (.long v13), .second, .val (.long v14), .second, .val (.long r18), .second, .val (.long r22), .second, .val (.ref b25), .val (.int v36), .val (.int v40), .unset] [])) _
      refine XS.iload X29.here hx rfl (hb hby at_196) rfl ?_
      show Steps p.tables e below (T29.setTop (mkF m 198 #[.val (.int x0), .val (.int x1), .val (.long x2), .second, .val (.long x3), .second, .val (.int x4), .val (.int v4), .val (.long v5), .second, .val (.long v6), .second, .val (.long v7), .second, .val (.long v8), .second, .val (.int v9), .val (.long v13), .second, .val (.long v14), .second, .val (.long r18), .second, .val (.long r22), .second, .val (.ref b25), .val (.int v36), .val (.int v40), .unset] [(.int v36)])) _
      by_cases hc42 : v36 = (0 : Int32)
      · skip
        refine XS.ifNo X29.here hx rfl (hb hby at_198) rfl ((if0 _ _).trans (teq hc42).2) ?_
        show Steps p.tables e below (T29.setTop (mkF m 201 #[.val (.int x0), .val (.int x1), .val (.long x2), .second, .val (.long x3), .second, .val (.int x4), .val (.int v4), .val (.long v5), .second, .val (.long v6), .second, .val (.long v7), .second, .val (.long v8), .second, .val (.int v9), .val (.long v13), .second, .val (.long v14), .second, .val (.long r18), .second, .val (.long r22), .second, .val (.ref b25), .val (.int v36), .val (.int v40), .unset] [])) _
        refine XS.iload X29.here hx rfl (hb hby at_201) rfl ?_
        show Steps p.tables e below (T29.setTop (mkF m 203 #[.val (.int x0), .val (.int x1), .val (.long x2), .second, .val (.long x3), .second, .val (.int x4), .val (.int v4), .val (.long v5), .second, .val (.long v6), .second, .val (.long v7), .second, .val (.long v8), .second, .val (.int v9), .val (.long v13), .second, .val (.long v14), .second, .val (.long r18), .second, .val (.long r22), .second, .val (.ref b25), .val (.int v36), .val (.int v40), .unset] [(.int v40)])) _
        by_cases hc43 : v40 = (0 : Int32)
        · skip
          refine XS.ifYes X29.here hx rfl (pc0 := 203) (pc' := 210) rfl (hb hby at_203) rfl ((if0 _ _).trans (teq hc43).1) (by decide) (by decide) ?_
          show Steps p.tables e below (T29.setTop (mkF m 210 #[.val (.int x0), .val (.int x1), .val (.long x2), .second, .val (.long x3), .second, .val (.int x4), .val (.int v4), .val (.long v5), .second, .val (.long v6), .second, .val (.long v7), .second, .val (.long v8), .second, .val (.int v9), .val (.long v13), .second, .val (.long v14), .second, .val (.long r18), .second, .val (.long r22), .second, .val (.ref b25), .val (.int v36), .val (.int v40), .unset] [])) _
          refine XS.iconst X29.here hx rfl (hb hby at_210) ?_
          show Steps p.tables e below (T29.setTop (mkF m 211 #[.val (.int x0), .val (.int x1), .val (.long x2), .second, .val (.long x3), .second, .val (.int x4), .val (.int v4), .val (.long v5), .second, .val (.long v6), .second, .val (.long v7), .second, .val (.long v8), .second, .val (.int v9), .val (.long v13), .second, .val (.long v14), .second, .val (.long r18), .second, .val (.long r22), .second, .val (.ref b25), .val (.int v36), .val (.int v40), .unset] [(.int (0 : Int32))])) _
          rw [show v44 = (0 : Int32) from by rw [hv44, if_pos hc42, if_pos hc43]] at k
          exact k
        · skip
          refine XS.ifNo X29.here hx rfl (hb hby at_203) rfl ((if0 _ _).trans (feq hc43).1) ?_
          show Steps p.tables e below (T29.setTop (mkF m 206 #[.val (.int x0), .val (.int x1), .val (.long x2), .second, .val (.long x3), .second, .val (.int x4), .val (.int v4), .val (.long v5), .second, .val (.long v6), .second, .val (.long v7), .second, .val (.long v8), .second, .val (.int v9), .val (.long v13), .second, .val (.long v14), .second, .val (.long r18), .second, .val (.long r22), .second, .val (.ref b25), .val (.int v36), .val (.int v40), .unset] [])) _
          refine XS.iconst X29.here hx rfl (hb hby at_206) ?_
          show Steps p.tables e below (T29.setTop (mkF m 207 #[.val (.int x0), .val (.int x1), .val (.long x2), .second, .val (.long x3), .second, .val (.int x4), .val (.int v4), .val (.long v5), .second, .val (.long v6), .second, .val (.long v7), .second, .val (.long v8), .second, .val (.int v9), .val (.long v13), .second, .val (.long v14), .second, .val (.long r18), .second, .val (.long r22), .second, .val (.ref b25), .val (.int v36), .val (.int v40), .unset] [(.int (1 : Int32))])) _
          refine XS.goto X29.here hx rfl (pc0 := 207) (pc' := 211) rfl (hb hby at_207) (by decide) (by decide) ?_
          show Steps p.tables e below (T29.setTop (mkF m 211 #[.val (.int x0), .val (.int x1), .val (.long x2), .second, .val (.long x3), .second, .val (.int x4), .val (.int v4), .val (.long v5), .second, .val (.long v6), .second, .val (.long v7), .second, .val (.long v8), .second, .val (.int v9), .val (.long v13), .second, .val (.long v14), .second, .val (.long r18), .second, .val (.long r22), .second, .val (.ref b25), .val (.int v36), .val (.int v40), .unset] [(.int (1 : Int32))])) _
          rw [show v44 = (1 : Int32) from by rw [hv44, if_pos hc42, if_neg hc43]] at k
          exact k
      · skip
        refine XS.ifYes X29.here hx rfl (pc0 := 198) (pc' := 206) rfl (hb hby at_198) rfl ((if0 _ _).trans (feq hc42).2) (by decide) (by decide) ?_
        show Steps p.tables e below (T29.setTop (mkF m 206 #[.val (.int x0), .val (.int x1), .val (.long x2), .second, .val (.long x3), .second, .val (.int x4), .val (.int v4), .val (.long v5), .second, .val (.long v6), .second, .val (.long v7), .second, .val (.long v8), .second, .val (.int v9), .val (.long v13), .second, .val (.long v14), .second, .val (.long r18), .second, .val (.long r22), .second, .val (.ref b25), .val (.int v36), .val (.int v40), .unset] [])) _
        refine XS.iconst X29.here hx rfl (hb hby at_206) ?_
        show Steps p.tables e below (T29.setTop (mkF m 207 #[.val (.int x0), .val (.int x1), .val (.long x2), .second, .val (.long x3), .second, .val (.int x4), .val (.int v4), .val (.long v5), .second, .val (.long v6), .second, .val (.long v7), .second, .val (.long v8), .second, .val (.int v9), .val (.long v13), .second, .val (.long v14), .second, .val (.long r18), .second, .val (.long r22), .second, .val (.ref b25), .val (.int v36), .val (.int v40), .unset] [(.int (1 : Int32))])) _
        refine XS.goto X29.here hx rfl (pc0 := 207) (pc' := 211) rfl (hb hby at_207) (by decide) (by decide) ?_
        show Steps p.tables e below (T29.setTop (mkF m 211 #[.val (.int x0), .val (.int x1), .val (.long x2), .second, .val (.long x3), .second, .val (.int x4), .val (.int v4), .val (.long v5), .second, .val (.long v6), .second, .val (.long v7), .second, .val (.long v8), .second, .val (.int v9), .val (.long v13), .second, .val (.long v14), .second, .val (.long r18), .second, .val (.long r22), .second, .val (.ref b25), .val (.int v36), .val (.int v40), .unset] [(.int (1 : Int32))])) _
        rw [show v44 = (1 : Int32) from by rw [hv44, if_neg hc42]] at k
        exact k)
    have pre46 : ∀ t, Steps p.tables e below (T29.setTop (mkF m 219 #[.val (.int x0), .val (.int x1), .val (.long x2), .second, .val (.long x3), .second, .val (.int x4), .val (.int v4), .val (.long v5), .second, .val (.long v6), .second, .val (.long v7), .second, .val (.long v8), .second, .val (.int v9), .val (.long v13), .second, .val (.long v14), .second, .val (.long r18), .second, .val (.long r22), .second, .val (.ref b25), .val (.int v36), .val (.int v40), .val (.int v44)] [(.long r22), (.long r18), (.ref b25)])) t → Steps p.tables e below (s₁.setTop (entryFrame m #[(.int x0), (.int x1), (.long x2), (.long x3), (.int x4)] maxLocals)) t := fun t k => pre45 t (by
      show Steps p.tables e below (T29.setTop (mkF m 211 #[.val (.int x0), .val (.int x1), .val (.long x2), .second, .val (.long x3), .second, .val (.int x4), .val (.int v4), .val (.long v5), .second, .val (.long v6), .second, .val (.long v7), .second, .val (.long v8), .second, .val (.int v9), .val (.long v13), .second, .val (.long v14), .second, .val (.long r18), .second, .val (.long r22), .second, .val (.ref b25), .val (.int v36), .val (.int v40), .unset] [(.int v44)])) _
      refine XS.istore X29.here hx rfl (hb hby at_211) rfl (l' := #[.val (.int x0), .val (.int x1), .val (.long x2), .second, .val (.long x3), .second, .val (.int x4), .val (.int v4), .val (.long v5), .second, .val (.long v6), .second, .val (.long v7), .second, .val (.long v8), .second, .val (.int v9), .val (.long v13), .second, .val (.long v14), .second, .val (.long r18), .second, .val (.long r22), .second, .val (.ref b25), .val (.int v36), .val (.int v40), .val (.int v44)]) rfl ?_
      show Steps p.tables e below (T29.setTop (mkF m 213 #[.val (.int x0), .val (.int x1), .val (.long x2), .second, .val (.long x3), .second, .val (.int x4), .val (.int v4), .val (.long v5), .second, .val (.long v6), .second, .val (.long v7), .second, .val (.long v8), .second, .val (.int v9), .val (.long v13), .second, .val (.long v14), .second, .val (.long r18), .second, .val (.long r22), .second, .val (.ref b25), .val (.int v36), .val (.int v40), .val (.int v44)] [])) _
      refine XS.aload X29.here hx rfl (hb hby at_213) rfl rfl ?_
      show Steps p.tables e below (T29.setTop (mkF m 215 #[.val (.int x0), .val (.int x1), .val (.long x2), .second, .val (.long x3), .second, .val (.int x4), .val (.int v4), .val (.long v5), .second, .val (.long v6), .second, .val (.long v7), .second, .val (.long v8), .second, .val (.int v9), .val (.long v13), .second, .val (.long v14), .second, .val (.long r18), .second, .val (.long r22), .second, .val (.ref b25), .val (.int v36), .val (.int v40), .val (.int v44)] [(.ref b25)])) _
      refine XS.lload X29.here hx rfl (hb hby at_215) rfl ?_
      show Steps p.tables e below (T29.setTop (mkF m 217 #[.val (.int x0), .val (.int x1), .val (.long x2), .second, .val (.long x3), .second, .val (.int x4), .val (.int v4), .val (.long v5), .second, .val (.long v6), .second, .val (.long v7), .second, .val (.long v8), .second, .val (.int v9), .val (.long v13), .second, .val (.long v14), .second, .val (.long r18), .second, .val (.long r22), .second, .val (.ref b25), .val (.int v36), .val (.int v40), .val (.int v44)] [(.long r18), (.ref b25)])) _
      refine XS.lload X29.here hx rfl (hb hby at_217) rfl ?_
      show Steps p.tables e below (T29.setTop (mkF m 219 #[.val (.int x0), .val (.int x1), .val (.long x2), .second, .val (.long x3), .second, .val (.int x4), .val (.int v4), .val (.long v5), .second, .val (.long v6), .second, .val (.long v7), .second, .val (.long v8), .second, .val (.int v9), .val (.long v13), .second, .val (.long v14), .second, .val (.long r18), .second, .val (.long r22), .second, .val (.ref b25), .val (.int v36), .val (.int v40), .val (.int v44)] [(.long r22), (.long r18), (.ref b25)])) _
      exact k)
    obtain ⟨cq48, kq48, q48a, q48b, q48c⟩ := isOf hZ rfl Ec29
    obtain ⟨_, _, ⟨T48, L48, k48, n48⟩, -, X48, ⟨Lc48, hQ48, l48, y48, z48⟩, st48⟩ := X29.virtualBack hx (y := (⟨"com/example/crownfield/crownfield/search/Step", "reaches", "(JJ)Z"⟩ : MethodName)) (z := (⟨"com/example/crownfield/crownfield/search/Step", "reaches", "(JJ)Z"⟩ : MethodName)) hown (mvT hZ (hw _ (List.mem_of_getElem? (i := 24) rfl))) (mvT hZ (hw _ (List.mem_of_getElem? (i := 25) rfl))) (notFace_of_selects (args := #[]) (mvT hZ (hw _ (List.mem_of_getElem? (i := 27) rfl)))) (mvT hZ (hw _ (List.mem_of_getElem? (i := 27) rfl))) (mvT hZ (hw _ (List.mem_of_getElem? (i := 26) rfl))) (by decide) (backOf (W := 0) (rm5 l Z a0 hw [] b25 r18 r22 v4 x1 T29.heap n0 Zz29 Fc29_rows Fc29_columns) hZ (hw _ (List.mem_of_getElem? (i := 28) rfl)) (hw _ (List.mem_of_getElem? (i := 8) rfl)) (by decide) (by decide)) q48a q48c (g := (mkF m 219 #[.val (.int x0), .val (.int x1), .val (.long x2), .second, .val (.long x3), .second, .val (.int x4), .val (.int v4), .val (.long v5), .second, .val (.long v6), .second, .val (.long v7), .second, .val (.long v8), .second, .val (.int v9), .val (.long v13), .second, .val (.long v14), .second, .val (.long r18), .second, .val (.long r22), .second, .val (.ref b25), .val (.int v36), .val (.int v40), .val (.int v44)] [(.long r22), (.long r18), (.ref b25)])) rfl (by rw [hml]; rfl) (Steps.refl _) (argsL := [(.long r18), (.long r22)]) (rest := []) (lenOf pd_3 rfl) rfl (by show 2 * 0 + _ ≤ _; exact Nat.le_of_eq rfl) (hb hby at_219) (fun _ _ => ⟨rfl, rfl, (by decide : 1 + 0 ≤ _), (by decide : 2 + 0 ≤ _)⟩)
    dsimp only [Pt.U, Pt.locs, Pt.cells, Pt.slots] at X48 l48 y48 z48 st48 hQ48
    subst l48 y48 z48
    obtain ⟨r48, rfl, N48q, e48, P48⟩ := hQ48
    have N48 := Fr.app N29 N48q
    have pre49 : ∀ t, Steps p.tables e below (T48.setTop (mkF m 222 #[.val (.int x0), .val (.int x1), .val (.long x2), .second, .val (.long x3), .second, .val (.int x4), .val (.int v4), .val (.long v5), .second, .val (.long v6), .second, .val (.long v7), .second, .val (.long v8), .second, .val (.int v9), .val (.long v13), .second, .val (.long v14), .second, .val (.long r18), .second, .val (.long r22), .second, .val (.ref b25), .val (.int v36), .val (.int v40), .val (.int v44)] [(.int r48)])) t → Steps p.tables e below (s₁.setTop (entryFrame m #[(.int x0), (.int x1), (.long x2), (.long x3), (.int x4)] maxLocals)) t := fun t k => pre46 t (st48.trans k)
    obtain ⟨v51, hv51⟩ : ∃ z : Int32, z = (if r48 = v44 then (1 : Int32) else (0 : Int32)) := ⟨_, rfl⟩
    have pre52 : ∀ t, Steps p.tables e below (T48.setTop (mkF m 232 #[.val (.int x0), .val (.int x1), .val (.long x2), .second, .val (.long x3), .second, .val (.int x4), .val (.int v4), .val (.long v5), .second, .val (.long v6), .second, .val (.long v7), .second, .val (.long v8), .second, .val (.int v9), .val (.long v13), .second, .val (.long v14), .second, .val (.long r18), .second, .val (.long r22), .second, .val (.ref b25), .val (.int v36), .val (.int v40), .val (.int v44)] [(.int v51)])) t → Steps p.tables e below (s₁.setTop (entryFrame m #[(.int x0), (.int x1), (.long x2), (.long x3), (.int x4)] maxLocals)) t := fun t k => pre49 t (by
      show Steps p.tables e below (T48.setTop (mkF m 222 #[.val (.int x0), .val (.int x1), .val (.long x2), .second, .val (.long x3), .second, .val (.int x4), .val (.int v4), .val (.long v5), .second, .val (.long v6), .second, .val (.long v7), .second, .val (.long v8), .second, .val (.int v9), .val (.long v13), .second, .val (.long v14), .second, .val (.long r18), .second, .val (.long r22), .second, .val (.ref b25), .val (.int v36), .val (.int v40), .val (.int v44)] [(.int r48)])) _
      refine XS.iload X48.here hx rfl (hb hby at_222) rfl ?_
      show Steps p.tables e below (T48.setTop (mkF m 224 #[.val (.int x0), .val (.int x1), .val (.long x2), .second, .val (.long x3), .second, .val (.int x4), .val (.int v4), .val (.long v5), .second, .val (.long v6), .second, .val (.long v7), .second, .val (.long v8), .second, .val (.int v9), .val (.long v13), .second, .val (.long v14), .second, .val (.long r18), .second, .val (.long r22), .second, .val (.ref b25), .val (.int v36), .val (.int v40), .val (.int v44)] [(.int v44), (.int r48)])) _
      by_cases hc50 : r48 = v44
      · skip
        refine XS.icmpNo X48.here hx rfl (hb hby at_224) rfl (teq hc50).2 ?_
        show Steps p.tables e below (T48.setTop (mkF m 227 #[.val (.int x0), .val (.int x1), .val (.long x2), .second, .val (.long x3), .second, .val (.int x4), .val (.int v4), .val (.long v5), .second, .val (.long v6), .second, .val (.long v7), .second, .val (.long v8), .second, .val (.int v9), .val (.long v13), .second, .val (.long v14), .second, .val (.long r18), .second, .val (.long r22), .second, .val (.ref b25), .val (.int v36), .val (.int v40), .val (.int v44)] [])) _
        refine XS.iconst X48.here hx rfl (hb hby at_227) ?_
        show Steps p.tables e below (T48.setTop (mkF m 228 #[.val (.int x0), .val (.int x1), .val (.long x2), .second, .val (.long x3), .second, .val (.int x4), .val (.int v4), .val (.long v5), .second, .val (.long v6), .second, .val (.long v7), .second, .val (.long v8), .second, .val (.int v9), .val (.long v13), .second, .val (.long v14), .second, .val (.long r18), .second, .val (.long r22), .second, .val (.ref b25), .val (.int v36), .val (.int v40), .val (.int v44)] [(.int (1 : Int32))])) _
        refine XS.goto X48.here hx rfl (pc0 := 228) (pc' := 232) rfl (hb hby at_228) (by decide) (by decide) ?_
        show Steps p.tables e below (T48.setTop (mkF m 232 #[.val (.int x0), .val (.int x1), .val (.long x2), .second, .val (.long x3), .second, .val (.int x4), .val (.int v4), .val (.long v5), .second, .val (.long v6), .second, .val (.long v7), .second, .val (.long v8), .second, .val (.int v9), .val (.long v13), .second, .val (.long v14), .second, .val (.long r18), .second, .val (.long r22), .second, .val (.ref b25), .val (.int v36), .val (.int v40), .val (.int v44)] [(.int (1 : Int32))])) _
        rw [show v51 = (1 : Int32) from by rw [hv51, if_pos hc50]] at k
        exact k
      · skip
        refine XS.icmpYes X48.here hx rfl (pc0 := 224) (pc' := 231) rfl (hb hby at_224) rfl (feq hc50).2 (by decide) (by decide) ?_
        show Steps p.tables e below (T48.setTop (mkF m 231 #[.val (.int x0), .val (.int x1), .val (.long x2), .second, .val (.long x3), .second, .val (.int x4), .val (.int v4), .val (.long v5), .second, .val (.long v6), .second, .val (.long v7), .second, .val (.long v8), .second, .val (.int v9), .val (.long v13), .second, .val (.long v14), .second, .val (.long r18), .second, .val (.long r22), .second, .val (.ref b25), .val (.int v36), .val (.int v40), .val (.int v44)] [])) _
        refine XS.iconst X48.here hx rfl (hb hby at_231) ?_
        show Steps p.tables e below (T48.setTop (mkF m 232 #[.val (.int x0), .val (.int x1), .val (.long x2), .second, .val (.long x3), .second, .val (.int x4), .val (.int v4), .val (.long v5), .second, .val (.long v6), .second, .val (.long v7), .second, .val (.long v8), .second, .val (.int v9), .val (.long v13), .second, .val (.long v14), .second, .val (.long r18), .second, .val (.long r22), .second, .val (.ref b25), .val (.int v36), .val (.int v40), .val (.int v44)] [(.int (0 : Int32))])) _
        rw [show v51 = (0 : Int32) from by rw [hv51, if_neg hc50]] at k
        exact k)
    obtain rfl : v51 = (1 : Int32) := by exact own_fin2 x0 x1 x2 x3 x4 v4 v5 v6 v7 v8 v9 v13 v14 r18 r22 v36 v40 v44 r48 v51 hc2 hv4 hv5 hv6 hv7 hv8 hv9 hv13 hv14 P18 P22 hv36 hv40 hv44 P48 hv51
    obtain ⟨fs, hr, hrun, hended, hW, hsame⟩ := X48.leave (v := some (.int (1 : Int32))) (fun h => by rw [Bd.returns] at h; cases h)
    refine ⟨_, _, pre52 _ ?_, hrun, hended, _, _, rfl, ?_, ⟨_, rfl⟩, hW, hsame.mono (by decide) (by decide)⟩
    · show Steps p.tables e below (T48.setTop (mkF m 232 #[.val (.int x0), .val (.int x1), .val (.long x2), .second, .val (.long x3), .second, .val (.int x4), .val (.int v4), .val (.long v5), .second, .val (.long v6), .second, .val (.long v7), .second, .val (.long v8), .second, .val (.int v9), .val (.long v13), .second, .val (.long v14), .second, .val (.long r18), .second, .val (.long r22), .second, .val (.ref b25), .val (.int v36), .val (.int v40), .val (.int v44)] [(.int (1 : Int32))])) _
      exact retN X48 hx (t := .boolean) Bd.returns (by simp) (hb hby at_232) hr
    · show Q0 Z x0 x1 x2 x3 x4 h0 n0 _ T48.heap _
      rw [e48]
      exact ⟨rfl, N48⟩
set_option maxRecDepth 65536 in
set_option maxHeartbeats 40000000 in
theorem comes_1 {Post : Tables → Env → Array Value → State → Outcome → State → Prop} (hpost : ∀ tb e args s v u, (limb_1_1.after args s (.returned v) u = true ∧ limb_1_2.after args s (.returned v) u = true ∧ True) → FrameEnd s (.returned v) u (Jvm.fieldLocs frame_1_writes args s ++ Jvm.arrayLocs frame_1_arrays args s ++ Jvm.staticLocs frame_1_statics s) 16 128 → Post tb e args s (.returned v) u) :
    ArmFor flags0 classFile x code maxLocals ret World_1 tables_1 room_1 Calls_1 rest_1 Pre_1 Post := by
  intro l hfl _ _ p e ha hc hk s m args below hf hA hF happ hP
  obtain ⟨hcalls, hrest, hpre⟩ := hP
  obtain ⟨-, -, -, hnamed, -, -, -, hat⟩ := (Spec.applies_iff hf).mp happ
  obtain ⟨hg, hn⟩ := and_e (Cond.before_iff.mp (show (Jvm.Cond.and given_1 narrow_1).before args s = true from hpre))
  obtain ⟨hcount, hg0⟩ := and_e hg
  obtain ⟨ha0, hg1⟩ := and_e hg0
  obtain ⟨ha1, hg2⟩ := and_e hg1
  obtain ⟨ha2, hg3⟩ := and_e hg2
  obtain ⟨ha3, hg4⟩ := and_e hg3
  have ha4 := hg4
  obtain ⟨w0, w1, w2, w3, w4, rfl⟩ : ∃ w0 w1 w2 w3 w4 : Value, args = #[w0, w1, w2, w3, w4] := by
    have hs : args.size = 5 := by simpa [Cond.value, given_1] using hcount
    obtain ⟨L⟩ := args
    match L, hs with
    | [w0, w1, w2, w3, w4], _ => exact ⟨w0, w1, w2, w3, w4, rfl⟩
  have hw := fun d (hd : d ∈ tables_1) => atoms_spec (ws := Jvm.Cond.code x code maxLocals ret :: tables_1) hat d (List.mem_cons_of_mem _ hd)
  obtain ⟨i0, ei0⟩ := is_v ha0
  obtain rfl : w0 = (.int i0) := Option.some.inj ei0
  obtain ⟨i1, ei1⟩ := is_v ha1
  obtain rfl : w1 = (.int i1) := Option.some.inj ei1
  obtain ⟨i2, ei2⟩ := isL_v ha2
  obtain rfl : w2 = (.long i2) := Option.some.inj ei2
  obtain ⟨i3, ei3⟩ := isL_v ha3
  obtain rfl : w3 = (.long i3) := Option.some.inj ei3
  obtain ⟨i4, ei4⟩ := is_v ha4
  obtain rfl : w4 = (.int i4) := Option.some.inj ei4
  obtain ⟨n, o, h1, h2, h3, _, L, rfl, ⟨rfl, N⟩, hq⟩ := rm0 l s _ hw tables_1 i0 i1 i2 i3 i4  s.heap s.heap.size (Nat.le_refl _) p e ha hc hk s m _ below hf ((Spec.applies_iff_loose hf).mp happ).1 ⟨rfl, State.Warmed39.refl s, rfl⟩ trivial
  refine ⟨n, _, h1, h2, h3, hpost _ _ _ _ _ _ ⟨Cond.after_iff.mpr rfl, Cond.after_iff.mpr (eq_i res_at (Term.int_eval (1)) rfl), trivial⟩ ⟨hq.1, hq.2.1, (hq.2.2.sift fun y hy => Or.inr (N y hy)).mono (by decide) (by decide)⟩⟩
theorem main_1_1 : Claimed_1_1 := comes_1 fun _ _ _ _ _ _ h hF => ⟨h.1, hF⟩
theorem main_1_2 : Claimed_1_2 := comes_1 fun _ _ _ _ _ _ h hF => ⟨h.2.1, hF⟩
end Jvm.Pilot.@@N@@
namespace Jvm.Pilot.@@N@@
open Jvm Jvm.ClassFile Sem Op Lib Jvm.Free Jvm.Stand Jvm.Pilot.@@N@@.Jvm.D
/-! MADE BY PROGRAM (witnessworld.py) out of the Statement's table words and the real class files: 10 classes; the members and pool entries that the words name. The judged class is class 1, her method 2. -/
namespace start1
open Jvm.ClassFile
def u (s : String) : CpInfo := .utf8 (stringToUtf16 s)
/-- a pool by its gaps: so many unusable entries, then the entry; so many at the end -/
def gap : Nat → List CpInfo → List CpInfo
  | 0, r => r
  | n + 1, r => .unusable :: gap n r
def poolList (es : List (Nat × CpInfo)) (last : Nat) : List CpInfo := es.foldr (fun e r => gap e.1 (e.2 :: r)) (gap last [])
def pool (es : List (Nat × CpInfo)) (last : Nat) : Array CpInfo := ⟨poolList es last⟩
def fileOf (pool : Array CpInfo) (this : Nat) (attrs : Array Attribute := #[]) (ms : Array MethodInfo := #[]) (fl : Nat := 33) (sup : Nat := 0) (ifs : Array Nat := #[]) (fds : Array FieldInfo := #[]) : ClassFile where
  minorVersion := 0
  majorVersion := 65
  constantPool := pool
  accessFlags := fl
  thisClass := this
  superClass := sup
  interfaces := ifs
  fields := fds
  methods := ms
  attributes := attrs
def plain (name : String) (sup : Option ClassId) : Class where
  name := name
  kind := .ordinary
  loader := none
  accessFlags := 33
  super := sup
  interfaces := #[]
  cf := none
  fields := #[]
  methods := #[]
  instanceTypes := #[]
  staticTypes := #[]
  resolved := #[]
  callSites := []
  init := .initialized
  statics := none
  mirror := none

def pool0 : Array CpInfo := pool [(5, u "<init>"), (0, u "()V"), (1, .class_ 10), (1, u "java/lang/Object")] 113

def k0c0 : Code := { maxStack := 0, maxLocals := 1, code := object_method_1_code, exceptionTable := #[], attributes := #[] }
def k0m0 : Method := { name := "<init>", desc := "()V", sig := { parameters := [], returnType := none }, accessFlags := 1, code := some k0c0 }
/-- java/lang/Object -/
def k0 : Class := { plain "java/lang/Object" none with
  accessFlags := 33
  interfaces := #[]
  cf := some (fileOf pool0 8 #[] #[{ accessFlags := 1, nameIndex := 5, descriptorIndex := 6, attributes := #[] }] 33 0 #[] #[])
  fields := #[]
  methods := #[k0m0]
  instanceTypes := #[]
  staticTypes := #[]
  resolved := Array.replicate 124 none
  statics := none }

def pool1 : Array CpInfo := pool [(2, .class_ 4), (1, u "java/lang/Object"), (0, u "<init>"), (0, u "()V"), (0, .long 3), (3, .integer 2147483648), (0, .integer 2147483647), (0, .methodref 14 15), (0, .class_ 16), (0, .nameAndType 17 18), (0, u "com/example/crownfield/crownfield/search/StepReachesPinLaw"), (0, u "offset"), (0, u "(JJII)J"), (0, .class_ 20), (0, u "com/example/crownfield/crownfield/search/Step"), (0, .methodref 19 22), (0, .nameAndType 5 23), (0, u "(II)V"), (0, .methodref 19 25), (0, .nameAndType 26 27), (0, u "reaches"), (0, u "(JJ)Z"), (3, u "law"), (0, u "(IIJJI)Z")] 2

def k1m0 : Method := { name := "<init>", desc := "()V", sig := { parameters := [], returnType := none }, accessFlags := 1, code := none }
def k1c1 : Code := { maxStack := 6, maxLocals := 6, code := method_2_code, exceptionTable := #[], attributes := #[] }
def k1m1 : Method := { name := "offset", desc := "(JJII)J", sig := { parameters := [.long, .long, .int, .int], returnType := some .long }, accessFlags := 10, code := some k1c1 }
def k1c2 : Code := { maxStack := 7, maxLocals := 29, code := code, exceptionTable := #[], attributes := #[] }
def k1m2 : Method := { name := "law", desc := "(IIJJI)Z", sig := { parameters := [.int, .int, .long, .long, .int], returnType := some .boolean }, accessFlags := 9, code := some k1c2 }
/-- com/example/crownfield/crownfield/search/StepReachesPinLaw -/
def k1 : Class := { plain "com/example/crownfield/crownfield/search/StepReachesPinLaw" (some 0) with
  accessFlags := 49
  interfaces := #[]
  cf := some (fileOf pool1 14 #[] #[{ accessFlags := 1, nameIndex := 5, descriptorIndex := 6, attributes := #[] }, { accessFlags := 10, nameIndex := 17, descriptorIndex := 18, attributes := #[] }, { accessFlags := 9, nameIndex := 31, descriptorIndex := 32, attributes := #[] }] 49 2 #[] #[])
  fields := #[]
  methods := #[k1m0, k1m1, k1m2]
  instanceTypes := #[]
  staticTypes := #[]
  resolved := Array.replicate 35 none
  statics := none }

def pool2 : Array CpInfo := pool [(1, .methodref 2 3), (0, .class_ 4), (0, .nameAndType 5 6), (0, u "java/lang/Object"), (0, u "<init>"), (0, u "()V"), (0, .class_ 8), (0, u "java/lang/Record")] 13

def k2c0 : Code := { maxStack := 1, maxLocals := 1, code := jdk_30_method_1_code, exceptionTable := #[], attributes := #[] }
def k2m0 : Method := { name := "<init>", desc := "()V", sig := { parameters := [], returnType := none }, accessFlags := 4, code := some k2c0 }
/-- java/lang/Record -/
def k2 : Class := { plain "java/lang/Record" (some 0) with
  accessFlags := 1057
  interfaces := #[]
  cf := some (fileOf pool2 7 #[] #[{ accessFlags := 4, nameIndex := 5, descriptorIndex := 6, attributes := #[] }] 1057 2 #[] #[])
  fields := #[]
  methods := #[k2m0]
  instanceTypes := #[]
  staticTypes := #[]
  resolved := Array.replicate 22 none
  statics := none }

def pool3 : Array CpInfo := pool [(1, .methodref 2 3), (0, .class_ 4), (0, .nameAndType 5 6), (0, u "java/lang/Record"), (0, u "<init>"), (0, u "()V"), (0, .fieldref 8 9), (0, .class_ 10), (0, .nameAndType 11 12), (0, u "com/example/crownfield/crownfield/search/Step"), (0, u "rows"), (0, u "I"), (0, .fieldref 8 14), (0, .nameAndType 15 12), (0, u "columns"), (18, u "(II)V"), (8, u "ROW_AND_COLUMN"), (0, u "Ljava/util/List;"), (2, u "DIAGONALS"), (5, u "KNIGHT"), (6, u "(JJ)Z"), (1, u "reaches")] 25

def k3c0 : Code := { maxStack := 2, maxLocals := 3, code := prog_50_method_1_code, exceptionTable := #[], attributes := #[] }
def k3m0 : Method := { name := "<init>", desc := "(II)V", sig := { parameters := [.int, .int], returnType := none }, accessFlags := 0, code := some k3c0 }
def k3c1 : Code := { maxStack := 4, maxLocals := 5, code := prog_50_method_4_code, exceptionTable := #[], attributes := #[] }
def k3m1 : Method := { name := "reaches", desc := "(JJ)Z", sig := { parameters := [.long, .long], returnType := some .boolean }, accessFlags := 0, code := some k3c1 }
/-- com/example/crownfield/crownfield/search/Step -/
def k3 : Class := { plain "com/example/crownfield/crownfield/search/Step" (some 2) with
  accessFlags := 48
  interfaces := #[]
  cf := some (fileOf pool3 8 #[] #[{ accessFlags := 0, nameIndex := 5, descriptorIndex := 34, attributes := #[] }, { accessFlags := 0, nameIndex := 62, descriptorIndex := 60, attributes := #[] }] 48 2 #[] #[{ accessFlags := 18, nameIndex := 11, descriptorIndex := 12, attributes := #[] }, { accessFlags := 18, nameIndex := 15, descriptorIndex := 12, attributes := #[] }, { accessFlags := 24, nameIndex := 43, descriptorIndex := 44, attributes := #[] }, { accessFlags := 24, nameIndex := 47, descriptorIndex := 44, attributes := #[] }, { accessFlags := 24, nameIndex := 53, descriptorIndex := 44, attributes := #[] }])
  fields := #[{ name := "rows", type := .int, accessFlags := 18, slot := 0, constantValue := 0 }, { name := "columns", type := .int, accessFlags := 18, slot := 1, constantValue := 0 }, { name := "ROW_AND_COLUMN", type := (.object "java/util/List"), accessFlags := 24, slot := 0, constantValue := 0 }, { name := "DIAGONALS", type := (.object "java/util/List"), accessFlags := 24, slot := 1, constantValue := 0 }, { name := "KNIGHT", type := (.object "java/util/List"), accessFlags := 24, slot := 2, constantValue := 0 }]
  methods := #[k3m0, k3m1]
  instanceTypes := #[.int, .int]
  staticTypes := #[(.object "java/util/List"), (.object "java/util/List"), (.object "java/util/List")]
  resolved := Array.replicate 88 none
  statics := none }

def pool4 : Array CpInfo := pool [(1, u "java/lang/Cloneable"), (0, .class_ 1), (0, u "java/lang/Object"), (0, .class_ 3)] 3

/-- java/lang/Cloneable -/
def k4 : Class := { plain "java/lang/Cloneable" (some 0) with
  accessFlags := 1537
  interfaces := #[]
  cf := some (fileOf pool4 2 #[] #[] 1537 4 #[] #[])
  fields := #[]
  methods := #[]
  instanceTypes := #[]
  staticTypes := #[]
  resolved := Array.replicate 8 none
  statics := none }

def pool5 : Array CpInfo := pool [(1, u "java/io/Serializable"), (0, .class_ 1), (0, u "java/lang/Object"), (0, .class_ 3)] 3

/-- java/io/Serializable -/
def k5 : Class := { plain "java/io/Serializable" (some 0) with
  accessFlags := 1537
  interfaces := #[]
  cf := some (fileOf pool5 2 #[] #[] 1537 4 #[] #[])
  fields := #[]
  methods := #[]
  instanceTypes := #[]
  staticTypes := #[]
  resolved := Array.replicate 8 none
  statics := none }

/-- the primitive byte -/
def k6 : Class := { plain "byte" none with kind := .primitive 'B', accessFlags := 0x411 }
/-- [B -/
def k7 : Class := { plain "[B" (some 0) with kind := .array 6 .byte, interfaces := #[4, 5], accessFlags := 1041 }

/-- the primitive int -/
def k8 : Class := { plain "int" none with kind := .primitive 'I', accessFlags := 0x411 }
/-- [I -/
def k9 : Class := { plain "[I" (some 0) with kind := .array 8 .int, interfaces := #[4, 5], accessFlags := 1041 }

def heap : Heap := #[]
def classes : Array Class := #[k0, k1, k2, k3, k4, k5, k6, k7, k8, k9]
def interned : List (Array UInt16 × Addr) := []
def slotsUsed : Nat := 0
def theMethod : MethodId := ⟨1, 2⟩
def args0 : Array Value := #[.int 70, .int 5, .long 1, .long 2, .int 3]
def aboutOver (below : List Frame) : State where
  vm := { classes := classes, interned := interned.toArray }
  heap := heap
  slotsUsed := slotsUsed
  threads := #[{ frames := .invoking theMethod args0 :: below }]
def below0 : List Frame := [.native { method := ⟨0, 0⟩, args := #[] }]
def about1 : State := aboutOver below0
def p0 : Program := .bare "" "" ""
def e0 : Env := launch0.env 0 0 0
theorem w_frames : about1.frames = Frame.invoking theMethod args0 :: below0 := rfl
set_option maxRecDepth 65536 in
theorem w_args : argsFit about1.vm theMethod args0 = true := by decide +kernel
set_option maxRecDepth 65536 in
theorem w_heap : heapFits about1 = true := by decide +kernel
set_option maxRecDepth 65536 in
theorem w_runnable : about1.curStatus? = some .runnable := by decide +kernel
set_option maxRecDepth 65536 in
theorem w_alone : about1.alone = true := by decide +kernel
set_option maxRecDepth 65536 in
theorem w_named : about1.methodNamed? x = some theMethod := by decide +kernel
set_option maxRecDepth 65536 in
theorem w_hears : about1.hears theMethod below0 = true := by decide +kernel
set_option maxRecDepth 65536 in
theorem w_ripe : about1.ripe theMethod args0 below0 = true := by decide +kernel
theorem w_running : about1.status = .running := rfl
set_option maxRecDepth 65536 in
theorem w_room : about1.hasRoom e0.platform room_1 = true :=
  launch0.hasRoom_least _ room_1 (by decide +kernel) (by decide +kernel) (by decide +kernel) (by decide +kernel) (by decide +kernel) (by decide +kernel)
theorem allAtoms_all (ts : List Jvm.Cond) (a : Array Jvm.Value) (st : Jvm.State) : (allAtoms ts).before a st = ts.all (fun c => c.before a st) := by
  induction ts with
  | nil => rfl
  | cons c t ih =>
    show (Jvm.Cond.and c (allAtoms t)).before a st = _
    rw [Jvm.Cond.before_and, ih, List.all_cons]
def words1 : List Jvm.Cond := Jvm.Cond.code x code maxLocals ret :: tables_1
/-- a 'code' word, met by the world's own term for the bytes: nothing is compared byte by byte -/
theorem code_word {y : MethodName} {bytes : ByteArray} {mx : Nat} {rt : Option FieldType} {a : Array Value} {s : State} {m : MethodId} {meth : Method} {c : Code} (h1 : s.methodNamed? y = some m) (h2 : s.vm.method? m = some meth) (h3 : meth.code = some c) (h4 : c.code = bytes)
    (h5 : (c.maxLocals == mx && c.exceptionTable.isEmpty && decide (c.maxStack ≤ mostOperands) && decide (meth.sig.returnType = rt) && !meth.locks && decide (parseMethodDescriptor y.desc = some meth.sig)) = true) : (Jvm.Cond.code y bytes mx rt).before a s = true := by
  simp only [Bool.and_eq_true, beq_iff_eq, Bool.not_eq_true', decide_eq_true_eq] at h5
  obtain ⟨⟨⟨⟨⟨g1, g2⟩, g3⟩, g4⟩, g5⟩, g6⟩ := h5
  simp [Cond.before, Cond.holds, Cond.value, h1, h2, h3, h4, g1, g2, g3, g4, g5, g6]
def isCode : Jvm.Cond → Bool
  | .code _ _ _ _ => true
  | _ => false
theorem all_split {L : List Jvm.Cond} {P : Jvm.Cond → Bool} (h1 : L.all (fun c => isCode c || P c) = true) (h2 : ∀ c ∈ L.filter isCode, P c = true) : L.all P = true := by
  refine List.all_eq_true.mpr fun c hc => ?_
  have h := List.all_eq_true.mp h1 c hc
  rcases Bool.eq_false_or_eq_true (isCode c) with hi | hi
  · exact h2 c (List.mem_filter.mpr ⟨hc, hi⟩)
  · simpa [hi] using h
set_option maxRecDepth 65536 in
theorem w_c0 : (Jvm.Cond.code x code maxLocals ret).before args0 about1 = true := code_word (m := ⟨1, 2⟩) (meth := k1m2) (c := k1c2) (by decide +kernel) rfl rfl rfl (by decide +kernel)
set_option maxRecDepth 65536 in
theorem w_c1 : (Jvm.Cond.code ({ cls := "com/example/crownfield/crownfield/search/StepReachesPinLaw", name := "offset", desc := "(JJII)J" } : Jvm.MethodName) method_2_code (6 : Nat) (Option.some Jvm.ClassFile.FieldType.long)).before args0 about1 = true := code_word (m := ⟨1, 1⟩) (meth := k1m1) (c := k1c1) (by decide +kernel) rfl rfl rfl (by decide +kernel)
set_option maxRecDepth 65536 in
theorem w_c2 : (Jvm.Cond.code ({ cls := "com/example/crownfield/crownfield/search/Step", name := "<init>", desc := "(II)V" } : Jvm.MethodName) prog_50_method_1_code (3 : Nat) (Option.none : Option Jvm.ClassFile.FieldType)).before args0 about1 = true := code_word (m := ⟨3, 0⟩) (meth := k3m0) (c := k3c0) (by decide +kernel) rfl rfl rfl (by decide +kernel)
set_option maxRecDepth 65536 in
theorem w_c3 : (Jvm.Cond.code ({ cls := "java/lang/Record", name := "<init>", desc := "()V" } : Jvm.MethodName) jdk_30_method_1_code (1 : Nat) (Option.none : Option Jvm.ClassFile.FieldType)).before args0 about1 = true := code_word (m := ⟨2, 0⟩) (meth := k2m0) (c := k2c0) (by decide +kernel) rfl rfl rfl (by decide +kernel)
set_option maxRecDepth 65536 in
theorem w_c4 : (Jvm.Cond.code ({ cls := "java/lang/Object", name := "<init>", desc := "()V" } : Jvm.MethodName) object_method_1_code (1 : Nat) (Option.none : Option Jvm.ClassFile.FieldType)).before args0 about1 = true := code_word (m := ⟨0, 0⟩) (meth := k0m0) (c := k0c0) (by decide +kernel) rfl rfl rfl (by decide +kernel)
set_option maxRecDepth 65536 in
theorem w_c5 : (Jvm.Cond.code ({ cls := "com/example/crownfield/crownfield/search/Step", name := "reaches", desc := "(JJ)Z" } : Jvm.MethodName) prog_50_method_4_code (5 : Nat) (Option.some Jvm.ClassFile.FieldType.boolean)).before args0 about1 = true := code_word (m := ⟨3, 1⟩) (meth := k3m1) (c := k3c1) (by decide +kernel) rfl rfl rfl (by decide +kernel)
def codes1 : List Jvm.Cond := [Jvm.Cond.code x code maxLocals ret, Jvm.Cond.code ({ cls := "com/example/crownfield/crownfield/search/StepReachesPinLaw", name := "offset", desc := "(JJII)J" } : Jvm.MethodName) method_2_code (6 : Nat) (Option.some Jvm.ClassFile.FieldType.long), Jvm.Cond.code ({ cls := "com/example/crownfield/crownfield/search/Step", name := "<init>", desc := "(II)V" } : Jvm.MethodName) prog_50_method_1_code (3 : Nat) (Option.none : Option Jvm.ClassFile.FieldType), Jvm.Cond.code ({ cls := "java/lang/Record", name := "<init>", desc := "()V" } : Jvm.MethodName) jdk_30_method_1_code (1 : Nat) (Option.none : Option Jvm.ClassFile.FieldType), Jvm.Cond.code ({ cls := "java/lang/Object", name := "<init>", desc := "()V" } : Jvm.MethodName) object_method_1_code (1 : Nat) (Option.none : Option Jvm.ClassFile.FieldType), Jvm.Cond.code ({ cls := "com/example/crownfield/crownfield/search/Step", name := "reaches", desc := "(JJ)Z" } : Jvm.MethodName) prog_50_method_4_code (5 : Nat) (Option.some Jvm.ClassFile.FieldType.boolean)]
set_option maxRecDepth 65536 in
theorem codes_eq : words1.filter isCode = codes1 := rfl
theorem w_codes : ∀ c ∈ words1.filter isCode, c.before args0 about1 = true := by
  rw [codes_eq]
  intro c hc
  simp only [codes1, List.mem_cons, List.not_mem_nil, or_false] at hc
  rcases hc with rfl | rfl | rfl | rfl | rfl | rfl
  · exact w_c0
  · exact w_c1
  · exact w_c2
  · exact w_c3
  · exact w_c4
  · exact w_c5
set_option maxRecDepth 65536 in
theorem w_t1 : (words1.take 24).all (fun c => isCode c || c.before args0 about1) = true := by decide +kernel
set_option maxRecDepth 65536 in
theorem w_t2 : (words1.drop 24).all (fun c => isCode c || c.before args0 about1) = true := by decide +kernel
theorem w_tables : (allAtoms (Jvm.Cond.code x code maxLocals ret :: tables_1)).before args0 about1 = true := by
  rw [allAtoms_all]
  show words1.all (fun c => c.before args0 about1) = true
  refine all_split ?_ w_codes
  rw [← List.take_append_drop 24 words1, List.all_append, w_t1, w_t2]
  rfl
set_option maxRecDepth 65536 in
theorem w_case : (Jvm.Cond.and given_1 narrow_1).before args0 about1 = true := by decide +kernel
theorem w_applies : (headSpec (Jvm.Cond.code x code maxLocals ret :: tables_1) room_1).applies x e0.platform about1 = true :=
  (Spec.applies_iff w_frames).mpr ⟨w_running, w_runnable, w_alone, w_named, w_hears, w_ripe, w_room, w_tables⟩
theorem atStart : AtStart classFile x code maxLocals ret World_1 tables_1 room_1 Calls_1 rest_1 Pre_1 launch0 p0 e0 about1 theMethod args0 below0 :=
  ⟨lists_1, trivial, launch0.admits_env _ _ _, launch0.least_env, fairChoices_fair.cas, fairChoices_fair.clock, w_frames, w_args, w_heap, w_applies, trivial, trivial, w_case⟩
end start1
theorem witness_1 : WitnessClaimed_1 := ⟨start1.p0, start1.e0, start1.about1, start1.theMethod, start1.args0, start1.below0, start1.atStart⟩
end Jvm.Pilot.@@N@@
