import JvmDerived
import JvmDerived.Pilot.@@N@@Statement
import JvmDerived.Pilot.@@N@@Code
set_option linter.unusedVariables false
set_option linter.unusedSimpArgs false
namespace Jvm.RoadKit
open Sem ClassFile Op Lib Jvm.Stand Jvm.Free Jvm.LawKit
section New
variable {p : Program} {l : Launch} {e : Env} {R : Room} {s : State} {m : MethodId} {args : Array Value} {below : List Frame} {meth : Method} {c : Code} {T : State} {locs : List Loc} {cells slots : Nat}
theorem retI (X : Stand p l e R s m args below meth c T locs cells slots) (hx : p.tables.exec = Jvm.exec) {pc : Nat} {Ls : Array Slot} {z : Int32} {rest : List Value} (hret : meth.sig.returnType = some .int) (hd : decode c.code pc = .ok (.ireturn, 1)) {fs : List Frame}
    (hl : ∀ (f : JFrame) (acts : List Action), f.method = m → f.locked = none → f.entered = [] → (doReturn e (T.setTop f) acts (some (.int z))).1 = T.setFrames fs) : Steps p.tables e below (T.setTop (mkF m pc Ls (.int z :: rest))) (T.setFrames fs) := by
  have hm' : T.vm.method? m = some meth := X.method'
  have hn : narrow .int (.int z) = .int z := rfl
  show Steps p.tables e below (T.setTop { method := m, pc := pc, locals := Ls, stack := _ :: rest, locked := none }) _
  jvm_step X.here [X.here.top, hx, hd, hm', hret, hn]
  first | (intro acts; rw [hl _ acts rfl rfl rfl]) | rw [hl _ _ rfl rfl rfl]
  exact Steps.refl _
end New
end Jvm.RoadKit
namespace Jvm.Pilot.@@N@@
open Jvm Jvm.ClassFile Sem Op Lib Jvm.Free Jvm.Stand Jvm.LawKit Jvm.RoadKit Bundle Jvm.Pilot.@@N@@.Jvm.D
def own_el5 (j e0 e1 e2 e3 e4 : Int32) : Int32 := (if j = (0 : Int32) then e0 else (if j = (1 : Int32) then e1 else (if j = (2 : Int32) then e2 else (if j = (3 : Int32) then e3 else e4))))
theorem own_in5 {j : Int32} (h : j = (0 : Int32) ∨ j = (1 : Int32) ∨ j = (2 : Int32) ∨ j = (3 : Int32) ∨ j = (4 : Int32)) : ¬ j < 0 ∧ j < (5 : Int32) := by rcases h with rfl | rfl | rfl | rfl | rfl <;> exact ⟨by decide, by decide⟩
theorem own_get5 (j e0 e1 e2 e3 e4 : Int32) (h : j = (0 : Int32) ∨ j = (1 : Int32) ∨ j = (2 : Int32) ∨ j = (3 : Int32) ∨ j = (4 : Int32)) : [Value.int e0, Value.int e1, Value.int e2, Value.int e3, Value.int e4].getD j.toNatClampNeg (.int (0 : Int32)) = .int (own_el5 j e0 e1 e2 e3 e4) := by rcases h with rfl | rfl | rfl | rfl | rfl <;> rfl
theorem own_len5 {e0 e1 e2 e3 e4 j : Int32} (h : j = (0 : Int32) ∨ j = (1 : Int32) ∨ j = (2 : Int32) ∨ j = (3 : Int32) ∨ j = (4 : Int32)) : j.toNatClampNeg < [Value.int e0, Value.int e1, Value.int e2, Value.int e3, Value.int e4].length := by rcases h with rfl | rfl | rfl | rfl | rfl <;> (show (_ : Nat) < 5; decide)
theorem own_set5 (j v e0 e1 e2 e3 e4 : Int32) (h : j = (0 : Int32) ∨ j = (1 : Int32) ∨ j = (2 : Int32) ∨ j = (3 : Int32) ∨ j = (4 : Int32)) : [Value.int e0, Value.int e1, Value.int e2, Value.int e3, Value.int e4].set j.toNatClampNeg (.int v) = [Value.int (if j = (0 : Int32) then v else e0), Value.int (if j = (1 : Int32) then v else e1), Value.int (if j = (2 : Int32) then v else e2), Value.int (if j = (3 : Int32) then v else e3), Value.int (if j = (4 : Int32) then v else e4)] := by rcases h with rfl | rfl | rfl | rfl | rfl <;> rfl

def own_sc (e0 e1 e2 e3 e4 b o : Int32) : Nat → Int32 → Int32
  | 0, _ => -1
  | k + 1, i => if own_el5 i e0 e1 e2 e3 e4 = b then i - o else own_sc e0 e1 e2 e3 e4 b o k (i + (1 : Int32))
theorem own_scs (e0 e1 e2 e3 e4 b o : Int32) (k : Nat) (i : Int32) : own_sc e0 e1 e2 e3 e4 b o (k + 1) i = if own_el5 i e0 e1 e2 e3 e4 = b then i - o else own_sc e0 e1 e2 e3 e4 b o k (i + (1 : Int32)) := rfl
def own_inv (s i : Int32) (k : Nat) : Prop := 0 ≤ i.toInt ∧ i.toInt + (k : Int) = s.toInt ∧ s.toInt ≤ 5
theorem own_lz {s i : Int32} (h : own_inv s i 0) : ¬ i < s := by
  have e := h.2.1
  rw [Int32.lt_iff_toInt_lt]; omega
theorem own_ls {s i : Int32} {k : Nat} (h : own_inv s i (k + 1)) : i < s := by
  have e := h.2.1
  rw [Int32.lt_iff_toInt_lt]; omega
theorem own_c5 {v : Int32} (h0 : 0 ≤ v.toInt) (h1 : v.toInt ≤ 4) : v = (0 : Int32) ∨ v = (1 : Int32) ∨ v = (2 : Int32) ∨ v = (3 : Int32) ∨ v = (4 : Int32) := by
  have : v.toInt = 0 ∨ v.toInt = 1 ∨ v.toInt = 2 ∨ v.toInt = 3 ∨ v.toInt = 4 := by omega
  rcases this with q | q | q | q | q
  · exact Or.inl (Int32.toInt_inj.mp q)
  · exact Or.inr (Or.inl (Int32.toInt_inj.mp q))
  · exact Or.inr (Or.inr (Or.inl (Int32.toInt_inj.mp q)))
  · exact Or.inr (Or.inr (Or.inr (Or.inl (Int32.toInt_inj.mp q))))
  · exact Or.inr (Or.inr (Or.inr (Or.inr (Int32.toInt_inj.mp q))))
theorem own_li {s i : Int32} {k : Nat} (h : own_inv s i (k + 1)) : i = (0 : Int32) ∨ i = (1 : Int32) ∨ i = (2 : Int32) ∨ i = (3 : Int32) ∨ i = (4 : Int32) := by
  obtain ⟨a, b, c⟩ := h
  exact own_c5 a (by omega)
theorem own_ln {s i : Int32} {k : Nat} (h : own_inv s i (k + 1)) : own_inv s (i + (1 : Int32)) k := by
  obtain ⟨a, b, c⟩ := h
  have d := c_iadd i 1
  have e : (1 : Int32).toInt = 1 := by decide
  have f := rng32 (i + 1)
  exact ⟨by omega, by omega, c⟩

theorem pn_0 : plainName "com/example/incipit/incipit/DataBytes" = true := by first | (simp [plainName, overriddenIn]; done) | decide +kernel
theorem d2_0 : decode prog_8_method_1_code 0 = .ok (.aload_n 0, 1) := by decide +kernel
theorem d2_1 : decode prog_8_method_1_code 1 = .ok (.invokespecial 1, 3) := by decide +kernel
theorem d2_4 : decode prog_8_method_1_code 4 = .ok (.aload_n 0, 1) := by decide +kernel
theorem d2_5 : decode prog_8_method_1_code 5 = .ok (.aload_n 1, 1) := by decide +kernel
theorem d2_6 : decode prog_8_method_1_code 6 = .ok (.putfield 7, 3) := by decide +kernel
theorem d2_9 : decode prog_8_method_1_code 9 = .ok (.aload_n 0, 1) := by decide +kernel
theorem d2_10 : decode prog_8_method_1_code 10 = .ok (.iload_n 2, 1) := by decide +kernel
theorem d2_11 : decode prog_8_method_1_code 11 = .ok (.putfield 13, 3) := by decide +kernel
theorem d2_14 : decode prog_8_method_1_code 14 = .ok (.aload_n 0, 1) := by decide +kernel
theorem d2_15 : decode prog_8_method_1_code 15 = .ok (.iload_n 3, 1) := by decide +kernel
theorem d2_16 : decode prog_8_method_1_code 16 = .ok (.putfield 17, 3) := by decide +kernel
theorem d2_19 : decode prog_8_method_1_code 19 = .ok (.return_, 1) := by decide +kernel
theorem ef_2 (m : MethodId) (x0 : Addr) (x1 : Addr) (x2 : Int32) (x3 : Int32) : entryFrame m #[(.ref x0), (.ref x1), (.int x2), (.int x3)] 4 = mkF m 0 #[.val (.ref x0), .val (.ref x1), .val (.int x2), .val (.int x3)] [] := by first | (simp [entryFrame, mkF, argsToLocals, Value.category]; done) | rfl
def Q2 (Z : State) (a : Addr) (x1 : Addr) (x2 : Int32) (x3 : Int32) (h0 : Heap) (n0 : Nat) (v : Option Value) (h : Heap) (L : List Loc) : Prop := v = none ∧ Fr n0 L ∧ Keep h0 h [a] ∧ Exa Z h a "com/example/incipit/incipit/DataBytes" ∧ Fld Z h a "com/example/incipit/incipit/DataBytes" "array" "[B" (.ref x1) ∧ Fld Z h a "com/example/incipit/incipit/DataBytes" "offset" "I" (.int x2) ∧ Fld Z h a "com/example/incipit/incipit/DataBytes" "length" "I" (.int x3)
set_option maxRecDepth 65536 in
set_option maxHeartbeats 40000000 in
theorem rm2 (l : Launch) (Z : State) (a0 : Array Value) (hw : ∀ d ∈ tables_1, d.before a0 Z = true) (ws : List Jvm.Cond) (a : Addr) (x1 : Addr) (x2 : Int32) (x3 : Int32) (h0 : Heap) (n0 : Nat) (Z0 : n0 ≤ h0.size) (Ea : Exa Z h0 a "com/example/incipit/incipit/DataBytes") (F_array : Fld Z h0 a "com/example/incipit/incipit/DataBytes" "array" "[B" .null) (F_offset : Fld Z h0 a "com/example/incipit/incipit/DataBytes" "offset" "I" (.int (0 : Int32))) (F_length : Fld Z h0 a "com/example/incipit/incipit/DataBytes" "length" "I" (.int (0 : Int32))) (ga : n0 ≤ a) :
    MetFree l (⟨"com/example/incipit/incipit/DataBytes", "<init>", "([BII)V"⟩ : MethodName) (head1 (Jvm.Cond.code (⟨"com/example/incipit/incipit/DataBytes", "<init>", "([BII)V"⟩ : MethodName) prog_8_method_1_code 4 none :: ws) ({ frames := 1, cells := 0, slots := 0, locals := 12 } : Room)) (fun aa U => aa = #[(.ref a), (.ref x1), (.int x2), (.int x3)] ∧ Z.Warmed39 U.vm ∧ U.heap = h0) (fun _ _ _ _ _ => True) (fun _ U o U' => ∃ v L, o = .returned v ∧ Q2 Z a x1 x2 x3 h0 n0 v U'.heap L ∧ FrameEnd U o U' L ({ frames := 1, cells := 0, slots := 0, locals := 12 } : Room).cells ({ frames := 1, cells := 0, slots := 0, locals := 12 } : Room).slots) := by
  refine MetFree.of_bodySF (plainFor_of_name pn_0) hisR ?_
  intro p e s m args below meth c s₁ Bd hml0 hP hK
  obtain ⟨rfl, hZ, hh⟩ := hP
  have hx := Bd.exec
  have hby := Bd.bytes
  have hml : c.maxLocals = 4 := hml0
  have hown : s.vm.findClass "com/example/incipit/incipit/DataBytes" = some m.cls := findClass_of_methodNamed Bd.named
  have hnm := (name_of_methodNamed Bd.named Bd.method).1
  have X0 : Stand p l e ({ frames := 1, cells := 0, slots := 0, locals := 12 } : Room) s m #[(.ref a), (.ref x1), (.int x2), (.int x3)] below meth c s₁ [] 0 0 := Stand.of_body Bd
  have e0 : s₁.heap = h0 := by rw [← hh, Bd.state]; rfl
  have N0 := Fr.nil n0
  have pre0 : ∀ t, Steps p.tables e below (s₁.setTop (mkF m 0 #[.val (.ref a), .val (.ref x1), .val (.int x2), .val (.int x3)] [])) t → Steps p.tables e below (s₁.setTop (entryFrame m #[(.ref a), (.ref x1), (.int x2), (.int x3)] 4)) t := fun t k => castTop (ef_2 m a x1 x2 x3) k
  have pre1 : ∀ t, Steps p.tables e below (s₁.setTop (mkF m 1 #[.val (.ref a), .val (.ref x1), .val (.int x2), .val (.int x3)] [(.ref a)])) t → Steps p.tables e below (s₁.setTop (entryFrame m #[(.ref a), (.ref x1), (.int x2), (.int x3)] 4)) t := fun t k => pre0 t (by
    show Steps p.tables e below (s₁.setTop (mkF m 0 #[.val (.ref a), .val (.ref x1), .val (.int x2), .val (.int x3)] [])) _
    refine XS.aloadN X0.here hx rfl (hb hby d2_0) rfl rfl ?_
    show Steps p.tables e below (s₁.setTop (mkF m 1 #[.val (.ref a), .val (.ref x1), .val (.int x2), .val (.int x3)] [(.ref a)])) _
    exact k)
  obtain ⟨T2, X2, e2, st2⟩ := initO X0 hx hZ hown (hw _ (List.mem_of_getElem? (i := 12) rfl)) (hw _ (List.mem_of_getElem? (i := 13) rfl)) (hw _ (List.mem_of_getElem? (i := 14) rfl)) e0 (g := (mkF m 1 #[.val (.ref a), .val (.ref x1), .val (.int x2), .val (.int x3)] [(.ref a)])) rfl (by rw [hml]; rfl) rfl (hb hby d2_1) (by decide) (W := 0) (by show 2 * 0 + _ ≤ _; exact Nat.le_of_eq rfl) (by decide)
  have pre3 : ∀ t, Steps p.tables e below (T2.setTop (mkF m 4 #[.val (.ref a), .val (.ref x1), .val (.int x2), .val (.int x3)] [])) t → Steps p.tables e below (s₁.setTop (entryFrame m #[(.ref a), (.ref x1), (.int x2), (.int x3)] 4)) t := fun t k => pre1 t (st2 _ k)
  have pre4 : ∀ t, Steps p.tables e below (T2.setTop (mkF m 6 #[.val (.ref a), .val (.ref x1), .val (.int x2), .val (.int x3)] [(.ref x1), (.ref a)])) t → Steps p.tables e below (s₁.setTop (entryFrame m #[(.ref a), (.ref x1), (.int x2), (.int x3)] 4)) t := fun t k => pre3 t (by
    show Steps p.tables e below (T2.setTop (mkF m 4 #[.val (.ref a), .val (.ref x1), .val (.int x2), .val (.int x3)] [])) _
    refine XS.aloadN X2.here hx rfl (hb hby d2_4) rfl rfl ?_
    show Steps p.tables e below (T2.setTop (mkF m 5 #[.val (.ref a), .val (.ref x1), .val (.int x2), .val (.int x3)] [(.ref a)])) _
    refine XS.aloadN X2.here hx rfl (hb hby d2_5) rfl rfl ?_
    show Steps p.tables e below (T2.setTop (mkF m 6 #[.val (.ref a), .val (.ref x1), .val (.int x2), .val (.int x3)] [(.ref x1), (.ref a)])) _
    exact k)
  obtain ⟨T5, h5, X5, e5, W5, st5⟩ := putF X2 hx hZ hown (host := "") (Or.inl (hw _ (List.mem_of_getElem? (i := 15) rfl))) Via.refl e2 F_array Ea (Or.inr ⟨(hw _ (List.mem_of_getElem? (i := 16) rfl)), rfl, hnm⟩) (hw _ (List.mem_of_getElem? (i := 7) rfl)) (ty := (.array .byte)) (by decide) rfl rfl (g := (mkF m 6 #[.val (.ref a), .val (.ref x1), .val (.int x2), .val (.int x3)] [(.ref x1), (.ref a)])) rfl rfl (hb hby d2_6)
  have Fw5 : Fld Z h5 a "com/example/incipit/incipit/DataBytes" "array" "[B" (.ref x1) := (F_array).same W5
  have c6 := (Ea).wr W5
  have c8 := (F_offset).other W5 (Or.inr (slot_ne (Or.inr (hw _ (List.mem_of_getElem? (i := 18) rfl))) (Or.inr (hw _ (List.mem_of_getElem? (i := 16) rfl))) (by decide) (t := .int) (t' := (.array .byte)) (by decide) (by decide)))
  have c9 := (F_length).other W5 (Or.inr (slot_ne (Or.inr (hw _ (List.mem_of_getElem? (i := 20) rfl))) (Or.inr (hw _ (List.mem_of_getElem? (i := 16) rfl))) (by decide) (t := .int) (t' := (.array .byte)) (by decide) (by decide)))
  have N5 := Fr.snoc X5 N0 ga
  have Zz5 : n0 ≤ h5.size := Nat.le_trans Z0 (Keep.of_wr W5).1
  have pre10 : ∀ t, Steps p.tables e below (T5.setTop (mkF m 9 #[.val (.ref a), .val (.ref x1), .val (.int x2), .val (.int x3)] [])) t → Steps p.tables e below (s₁.setTop (entryFrame m #[(.ref a), (.ref x1), (.int x2), (.int x3)] 4)) t := fun t k => pre4 t (st5 _ k)
  have Kp5 : Keep h0 h5 [a] := ((Keep.refl h0 [a])).wr W5 (Or.inl (List.mem_of_getElem? (i := 0) rfl))
  have pre11 : ∀ t, Steps p.tables e below (T5.setTop (mkF m 11 #[.val (.ref a), .val (.ref x1), .val (.int x2), .val (.int x3)] [(.int x2), (.ref a)])) t → Steps p.tables e below (s₁.setTop (entryFrame m #[(.ref a), (.ref x1), (.int x2), (.int x3)] 4)) t := fun t k => pre10 t (by
    show Steps p.tables e below (T5.setTop (mkF m 9 #[.val (.ref a), .val (.ref x1), .val (.int x2), .val (.int x3)] [])) _
    refine XS.aloadN X5.here hx rfl (hb hby d2_9) rfl rfl ?_
    show Steps p.tables e below (T5.setTop (mkF m 10 #[.val (.ref a), .val (.ref x1), .val (.int x2), .val (.int x3)] [(.ref a)])) _
    refine XS.iloadN X5.here hx rfl (hb hby d2_10) rfl ?_
    show Steps p.tables e below (T5.setTop (mkF m 11 #[.val (.ref a), .val (.ref x1), .val (.int x2), .val (.int x3)] [(.int x2), (.ref a)])) _
    exact k)
  obtain ⟨T12, h12, X12, e12, W12, st12⟩ := putF X5 hx hZ hown (host := "") (Or.inl (hw _ (List.mem_of_getElem? (i := 17) rfl))) Via.refl e5 c8 c6 (Or.inr ⟨(hw _ (List.mem_of_getElem? (i := 18) rfl)), rfl, hnm⟩) (hw _ (List.mem_of_getElem? (i := 7) rfl)) (ty := .int) (by decide) rfl rfl (g := (mkF m 11 #[.val (.ref a), .val (.ref x1), .val (.int x2), .val (.int x3)] [(.int x2), (.ref a)])) rfl rfl (hb hby d2_11)
  have Fw12 : Fld Z h12 a "com/example/incipit/incipit/DataBytes" "offset" "I" (.int x2) := (c8).same W12
  have c13 := (c6).wr W12
  have c15 := (c9).other W12 (Or.inr (slot_ne (Or.inr (hw _ (List.mem_of_getElem? (i := 20) rfl))) (Or.inr (hw _ (List.mem_of_getElem? (i := 18) rfl))) (by decide) (t := .int) (t' := .int) (by decide) (by decide)))
  have c16 := (Fw5).other W12 (Or.inr (slot_ne (Or.inr (hw _ (List.mem_of_getElem? (i := 16) rfl))) (Or.inr (hw _ (List.mem_of_getElem? (i := 18) rfl))) (by decide) (t := (.array .byte)) (t' := .int) (by decide) (by decide)))
  have N12 := Fr.snoc X12 N5 ga
  have Zz12 : n0 ≤ h12.size := Nat.le_trans Zz5 (Keep.of_wr W12).1
  have pre17 : ∀ t, Steps p.tables e below (T12.setTop (mkF m 14 #[.val (.ref a), .val (.ref x1), .val (.int x2), .val (.int x3)] [])) t → Steps p.tables e below (s₁.setTop (entryFrame m #[(.ref a), (.ref x1), (.int x2), (.int x3)] 4)) t := fun t k => pre11 t (st12 _ k)
  have Kp12 : Keep h0 h12 [a] := (Kp5).wr W12 (Or.inl (List.mem_of_getElem? (i := 0) rfl))
  have pre18 : ∀ t, Steps p.tables e below (T12.setTop (mkF m 16 #[.val (.ref a), .val (.ref x1), .val (.int x2), .val (.int x3)] [(.int x3), (.ref a)])) t → Steps p.tables e below (s₁.setTop (entryFrame m #[(.ref a), (.ref x1), (.int x2), (.int x3)] 4)) t := fun t k => pre17 t (by
    show Steps p.tables e below (T12.setTop (mkF m 14 #[.val (.ref a), .val (.ref x1), .val (.int x2), .val (.int x3)] [])) _
    refine XS.aloadN X12.here hx rfl (hb hby d2_14) rfl rfl ?_
    show Steps p.tables e below (T12.setTop (mkF m 15 #[.val (.ref a), .val (.ref x1), .val (.int x2), .val (.int x3)] [(.ref a)])) _
    refine XS.iloadN X12.here hx rfl (hb hby d2_15) rfl ?_
    show Steps p.tables e below (T12.setTop (mkF m 16 #[.val (.ref a), .val (.ref x1), .val (.int x2), .val (.int x3)] [(.int x3), (.ref a)])) _
    exact k)
  obtain ⟨T19, h19, X19, e19, W19, st19⟩ := putF X12 hx hZ hown (host := "") (Or.inl (hw _ (List.mem_of_getElem? (i := 19) rfl))) Via.refl e12 c15 c13 (Or.inr ⟨(hw _ (List.mem_of_getElem? (i := 20) rfl)), rfl, hnm⟩) (hw _ (List.mem_of_getElem? (i := 7) rfl)) (ty := .int) (by decide) rfl rfl (g := (mkF m 16 #[.val (.ref a), .val (.ref x1), .val (.int x2), .val (.int x3)] [(.int x3), (.ref a)])) rfl rfl (hb hby d2_16)
  have Fw19 : Fld Z h19 a "com/example/incipit/incipit/DataBytes" "length" "I" (.int x3) := (c15).same W19
  have c20 := (c13).wr W19
  have c22 := (c16).other W19 (Or.inr (slot_ne (Or.inr (hw _ (List.mem_of_getElem? (i := 16) rfl))) (Or.inr (hw _ (List.mem_of_getElem? (i := 20) rfl))) (by decide) (t := (.array .byte)) (t' := .int) (by decide) (by decide)))
  have c23 := (Fw12).other W19 (Or.inr (slot_ne (Or.inr (hw _ (List.mem_of_getElem? (i := 18) rfl))) (Or.inr (hw _ (List.mem_of_getElem? (i := 20) rfl))) (by decide) (t := .int) (t' := .int) (by decide) (by decide)))
  have N19 := Fr.snoc X19 N12 ga
  have Zz19 : n0 ≤ h19.size := Nat.le_trans Zz12 (Keep.of_wr W19).1
  have pre24 : ∀ t, Steps p.tables e below (T19.setTop (mkF m 19 #[.val (.ref a), .val (.ref x1), .val (.int x2), .val (.int x3)] [])) t → Steps p.tables e below (s₁.setTop (entryFrame m #[(.ref a), (.ref x1), (.int x2), (.int x3)] 4)) t := fun t k => pre18 t (st19 _ k)
  have Kp19 : Keep h0 h19 [a] := (Kp12).wr W19 (Or.inl (List.mem_of_getElem? (i := 0) rfl))
  obtain ⟨fs, hr, hrun, hended, hW, hsame⟩ := X19.leave (v := none) (fun _ => rfl)
  refine ⟨_, _, pre24 _ ?_, hrun, hended, _, _, rfl, ?_, ⟨_, rfl⟩, hW, hsame.mono (by decide) (by decide)⟩
  · show Steps p.tables e below (T19.setTop (mkF m 19 #[.val (.ref a), .val (.ref x1), .val (.int x2), .val (.int x3)] [])) _
    exact X19.returnOut hx Bd.returns (hb hby d2_19) hr
  · show Q2 Z a x1 x2 x3 h0 n0 _ T19.heap _
    rw [e19]
    exact ⟨rfl, N19, Kp19, c20, c22, c23, Fw19⟩
def F1 (x0 : Int64) (x1 : Int32) (x2 : Int32) (x3 : Int32) : Int32 := (if (((x1.toUInt32 >>> (x3 &&& 31).toUInt32).toInt32) &&& (1 : Int32)) = (0 : Int32) then (nar .byte ((((x0.toUInt64 >>> (((8 : Int32) * x3) &&& 0x3f).toInt64.toUInt64).toInt64).toInt32).toInt8.toInt32)) else (nar .byte x2))
theorem pn_1 : plainName "com/example/incipit/incipit/DataBytesIndexOfPinLaw" = true := by first | (simp [plainName, overriddenIn]; done) | decide +kernel
theorem d1_0 : decode method_3_code 0 = .ok (.iload_n 2, 1) := by decide +kernel
theorem d1_1 : decode method_3_code 1 = .ok (.iload 4, 2) := by decide +kernel
theorem d1_3 : decode method_3_code 3 = .ok (.iushr, 1) := by decide +kernel
theorem d1_4 : decode method_3_code 4 = .ok (.iconst 1, 1) := by decide +kernel
theorem d1_5 : decode method_3_code 5 = .ok (.iand, 1) := by decide +kernel
theorem d1_6 : decode method_3_code 6 = .ok (.ifCond .eq 5, 3) := by decide +kernel
theorem d1_9 : decode method_3_code 9 = .ok (.iload_n 3, 1) := by decide +kernel
theorem d1_10 : decode method_3_code 10 = .ok (.ireturn, 1) := by decide +kernel
theorem d1_11 : decode method_3_code 11 = .ok (.lload_n 0, 1) := by decide +kernel
theorem d1_12 : decode method_3_code 12 = .ok (.bipush 8, 2) := by decide +kernel
theorem d1_14 : decode method_3_code 14 = .ok (.iload 4, 2) := by decide +kernel
theorem d1_16 : decode method_3_code 16 = .ok (.imul, 1) := by decide +kernel
theorem d1_17 : decode method_3_code 17 = .ok (.lushr, 1) := by decide +kernel
theorem d1_18 : decode method_3_code 18 = .ok (.l2i, 1) := by decide +kernel
theorem d1_19 : decode method_3_code 19 = .ok (.i2b, 1) := by decide +kernel
theorem d1_20 : decode method_3_code 20 = .ok (.ireturn, 1) := by decide +kernel
theorem ef_1 (m : MethodId) (x0 : Int64) (x1 : Int32) (x2 : Int32) (x3 : Int32) : entryFrame m #[(.long x0), (.int x1), (.int x2), (.int x3)] 5 = mkF m 0 #[.val (.long x0), .second, .val (.int x1), .val (.int x2), .val (.int x3)] [] := by first | (simp [entryFrame, mkF, argsToLocals, Value.category]; done) | rfl
def Q1 (Z : State) (x0 : Int64) (x1 : Int32) (x2 : Int32) (x3 : Int32) (h0 : Heap) (n0 : Nat) (v : Option Value) (h : Heap) (L : List Loc) : Prop := ∃ z : Int32, v = some (.int z) ∧ Fr n0 L ∧ h = h0 ∧ z = F1 x0 x1 x2 x3
set_option maxRecDepth 65536 in
set_option maxHeartbeats 40000000 in
theorem rm1 (l : Launch) (Z : State) (a0 : Array Value) (hw : ∀ d ∈ tables_1, d.before a0 Z = true) (ws : List Jvm.Cond) (x0 : Int64) (x1 : Int32) (x2 : Int32) (x3 : Int32) (h0 : Heap) (n0 : Nat) (Z0 : n0 ≤ h0.size) :
    MetFree l (⟨"com/example/incipit/incipit/DataBytesIndexOfPinLaw", "pick", "(JIBI)B"⟩ : MethodName) (head1 (Jvm.Cond.code (⟨"com/example/incipit/incipit/DataBytesIndexOfPinLaw", "pick", "(JIBI)B"⟩ : MethodName) method_3_code 5 (some .byte) :: ws) ({ frames := 0, cells := 0, slots := 0, locals := 0 } : Room)) (fun aa U => aa = #[(.long x0), (.int x1), (.int x2), (.int x3)] ∧ Z.Warmed39 U.vm ∧ U.heap = h0) (fun _ _ _ _ _ => True) (fun _ U o U' => ∃ v L, o = .returned v ∧ Q1 Z x0 x1 x2 x3 h0 n0 v U'.heap L ∧ FrameEnd U o U' L ({ frames := 0, cells := 0, slots := 0, locals := 0 } : Room).cells ({ frames := 0, cells := 0, slots := 0, locals := 0 } : Room).slots) := by
  refine MetFree.of_bodySF (plainFor_of_name pn_1) hisR ?_
  intro p e s m args below meth c s₁ Bd hml0 hP hK
  obtain ⟨rfl, hZ, hh⟩ := hP
  have hx := Bd.exec
  have hby := Bd.bytes
  have hml : c.maxLocals = 5 := hml0
  have hown : s.vm.findClass "com/example/incipit/incipit/DataBytesIndexOfPinLaw" = some m.cls := findClass_of_methodNamed Bd.named
  have hnm := (name_of_methodNamed Bd.named Bd.method).1
  have X0 : Stand p l e ({ frames := 0, cells := 0, slots := 0, locals := 0 } : Room) s m #[(.long x0), (.int x1), (.int x2), (.int x3)] below meth c s₁ [] 0 0 := Stand.of_body Bd
  have e0 : s₁.heap = h0 := by rw [← hh, Bd.state]; rfl
  have N0 := Fr.nil n0
  have pre0 : ∀ t, Steps p.tables e below (s₁.setTop (mkF m 0 #[.val (.long x0), .second, .val (.int x1), .val (.int x2), .val (.int x3)] [])) t → Steps p.tables e below (s₁.setTop (entryFrame m #[(.long x0), (.int x1), (.int x2), (.int x3)] 5)) t := fun t k => castTop (ef_1 m x0 x1 x2 x3) k
  have pre1 : ∀ t, Steps p.tables e below (s₁.setTop (mkF m 6 #[.val (.long x0), .second, .val (.int x1), .val (.int x2), .val (.int x3)] [(.int (((x1.toUInt32 >>> (x3 &&& 31).toUInt32).toInt32) &&& (1 : Int32)))])) t → Steps p.tables e below (s₁.setTop (entryFrame m #[(.long x0), (.int x1), (.int x2), (.int x3)] 5)) t := fun t k => pre0 t (by
    show Steps p.tables e below (s₁.setTop (mkF m 0 #[.val (.long x0), .second, .val (.int x1), .val (.int x2), .val (.int x3)] [])) _
    refine XS.iloadN X0.here hx rfl (hb hby d1_0) rfl ?_
    show Steps p.tables e below (s₁.setTop (mkF m 1 #[.val (.long x0), .second, .val (.int x1), .val (.int x2), .val (.int x3)] [(.int x1)])) _
    refine XS.iload X0.here hx rfl (hb hby d1_1) rfl ?_
    show Steps p.tables e below (s₁.setTop (mkF m 3 #[.val (.long x0), .second, .val (.int x1), .val (.int x2), .val (.int x3)] [(.int x3), (.int x1)])) _
    refine XS.iushr X0.here hx rfl (hb hby d1_3) rfl ?_
    show Steps p.tables e below (s₁.setTop (mkF m 4 #[.val (.long x0), .second, .val (.int x1), .val (.int x2), .val (.int x3)] [(.int ((x1.toUInt32 >>> (x3 &&& 31).toUInt32).toInt32))])) _
    refine XS.iconst X0.here hx rfl (hb hby d1_4) ?_
    show Steps p.tables e below (s₁.setTop (mkF m 5 #[.val (.long x0), .second, .val (.int x1), .val (.int x2), .val (.int x3)] [(.int (1 : Int32)), (.int ((x1.toUInt32 >>> (x3 &&& 31).toUInt32).toInt32))])) _
    refine XS.iand X0.here hx rfl (hb hby d1_5) rfl ?_
    show Steps p.tables e below (s₁.setTop (mkF m 6 #[.val (.long x0), .second, .val (.int x1), .val (.int x2), .val (.int x3)] [(.int (((x1.toUInt32 >>> (x3 &&& 31).toUInt32).toInt32) &&& (1 : Int32)))])) _
    exact k)
  by_cases hc2 : (((x1.toUInt32 >>> (x3 &&& 31).toUInt32).toInt32) &&& (1 : Int32)) = (0 : Int32)
  · skip
    have pre3 : ∀ t, Steps p.tables e below (s₁.setTop (mkF m 20 #[.val (.long x0), .second, .val (.int x1), .val (.int x2), .val (.int x3)] [(.int ((((x0.toUInt64 >>> (((8 : Int32) * x3) &&& 0x3f).toInt64.toUInt64).toInt64).toInt32).toInt8.toInt32))])) t → Steps p.tables e below (s₁.setTop (entryFrame m #[(.long x0), (.int x1), (.int x2), (.int x3)] 5)) t := fun t k => pre1 t (by
      show Steps p.tables e below (s₁.setTop (mkF m 6 #[.val (.long x0), .second, .val (.int x1), .val (.int x2), .val (.int x3)] [(.int (((x1.toUInt32 >>> (x3 &&& 31).toUInt32).toInt32) &&& (1 : Int32)))])) _
      refine XS.ifYes X0.here hx rfl (pc0 := 6) (pc' := 11) rfl (hb hby d1_6) rfl ((if0 _ _).trans (teq hc2).1) (by decide) (by decide) ?_
      show Steps p.tables e below (s₁.setTop (mkF m 11 #[.val (.long x0), .second, .val (.int x1), .val (.int x2), .val (.int x3)] [])) _
      refine XS.lloadN X0.here hx rfl (hb hby d1_11) rfl ?_
      show Steps p.tables e below (s₁.setTop (mkF m 12 #[.val (.long x0), .second, .val (.int x1), .val (.int x2), .val (.int x3)] [(.long x0)])) _
      refine XS.bipush X0.here hx rfl (hb hby d1_12) ?_
      show Steps p.tables e below (s₁.setTop (mkF m 14 #[.val (.long x0), .second, .val (.int x1), .val (.int x2), .val (.int x3)] [(.int (8 : Int32)), (.long x0)])) _
      refine XS.iload X0.here hx rfl (hb hby d1_14) rfl ?_
      show Steps p.tables e below (s₁.setTop (mkF m 16 #[.val (.long x0), .second, .val (.int x1), .val (.int x2), .val (.int x3)] [(.int x3), (.int (8 : Int32)), (.long x0)])) _
      refine XS.imul X0.here hx rfl (hb hby d1_16) rfl ?_
      show Steps p.tables e below (s₁.setTop (mkF m 17 #[.val (.long x0), .second, .val (.int x1), .val (.int x2), .val (.int x3)] [(.int ((8 : Int32) * x3)), (.long x0)])) _
      refine XS.lushr X0.here hx rfl (hb hby d1_17) rfl ?_
      show Steps p.tables e below (s₁.setTop (mkF m 18 #[.val (.long x0), .second, .val (.int x1), .val (.int x2), .val (.int x3)] [(.long ((x0.toUInt64 >>> (((8 : Int32) * x3) &&& 0x3f).toInt64.toUInt64).toInt64))])) _
      refine XS.l2i X0.here hx rfl (hb hby d1_18) rfl ?_
      show Steps p.tables e below (s₁.setTop (mkF m 19 #[.val (.long x0), .second, .val (.int x1), .val (.int x2), .val (.int x3)] [(.int (((x0.toUInt64 >>> (((8 : Int32) * x3) &&& 0x3f).toInt64.toUInt64).toInt64).toInt32))])) _
      refine XS.i2b X0.here hx rfl (hb hby d1_19) rfl ?_
      show Steps p.tables e below (s₁.setTop (mkF m 20 #[.val (.long x0), .second, .val (.int x1), .val (.int x2), .val (.int x3)] [(.int ((((x0.toUInt64 >>> (((8 : Int32) * x3) &&& 0x3f).toInt64.toUInt64).toInt64).toInt32).toInt8.toInt32))])) _
      exact k)
    obtain ⟨fs, hr, hrun, hended, hW, hsame⟩ := X0.leave (v := some (.int (nar .byte ((((x0.toUInt64 >>> (((8 : Int32) * x3) &&& 0x3f).toInt64.toUInt64).toInt64).toInt32).toInt8.toInt32)))) (fun h => by rw [Bd.returns] at h; cases h)
    refine ⟨_, _, pre3 _ ?_, hrun, hended, _, _, rfl, ?_, ⟨_, rfl⟩, hW, hsame.mono (by decide) (by decide)⟩
    · show Steps p.tables e below (s₁.setTop (mkF m 20 #[.val (.long x0), .second, .val (.int x1), .val (.int x2), .val (.int x3)] [(.int ((((x0.toUInt64 >>> (((8 : Int32) * x3) &&& 0x3f).toInt64.toUInt64).toInt64).toInt32).toInt8.toInt32))])) _
      exact retN X0 hx (t := .byte) Bd.returns (by simp) (hb hby d1_20) hr
    · show Q1 Z x0 x1 x2 x3 h0 n0 _ s₁.heap _
      rw [e0]
      exact ⟨_, rfl, N0, rfl, by rw [F1, if_pos hc2]⟩
  · skip
    have pre4 : ∀ t, Steps p.tables e below (s₁.setTop (mkF m 10 #[.val (.long x0), .second, .val (.int x1), .val (.int x2), .val (.int x3)] [(.int x2)])) t → Steps p.tables e below (s₁.setTop (entryFrame m #[(.long x0), (.int x1), (.int x2), (.int x3)] 5)) t := fun t k => pre1 t (by
      show Steps p.tables e below (s₁.setTop (mkF m 6 #[.val (.long x0), .second, .val (.int x1), .val (.int x2), .val (.int x3)] [(.int (((x1.toUInt32 >>> (x3 &&& 31).toUInt32).toInt32) &&& (1 : Int32)))])) _
      refine XS.ifNo X0.here hx rfl (hb hby d1_6) rfl ((if0 _ _).trans (feq hc2).1) ?_
      show Steps p.tables e below (s₁.setTop (mkF m 9 #[.val (.long x0), .second, .val (.int x1), .val (.int x2), .val (.int x3)] [])) _
      refine XS.iloadN X0.here hx rfl (hb hby d1_9) rfl ?_
      show Steps p.tables e below (s₁.setTop (mkF m 10 #[.val (.long x0), .second, .val (.int x1), .val (.int x2), .val (.int x3)] [(.int x2)])) _
      exact k)
    obtain ⟨fs, hr, hrun, hended, hW, hsame⟩ := X0.leave (v := some (.int (nar .byte x2))) (fun h => by rw [Bd.returns] at h; cases h)
    refine ⟨_, _, pre4 _ ?_, hrun, hended, _, _, rfl, ?_, ⟨_, rfl⟩, hW, hsame.mono (by decide) (by decide)⟩
    · show Steps p.tables e below (s₁.setTop (mkF m 10 #[.val (.long x0), .second, .val (.int x1), .val (.int x2), .val (.int x3)] [(.int x2)])) _
      exact retN X0 hx (t := .byte) Bd.returns (by simp) (hb hby d1_10) hr
    · show Q1 Z x0 x1 x2 x3 h0 n0 _ s₁.heap _
      rw [e0]
      exact ⟨_, rfl, N0, rfl, by rw [F1, if_neg hc2]⟩
theorem d4_0 : decode prog_8_method_5_code 0 = .ok (.aload_n 0, 1) := by decide +kernel
theorem d4_1 : decode prog_8_method_5_code 1 = .ok (.getfield 13, 3) := by decide +kernel
theorem d4_4 : decode prog_8_method_5_code 4 = .ok (.iload_n 2, 1) := by decide +kernel
theorem d4_5 : decode prog_8_method_5_code 5 = .ok (.iadd, 1) := by decide +kernel
theorem d4_6 : decode prog_8_method_5_code 6 = .ok (.istore_n 3, 1) := by decide +kernel
theorem d4_7 : decode prog_8_method_5_code 7 = .ok (.iload_n 3, 1) := by decide +kernel
theorem d4_8 : decode prog_8_method_5_code 8 = .ok (.aload_n 0, 1) := by decide +kernel
theorem d4_9 : decode prog_8_method_5_code 9 = .ok (.getfield 13, 3) := by decide +kernel
theorem d4_12 : decode prog_8_method_5_code 12 = .ok (.aload_n 0, 1) := by decide +kernel
theorem d4_13 : decode prog_8_method_5_code 13 = .ok (.getfield 17, 3) := by decide +kernel
theorem d4_16 : decode prog_8_method_5_code 16 = .ok (.iadd, 1) := by decide +kernel
theorem d4_17 : decode prog_8_method_5_code 17 = .ok (.if_icmp .ge 26, 3) := by decide +kernel
theorem d4_20 : decode prog_8_method_5_code 20 = .ok (.aload_n 0, 1) := by decide +kernel
theorem d4_21 : decode prog_8_method_5_code 21 = .ok (.getfield 7, 3) := by decide +kernel
theorem d4_24 : decode prog_8_method_5_code 24 = .ok (.iload_n 3, 1) := by decide +kernel
theorem d4_25 : decode prog_8_method_5_code 25 = .ok (.baload, 1) := by decide +kernel
theorem d4_26 : decode prog_8_method_5_code 26 = .ok (.iload_n 1, 1) := by decide +kernel
theorem d4_27 : decode prog_8_method_5_code 27 = .ok (.if_icmp .ne 10, 3) := by decide +kernel
theorem d4_30 : decode prog_8_method_5_code 30 = .ok (.iload_n 3, 1) := by decide +kernel
theorem d4_31 : decode prog_8_method_5_code 31 = .ok (.aload_n 0, 1) := by decide +kernel
theorem d4_32 : decode prog_8_method_5_code 32 = .ok (.getfield 13, 3) := by decide +kernel
theorem d4_35 : decode prog_8_method_5_code 35 = .ok (.isub, 1) := by decide +kernel
theorem d4_36 : decode prog_8_method_5_code 36 = .ok (.ireturn, 1) := by decide +kernel
theorem d4_37 : decode prog_8_method_5_code 37 = .ok (.iinc 3 1, 3) := by decide +kernel
theorem d4_40 : decode prog_8_method_5_code 40 = .ok (.goto (-33), 3) := by decide +kernel
theorem d4_43 : decode prog_8_method_5_code 43 = .ok (.iconst (-1), 1) := by decide +kernel
theorem d4_44 : decode prog_8_method_5_code 44 = .ok (.ireturn, 1) := by decide +kernel
theorem ef_4 (m : MethodId) (x0 : Addr) (x1 : Int32) (x2 : Int32) : entryFrame m #[(.ref x0), (.int x1), (.int x2)] 4 = mkF m 0 #[.val (.ref x0), .val (.int x1), .val (.int x2), .unset] [] := by first | (simp [entryFrame, mkF, argsToLocals, Value.category]; done) | rfl
def Q4 (Z : State) (a : Addr) (x1 : Int32) (x2 : Int32) (ba : Addr) (kb : ClassId) (uo : Int32) (ul : Int32) (d0 : Int32) (d1 : Int32) (d2 : Int32) (d3 : Int32) (d4 : Int32) (h0 : Heap) (n0 : Nat) (v : Option Value) (h : Heap) (L : List Loc) : Prop := ∃ z : Int32, v = some (.int z) ∧ Fr n0 L ∧ h = h0 ∧ z = own_sc d0 d1 d2 d3 d4 x1 uo (ul.toInt.toNat - x2.toInt.toNat) (uo + x2)
set_option maxRecDepth 65536 in
set_option maxHeartbeats 40000000 in
theorem rm4 (l : Launch) (Z : State) (a0 : Array Value) (hw : ∀ d ∈ tables_1, d.before a0 Z = true) (ws : List Jvm.Cond) (a : Addr) (x1 : Int32) (x2 : Int32) (ba : Addr) (kb : ClassId) (uo : Int32) (ul : Int32) (d0 : Int32) (d1 : Int32) (d2 : Int32) (d3 : Int32) (d4 : Int32) (h0 : Heap) (n0 : Nat) (Z0 : n0 ≤ h0.size) (F_array : Fld Z h0 a "com/example/incipit/incipit/DataBytes" "array" "[B" (.ref ba)) (F_offset : Fld Z h0 a "com/example/incipit/incipit/DataBytes" "offset" "I" (.int uo)) (F_length : Fld Z h0 a "com/example/incipit/incipit/DataBytes" "length" "I" (.int ul)) (V_ba : Arv Z h0 ba kb .byte (5 : Int32) [(.int d0), (.int d1), (.int d2), (.int d3), (.int d4)] (.int (0 : Int32))) (qs : own_inv (uo + ul) (uo + x2) (ul.toInt.toNat - x2.toInt.toNat)) :
    MetFree l (⟨"com/example/incipit/incipit/DataBytes", "indexOf", "(BI)I"⟩ : MethodName) (head1 (Jvm.Cond.code (⟨"com/example/incipit/incipit/DataBytes", "indexOf", "(BI)I"⟩ : MethodName) prog_8_method_5_code 4 (some .int) :: ws) ({ frames := 0, cells := 0, slots := 0, locals := 0 } : Room)) (fun aa U => aa = #[(.ref a), (.int x1), (.int x2)] ∧ Z.Warmed39 U.vm ∧ U.heap = h0) (fun _ _ _ _ _ => True) (fun _ U o U' => ∃ v L, o = .returned v ∧ Q4 Z a x1 x2 ba kb uo ul d0 d1 d2 d3 d4 h0 n0 v U'.heap L ∧ FrameEnd U o U' L ({ frames := 0, cells := 0, slots := 0, locals := 0 } : Room).cells ({ frames := 0, cells := 0, slots := 0, locals := 0 } : Room).slots) := by
  refine MetFree.of_bodySF (plainFor_of_name pn_0) hisR ?_
  intro p e s m args below meth c s₁ Bd hml0 hP hK
  obtain ⟨rfl, hZ, hh⟩ := hP
  have hx := Bd.exec
  have hby := Bd.bytes
  have hml : c.maxLocals = 4 := hml0
  have hown : s.vm.findClass "com/example/incipit/incipit/DataBytes" = some m.cls := findClass_of_methodNamed Bd.named
  have hnm := (name_of_methodNamed Bd.named Bd.method).1
  have X0 : Stand p l e ({ frames := 0, cells := 0, slots := 0, locals := 0 } : Room) s m #[(.ref a), (.int x1), (.int x2)] below meth c s₁ [] 0 0 := Stand.of_body Bd
  have e0 : s₁.heap = h0 := by rw [← hh, Bd.state]; rfl
  have N0 := Fr.nil n0
  have pre0 : ∀ t, Steps p.tables e below (s₁.setTop (mkF m 0 #[.val (.ref a), .val (.int x1), .val (.int x2), .unset] [])) t → Steps p.tables e below (s₁.setTop (entryFrame m #[(.ref a), (.int x1), (.int x2)] 4)) t := fun t k => castTop (ef_4 m a x1 x2) k
  have pre1 : ∀ t, Steps p.tables e below (s₁.setTop (mkF m 1 #[.val (.ref a), .val (.int x1), .val (.int x2), .unset] [(.ref a)])) t → Steps p.tables e below (s₁.setTop (entryFrame m #[(.ref a), (.int x1), (.int x2)] 4)) t := fun t k => pre0 t (by
    show Steps p.tables e below (s₁.setTop (mkF m 0 #[.val (.ref a), .val (.int x1), .val (.int x2), .unset] [])) _
    refine XS.aloadN X0.here hx rfl (hb hby d4_0) rfl rfl ?_
    show Steps p.tables e below (s₁.setTop (mkF m 1 #[.val (.ref a), .val (.int x1), .val (.int x2), .unset] [(.ref a)])) _
    exact k)
  obtain ⟨T2, X2, e2, st2⟩ := getF X0 hx hZ hown (host := "") (Or.inl (hw _ (List.mem_of_getElem? (i := 17) rfl))) Via.refl e0 F_offset (g := (mkF m 1 #[.val (.ref a), .val (.int x1), .val (.int x2), .unset] [(.ref a)])) rfl rfl (hb hby d4_1)
  have pre3 : ∀ t, Steps p.tables e below (T2.setTop (mkF m 4 #[.val (.ref a), .val (.int x1), .val (.int x2), .unset] [(.int uo)])) t → Steps p.tables e below (s₁.setTop (entryFrame m #[(.ref a), (.int x1), (.int x2)] 4)) t := fun t k => pre1 t (st2 _ k)
  obtain ⟨v4, hv4⟩ : ∃ z : Int32, z = (uo + x2) := ⟨_, rfl⟩
  have pre5 : ∀ t, Steps p.tables e below (T2.setTop (mkF m 7 #[.val (.ref a), .val (.int x1), .val (.int x2), .val (.int v4)] [])) t → Steps p.tables e below (s₁.setTop (entryFrame m #[(.ref a), (.int x1), (.int x2)] 4)) t := fun t k => pre3 t (by
    subst hv4
    show Steps p.tables e below (T2.setTop (mkF m 4 #[.val (.ref a), .val (.int x1), .val (.int x2), .unset] [(.int uo)])) _
    refine XS.iloadN X2.here hx rfl (hb hby d4_4) rfl ?_
    show Steps p.tables e below (T2.setTop (mkF m 5 #[.val (.ref a), .val (.int x1), .val (.int x2), .unset] [(.int x2), (.int uo)])) _
    refine XS.iadd X2.here hx rfl (hb hby d4_5) rfl ?_
    show Steps p.tables e below (T2.setTop (mkF m 6 #[.val (.ref a), .val (.int x1), .val (.int x2), .unset] [(.int (uo + x2))])) _
    refine XS.istoreN X2.here hx rfl (hb hby d4_6) rfl (l' := #[.val (.ref a), .val (.int x1), .val (.int x2), .val (.int (uo + x2))]) rfl ?_
    show Steps p.tables e below (T2.setTop (mkF m 7 #[.val (.ref a), .val (.int x1), .val (.int x2), .val (.int (uo + x2))] [])) _
    exact k)
  obtain ⟨i, hi⟩ : ∃ z : Int32, z = v4 := ⟨_, rfl⟩
  subst hv4
  rw [← hi] at pre5
  obtain ⟨T6, X6, e6, pre6q⟩ : ∃ T : State, Stand p l e ({ frames := 0, cells := 0, slots := 0, locals := 0 } : Room) s m #[(.ref a), (.int x1), (.int x2)] below meth c T [] 0 0 ∧ T.heap = h0 ∧ ∀ t, Steps p.tables e below (T.setTop (mkF m 7 #[.val (.ref a), .val (.int x1), .val (.int x2), .val (.int i)] [])) t → Steps p.tables e below (s₁.setTop (entryFrame m #[(.ref a), (.int x1), (.int x2)] 4)) t := ⟨_, X2, e2, pre5⟩
  obtain ⟨k, hk, hR⟩ : ∃ k : Nat, (own_inv (uo + ul) i k) ∧ own_sc d0 d1 d2 d3 d4 x1 uo k i = own_sc d0 d1 d2 d3 d4 x1 uo (ul.toInt.toNat - x2.toInt.toNat) (uo + x2) := ⟨(ul.toInt.toNat - x2.toInt.toNat), by rw [hi]; exact qs, by rw [hi]⟩
  clear hi pre5
  induction k generalizing i T6 with
  | zero =>
    have pre7 : ∀ t, Steps p.tables e below (T6.setTop (mkF m 9 #[.val (.ref a), .val (.int x1), .val (.int x2), .val (.int i)] [(.ref a), (.int i)])) t → Steps p.tables e below (s₁.setTop (entryFrame m #[(.ref a), (.int x1), (.int x2)] 4)) t := fun t k => pre6q t (by
      show Steps p.tables e below (T6.setTop (mkF m 7 #[.val (.ref a), .val (.int x1), .val (.int x2), .val (.int i)] [])) _
      refine XS.iloadN X6.here hx rfl (hb hby d4_7) rfl ?_
      show Steps p.tables e below (T6.setTop (mkF m 8 #[.val (.ref a), .val (.int x1), .val (.int x2), .val (.int i)] [(.int i)])) _
      refine XS.aloadN X6.here hx rfl (hb hby d4_8) rfl rfl ?_
      show Steps p.tables e below (T6.setTop (mkF m 9 #[.val (.ref a), .val (.int x1), .val (.int x2), .val (.int i)] [(.ref a), (.int i)])) _
      exact k)
    obtain ⟨T8, X8, e8, st8⟩ := getF X6 hx hZ hown (host := "") (Or.inl (hw _ (List.mem_of_getElem? (i := 17) rfl))) Via.refl e6 F_offset (g := (mkF m 9 #[.val (.ref a), .val (.int x1), .val (.int x2), .val (.int i)] [(.ref a), (.int i)])) rfl rfl (hb hby d4_9)
    have pre9 : ∀ t, Steps p.tables e below (T8.setTop (mkF m 12 #[.val (.ref a), .val (.int x1), .val (.int x2), .val (.int i)] [(.int uo), (.int i)])) t → Steps p.tables e below (s₁.setTop (entryFrame m #[(.ref a), (.int x1), (.int x2)] 4)) t := fun t k => pre7 t (st8 _ k)
    have pre10 : ∀ t, Steps p.tables e below (T8.setTop (mkF m 13 #[.val (.ref a), .val (.int x1), .val (.int x2), .val (.int i)] [(.ref a), (.int uo), (.int i)])) t → Steps p.tables e below (s₁.setTop (entryFrame m #[(.ref a), (.int x1), (.int x2)] 4)) t := fun t k => pre9 t (by
      show Steps p.tables e below (T8.setTop (mkF m 12 #[.val (.ref a), .val (.int x1), .val (.int x2), .val (.int i)] [(.int uo), (.int i)])) _
      refine XS.aloadN X8.here hx rfl (hb hby d4_12) rfl rfl ?_
      show Steps p.tables e below (T8.setTop (mkF m 13 #[.val (.ref a), .val (.int x1), .val (.int x2), .val (.int i)] [(.ref a), (.int uo), (.int i)])) _
      exact k)
    obtain ⟨T11, X11, e11, st11⟩ := getF X8 hx hZ hown (host := "") (Or.inl (hw _ (List.mem_of_getElem? (i := 19) rfl))) Via.refl e8 F_length (g := (mkF m 13 #[.val (.ref a), .val (.int x1), .val (.int x2), .val (.int i)] [(.ref a), (.int uo), (.int i)])) rfl rfl (hb hby d4_13)
    have pre12 : ∀ t, Steps p.tables e below (T11.setTop (mkF m 16 #[.val (.ref a), .val (.int x1), .val (.int x2), .val (.int i)] [(.int ul), (.int uo), (.int i)])) t → Steps p.tables e below (s₁.setTop (entryFrame m #[(.ref a), (.int x1), (.int x2)] 4)) t := fun t k => pre10 t (st11 _ k)
    have pre13 : ∀ t, Steps p.tables e below (T11.setTop (mkF m 44 #[.val (.ref a), .val (.int x1), .val (.int x2), .val (.int i)] [(.int (-1 : Int32))])) t → Steps p.tables e below (s₁.setTop (entryFrame m #[(.ref a), (.int x1), (.int x2)] 4)) t := fun t k => pre12 t (by
      show Steps p.tables e below (T11.setTop (mkF m 16 #[.val (.ref a), .val (.int x1), .val (.int x2), .val (.int i)] [(.int ul), (.int uo), (.int i)])) _
      refine XS.iadd X11.here hx rfl (hb hby d4_16) rfl ?_
      show Steps p.tables e below (T11.setTop (mkF m 17 #[.val (.ref a), .val (.int x1), .val (.int x2), .val (.int i)] [(.int (uo + ul)), (.int i)])) _
      refine XS.icmpYes X11.here hx rfl (pc0 := 17) (pc' := 43) rfl (hb hby d4_17) rfl (flt (own_lz hk)).2.1 (by decide) (by decide) ?_
      show Steps p.tables e below (T11.setTop (mkF m 43 #[.val (.ref a), .val (.int x1), .val (.int x2), .val (.int i)] [])) _
      refine XS.iconst X11.here hx rfl (hb hby d4_43) ?_
      show Steps p.tables e below (T11.setTop (mkF m 44 #[.val (.ref a), .val (.int x1), .val (.int x2), .val (.int i)] [(.int (-1 : Int32))])) _
      exact k)
    obtain ⟨fs, hr, hrun, hended, hW, hsame⟩ := X11.leave (v := some (.int (-1 : Int32))) (fun h => by rw [Bd.returns] at h; cases h)
    refine ⟨_, _, pre13 _ ?_, hrun, hended, _, _, rfl, ?_, ⟨_, rfl⟩, hW, hsame.mono (by decide) (by decide)⟩
    · show Steps p.tables e below (T11.setTop (mkF m 44 #[.val (.ref a), .val (.int x1), .val (.int x2), .val (.int i)] [(.int (-1 : Int32))])) _
      exact retI X11 hx Bd.returns (hb hby d4_44) hr
    · show Q4 Z a x1 x2 ba kb uo ul d0 d1 d2 d3 d4 h0 n0 _ T11.heap _
      rw [e11]
      exact ⟨_, rfl, N0, rfl, hR⟩
  | succ k ih =>
    have pre14 : ∀ t, Steps p.tables e below (T6.setTop (mkF m 9 #[.val (.ref a), .val (.int x1), .val (.int x2), .val (.int i)] [(.ref a), (.int i)])) t → Steps p.tables e below (s₁.setTop (entryFrame m #[(.ref a), (.int x1), (.int x2)] 4)) t := fun t k => pre6q t (by
      show Steps p.tables e below (T6.setTop (mkF m 7 #[.val (.ref a), .val (.int x1), .val (.int x2), .val (.int i)] [])) _
      refine XS.iloadN X6.here hx rfl (hb hby d4_7) rfl ?_
      show Steps p.tables e below (T6.setTop (mkF m 8 #[.val (.ref a), .val (.int x1), .val (.int x2), .val (.int i)] [(.int i)])) _
      refine XS.aloadN X6.here hx rfl (hb hby d4_8) rfl rfl ?_
      show Steps p.tables e below (T6.setTop (mkF m 9 #[.val (.ref a), .val (.int x1), .val (.int x2), .val (.int i)] [(.ref a), (.int i)])) _
      exact k)
    obtain ⟨T15, X15, e15, st15⟩ := getF X6 hx hZ hown (host := "") (Or.inl (hw _ (List.mem_of_getElem? (i := 17) rfl))) Via.refl e6 F_offset (g := (mkF m 9 #[.val (.ref a), .val (.int x1), .val (.int x2), .val (.int i)] [(.ref a), (.int i)])) rfl rfl (hb hby d4_9)
    have pre16 : ∀ t, Steps p.tables e below (T15.setTop (mkF m 12 #[.val (.ref a), .val (.int x1), .val (.int x2), .val (.int i)] [(.int uo), (.int i)])) t → Steps p.tables e below (s₁.setTop (entryFrame m #[(.ref a), (.int x1), (.int x2)] 4)) t := fun t k => pre14 t (st15 _ k)
    have pre17 : ∀ t, Steps p.tables e below (T15.setTop (mkF m 13 #[.val (.ref a), .val (.int x1), .val (.int x2), .val (.int i)] [(.ref a), (.int uo), (.int i)])) t → Steps p.tables e below (s₁.setTop (entryFrame m #[(.ref a), (.int x1), (.int x2)] 4)) t := fun t k => pre16 t (by
      show Steps p.tables e below (T15.setTop (mkF m 12 #[.val (.ref a), .val (.int x1), .val (.int x2), .val (.int i)] [(.int uo), (.int i)])) _
      refine XS.aloadN X15.here hx rfl (hb hby d4_12) rfl rfl ?_
      show Steps p.tables e below (T15.setTop (mkF m 13 #[.val (.ref a), .val (.int x1), .val (.int x2), .val (.int i)] [(.ref a), (.int uo), (.int i)])) _
      exact k)
    obtain ⟨T18, X18, e18, st18⟩ := getF X15 hx hZ hown (host := "") (Or.inl (hw _ (List.mem_of_getElem? (i := 19) rfl))) Via.refl e15 F_length (g := (mkF m 13 #[.val (.ref a), .val (.int x1), .val (.int x2), .val (.int i)] [(.ref a), (.int uo), (.int i)])) rfl rfl (hb hby d4_13)
    have pre19 : ∀ t, Steps p.tables e below (T18.setTop (mkF m 16 #[.val (.ref a), .val (.int x1), .val (.int x2), .val (.int i)] [(.int ul), (.int uo), (.int i)])) t → Steps p.tables e below (s₁.setTop (entryFrame m #[(.ref a), (.int x1), (.int x2)] 4)) t := fun t k => pre17 t (st18 _ k)
    have pre20 : ∀ t, Steps p.tables e below (T18.setTop (mkF m 21 #[.val (.ref a), .val (.int x1), .val (.int x2), .val (.int i)] [(.ref a)])) t → Steps p.tables e below (s₁.setTop (entryFrame m #[(.ref a), (.int x1), (.int x2)] 4)) t := fun t k => pre19 t (by
      show Steps p.tables e below (T18.setTop (mkF m 16 #[.val (.ref a), .val (.int x1), .val (.int x2), .val (.int i)] [(.int ul), (.int uo), (.int i)])) _
      refine XS.iadd X18.here hx rfl (hb hby d4_16) rfl ?_
      show Steps p.tables e below (T18.setTop (mkF m 17 #[.val (.ref a), .val (.int x1), .val (.int x2), .val (.int i)] [(.int (uo + ul)), (.int i)])) _
      refine XS.icmpNo X18.here hx rfl (hb hby d4_17) rfl (tlt (own_ls hk)).2.1 ?_
      show Steps p.tables e below (T18.setTop (mkF m 20 #[.val (.ref a), .val (.int x1), .val (.int x2), .val (.int i)] [])) _
      refine XS.aloadN X18.here hx rfl (hb hby d4_20) rfl rfl ?_
      show Steps p.tables e below (T18.setTop (mkF m 21 #[.val (.ref a), .val (.int x1), .val (.int x2), .val (.int i)] [(.ref a)])) _
      exact k)
    obtain ⟨T21, X21, e21, st21⟩ := getF X18 hx hZ hown (host := "") (Or.inl (hw _ (List.mem_of_getElem? (i := 15) rfl))) Via.refl e18 F_array (g := (mkF m 21 #[.val (.ref a), .val (.int x1), .val (.int x2), .val (.int i)] [(.ref a)])) rfl rfl (hb hby d4_21)
    have pre22 : ∀ t, Steps p.tables e below (T21.setTop (mkF m 24 #[.val (.ref a), .val (.int x1), .val (.int x2), .val (.int i)] [(.ref ba)])) t → Steps p.tables e below (s₁.setTop (entryFrame m #[(.ref a), (.int x1), (.int x2)] 4)) t := fun t k => pre20 t (st21 _ k)
    have pre23 : ∀ t, Steps p.tables e below (T21.setTop (mkF m 25 #[.val (.ref a), .val (.int x1), .val (.int x2), .val (.int i)] [(.int i), (.ref ba)])) t → Steps p.tables e below (s₁.setTop (entryFrame m #[(.ref a), (.int x1), (.int x2)] 4)) t := fun t k => pre22 t (by
      show Steps p.tables e below (T21.setTop (mkF m 24 #[.val (.ref a), .val (.int x1), .val (.int x2), .val (.int i)] [(.ref ba)])) _
      refine XS.iloadN X21.here hx rfl (hb hby d4_24) rfl ?_
      show Steps p.tables e below (T21.setTop (mkF m 25 #[.val (.ref a), .val (.int x1), .val (.int x2), .val (.int i)] [(.int i), (.ref ba)])) _
      exact k)
    obtain ⟨cl24, Ar24, q24, S24, M24, H24, G24⟩ := id V_ba
    have hin24 : ¬ (i < 0 ∨ cl24.slots.size ≤ (i).toNatClampNeg) := inb_of S24 (own_in5 (own_li hk))
    have hat24 : cl24.slots[(i).toNatClampNeg]? = some (.int (own_el5 i d0 d1 d2 d3 d4)) := H24.at hin24 (own_get5 _ _ _ _ _ _ (own_li hk))
    have st24 := X21.baloadBytes hx (j := i) (v := (.int (own_el5 i d0 d1 d2 d3 d4))) (by rw [e21]; exact Ar24.1) (State.isArrayOf_alike hZ.alike Ar24.2.1) Ar24.2.2 hin24 hat24 (g := (mkF m 25 #[.val (.ref a), .val (.int x1), .val (.int x2), .val (.int i)] [(.int i), (.ref ba)])) rfl rfl (hb hby d4_25)
    have pre25 : ∀ t, Steps p.tables e below (T21.setTop (mkF m 26 #[.val (.ref a), .val (.int x1), .val (.int x2), .val (.int i)] [(.int (own_el5 i d0 d1 d2 d3 d4))])) t → Steps p.tables e below (s₁.setTop (entryFrame m #[(.ref a), (.int x1), (.int x2)] 4)) t := fun t k => pre23 t (st24 _ k)
    have pre26 : ∀ t, Steps p.tables e below (T21.setTop (mkF m 27 #[.val (.ref a), .val (.int x1), .val (.int x2), .val (.int i)] [(.int x1), (.int (own_el5 i d0 d1 d2 d3 d4))])) t → Steps p.tables e below (s₁.setTop (entryFrame m #[(.ref a), (.int x1), (.int x2)] 4)) t := fun t k => pre25 t (by
      show Steps p.tables e below (T21.setTop (mkF m 26 #[.val (.ref a), .val (.int x1), .val (.int x2), .val (.int i)] [(.int (own_el5 i d0 d1 d2 d3 d4))])) _
      refine XS.iloadN X21.here hx rfl (hb hby d4_26) rfl ?_
      show Steps p.tables e below (T21.setTop (mkF m 27 #[.val (.ref a), .val (.int x1), .val (.int x2), .val (.int i)] [(.int x1), (.int (own_el5 i d0 d1 d2 d3 d4))])) _
      exact k)
    by_cases hc27 : (own_el5 i d0 d1 d2 d3 d4) = x1
    · skip
      have pre28 : ∀ t, Steps p.tables e below (T21.setTop (mkF m 32 #[.val (.ref a), .val (.int x1), .val (.int x2), .val (.int i)] [(.ref a), (.int i)])) t → Steps p.tables e below (s₁.setTop (entryFrame m #[(.ref a), (.int x1), (.int x2)] 4)) t := fun t k => pre26 t (by
        show Steps p.tables e below (T21.setTop (mkF m 27 #[.val (.ref a), .val (.int x1), .val (.int x2), .val (.int i)] [(.int x1), (.int (own_el5 i d0 d1 d2 d3 d4))])) _
        refine XS.icmpNo X21.here hx rfl (hb hby d4_27) rfl (teq hc27).2 ?_
        show Steps p.tables e below (T21.setTop (mkF m 30 #[.val (.ref a), .val (.int x1), .val (.int x2), .val (.int i)] [])) _
        refine XS.iloadN X21.here hx rfl (hb hby d4_30) rfl ?_
        show Steps p.tables e below (T21.setTop (mkF m 31 #[.val (.ref a), .val (.int x1), .val (.int x2), .val (.int i)] [(.int i)])) _
        refine XS.aloadN X21.here hx rfl (hb hby d4_31) rfl rfl ?_
        show Steps p.tables e below (T21.setTop (mkF m 32 #[.val (.ref a), .val (.int x1), .val (.int x2), .val (.int i)] [(.ref a), (.int i)])) _
        exact k)
      obtain ⟨T29, X29, e29, st29⟩ := getF X21 hx hZ hown (host := "") (Or.inl (hw _ (List.mem_of_getElem? (i := 17) rfl))) Via.refl e21 F_offset (g := (mkF m 32 #[.val (.ref a), .val (.int x1), .val (.int x2), .val (.int i)] [(.ref a), (.int i)])) rfl rfl (hb hby d4_32)
      have pre30 : ∀ t, Steps p.tables e below (T29.setTop (mkF m 35 #[.val (.ref a), .val (.int x1), .val (.int x2), .val (.int i)] [(.int uo), (.int i)])) t → Steps p.tables e below (s₁.setTop (entryFrame m #[(.ref a), (.int x1), (.int x2)] 4)) t := fun t k => pre28 t (st29 _ k)
      have pre31 : ∀ t, Steps p.tables e below (T29.setTop (mkF m 36 #[.val (.ref a), .val (.int x1), .val (.int x2), .val (.int i)] [(.int (i - uo))])) t → Steps p.tables e below (s₁.setTop (entryFrame m #[(.ref a), (.int x1), (.int x2)] 4)) t := fun t k => pre30 t (by
        show Steps p.tables e below (T29.setTop (mkF m 35 #[.val (.ref a), .val (.int x1), .val (.int x2), .val (.int i)] [(.int uo), (.int i)])) _
        refine XS.isub X29.here hx rfl (hb hby d4_35) rfl ?_
        show Steps p.tables e below (T29.setTop (mkF m 36 #[.val (.ref a), .val (.int x1), .val (.int x2), .val (.int i)] [(.int (i - uo))])) _
        exact k)
      obtain ⟨fs, hr, hrun, hended, hW, hsame⟩ := X29.leave (v := some (.int (i - uo))) (fun h => by rw [Bd.returns] at h; cases h)
      refine ⟨_, _, pre31 _ ?_, hrun, hended, _, _, rfl, ?_, ⟨_, rfl⟩, hW, hsame.mono (by decide) (by decide)⟩
      · show Steps p.tables e below (T29.setTop (mkF m 36 #[.val (.ref a), .val (.int x1), .val (.int x2), .val (.int i)] [(.int (i - uo))])) _
        exact retI X29 hx Bd.returns (hb hby d4_36) hr
      · show Q4 Z a x1 x2 ba kb uo ul d0 d1 d2 d3 d4 h0 n0 _ T29.heap _
        rw [e29]
        exact ⟨_, rfl, N0, rfl, by rw [← hR, own_scs, if_pos hc27]⟩
    · skip
      have pre32 : ∀ t, Steps p.tables e below (T21.setTop (mkF m 7 #[.val (.ref a), .val (.int x1), .val (.int x2), .val (.int (i + (1 : Int32)))] [])) t → Steps p.tables e below (s₁.setTop (entryFrame m #[(.ref a), (.int x1), (.int x2)] 4)) t := fun t k => pre26 t (by
        show Steps p.tables e below (T21.setTop (mkF m 27 #[.val (.ref a), .val (.int x1), .val (.int x2), .val (.int i)] [(.int x1), (.int (own_el5 i d0 d1 d2 d3 d4))])) _
        refine XS.icmpYes X21.here hx rfl (pc0 := 27) (pc' := 37) rfl (hb hby d4_27) rfl (feq hc27).2 (by decide) (by decide) ?_
        show Steps p.tables e below (T21.setTop (mkF m 37 #[.val (.ref a), .val (.int x1), .val (.int x2), .val (.int i)] [])) _
        refine XS.iinc X21.here hx rfl (hb hby d4_37) rfl (l' := #[.val (.ref a), .val (.int x1), .val (.int x2), .val (.int (i + (1 : Int32)))]) rfl ?_
        show Steps p.tables e below (T21.setTop (mkF m 40 #[.val (.ref a), .val (.int x1), .val (.int x2), .val (.int (i + (1 : Int32)))] [])) _
        refine XS.goto X21.here hx rfl (pc0 := 40) (pc' := 7) rfl (hb hby d4_40) (by decide) (by decide) ?_
        show Steps p.tables e below (T21.setTop (mkF m 7 #[.val (.ref a), .val (.int x1), .val (.int x2), .val (.int (i + (1 : Int32)))] [])) _
        exact k)
      exact ih _ _ X21 e21 pre32 (own_ln hk) (by rw [← hR, own_scs, if_neg hc27])
theorem own_ix (x1 : Int32) (x2 : Int32) (x3 : Int32) (x5 : Int32) (qs : 0 ≤ x1.toInt ∧ 0 ≤ x2.toInt ∧ x1.toInt + x2.toInt ≤ 5 ∧ 0 ≤ x3.toInt ∧ 0 ≤ x5.toInt) (hc5 : x5 < x2) : (x1 + x5) = (0 : Int32) ∨ (x1 + x5) = (1 : Int32) ∨ (x1 + x5) = (2 : Int32) ∨ (x1 + x5) = (3 : Int32) ∨ (x1 + x5) = (4 : Int32) := by
  rw [Int32.lt_iff_toInt_lt] at hc5
  have b := c_iadd x1 x5
  have c := rng32 (x1 + x5)
  exact own_c5 (by omega) (by omega)

set_option maxHeartbeats 8000000 in
theorem own_ix5_17_8 (x1 : Int32) (x2 : Int32) (x3 : Int32) (x4 : Int32) (x5 : Int32) (d0 : Int32) (d1 : Int32) (d2 : Int32) (d3 : Int32) (d4 : Int32) (qs : 0 ≤ x1.toInt ∧ 0 ≤ x2.toInt ∧ x1.toInt + x2.toInt ≤ 5 ∧ 0 ≤ x3.toInt ∧ 0 ≤ x5.toInt) (hc2 : ¬ (x5 < x3)) (hc5 : x5 < x2) : (x1 + x5) = (0 : Int32) ∨ (x1 + x5) = (1 : Int32) ∨ (x1 + x5) = (2 : Int32) ∨ (x1 + x5) = (3 : Int32) ∨ (x1 + x5) = (4 : Int32) := by
  exact own_ix x1 x2 x3 x5 qs hc5
def F5 (x1 : Int32) (x2 : Int32) (x3 : Int32) (x4 : Int32) (x5 : Int32) (d0 : Int32) (d1 : Int32) (d2 : Int32) (d3 : Int32) (d4 : Int32) : Int32 := (nar .boolean (if x5 < x3 then (0 : Int32) else (if x5 < x2 then (if (own_el5 (x1 + x5) d0 d1 d2 d3 d4) = x4 then (1 : Int32) else (0 : Int32)) else (0 : Int32))))
theorem d5_0 : decode method_4_code 0 = .ok (.iload 5, 2) := by decide +kernel
theorem d5_2 : decode method_4_code 2 = .ok (.iload_n 3, 1) := by decide +kernel
theorem d5_3 : decode method_4_code 3 = .ok (.if_icmp .lt 24, 3) := by decide +kernel
theorem d5_6 : decode method_4_code 6 = .ok (.iload 5, 2) := by decide +kernel
theorem d5_8 : decode method_4_code 8 = .ok (.iload_n 2, 1) := by decide +kernel
theorem d5_9 : decode method_4_code 9 = .ok (.if_icmp .ge 18, 3) := by decide +kernel
theorem d5_12 : decode method_4_code 12 = .ok (.aload_n 0, 1) := by decide +kernel
theorem d5_13 : decode method_4_code 13 = .ok (.iload_n 1, 1) := by decide +kernel
theorem d5_14 : decode method_4_code 14 = .ok (.iload 5, 2) := by decide +kernel
theorem d5_16 : decode method_4_code 16 = .ok (.iadd, 1) := by decide +kernel
theorem d5_17 : decode method_4_code 17 = .ok (.baload, 1) := by decide +kernel
theorem d5_18 : decode method_4_code 18 = .ok (.iload 4, 2) := by decide +kernel
theorem d5_20 : decode method_4_code 20 = .ok (.if_icmp .ne 7, 3) := by decide +kernel
theorem d5_23 : decode method_4_code 23 = .ok (.iconst 1, 1) := by decide +kernel
theorem d5_24 : decode method_4_code 24 = .ok (.goto 4, 3) := by decide +kernel
theorem d5_27 : decode method_4_code 27 = .ok (.iconst 0, 1) := by decide +kernel
theorem d5_28 : decode method_4_code 28 = .ok (.ireturn, 1) := by decide +kernel
theorem ef_5 (m : MethodId) (x0 : Addr) (x1 : Int32) (x2 : Int32) (x3 : Int32) (x4 : Int32) (x5 : Int32) : entryFrame m #[(.ref x0), (.int x1), (.int x2), (.int x3), (.int x4), (.int x5)] 6 = mkF m 0 #[.val (.ref x0), .val (.int x1), .val (.int x2), .val (.int x3), .val (.int x4), .val (.int x5)] [] := by first | (simp [entryFrame, mkF, argsToLocals, Value.category]; done) | rfl
def Q5 (Z : State) (x0 : Addr) (x1 : Int32) (x2 : Int32) (x3 : Int32) (x4 : Int32) (x5 : Int32) (kb : ClassId) (d0 : Int32) (d1 : Int32) (d2 : Int32) (d3 : Int32) (d4 : Int32) (h0 : Heap) (n0 : Nat) (v : Option Value) (h : Heap) (L : List Loc) : Prop := ∃ z : Int32, v = some (.int z) ∧ Fr n0 L ∧ h = h0 ∧ z = F5 x1 x2 x3 x4 x5 d0 d1 d2 d3 d4
set_option maxRecDepth 65536 in
set_option maxHeartbeats 40000000 in
theorem rm5 (l : Launch) (Z : State) (a0 : Array Value) (hw : ∀ d ∈ tables_1, d.before a0 Z = true) (ws : List Jvm.Cond) (x0 : Addr) (x1 : Int32) (x2 : Int32) (x3 : Int32) (x4 : Int32) (x5 : Int32) (kb : ClassId) (d0 : Int32) (d1 : Int32) (d2 : Int32) (d3 : Int32) (d4 : Int32) (h0 : Heap) (n0 : Nat) (Z0 : n0 ≤ h0.size) (fa0 : Arv Z h0 x0 kb .byte (5 : Int32) [(.int d0), (.int d1), (.int d2), (.int d3), (.int d4)] (.int (0 : Int32))) (qs : 0 ≤ x1.toInt ∧ 0 ≤ x2.toInt ∧ x1.toInt + x2.toInt ≤ 5 ∧ 0 ≤ x3.toInt ∧ 0 ≤ x5.toInt) :
    MetFree l (⟨"com/example/incipit/incipit/DataBytesIndexOfPinLaw", "hit", "([BIIIBI)Z"⟩ : MethodName) (head1 (Jvm.Cond.code (⟨"com/example/incipit/incipit/DataBytesIndexOfPinLaw", "hit", "([BIIIBI)Z"⟩ : MethodName) method_4_code 6 (some .boolean) :: ws) ({ frames := 0, cells := 0, slots := 0, locals := 0 } : Room)) (fun aa U => aa = #[(.ref x0), (.int x1), (.int x2), (.int x3), (.int x4), (.int x5)] ∧ Z.Warmed39 U.vm ∧ U.heap = h0) (fun _ _ _ _ _ => True) (fun _ U o U' => ∃ v L, o = .returned v ∧ Q5 Z x0 x1 x2 x3 x4 x5 kb d0 d1 d2 d3 d4 h0 n0 v U'.heap L ∧ FrameEnd U o U' L ({ frames := 0, cells := 0, slots := 0, locals := 0 } : Room).cells ({ frames := 0, cells := 0, slots := 0, locals := 0 } : Room).slots) := by
  refine MetFree.of_bodySF (plainFor_of_name pn_1) hisR ?_
  intro p e s m args below meth c s₁ Bd hml0 hP hK
  obtain ⟨rfl, hZ, hh⟩ := hP
  have hx := Bd.exec
  have hby := Bd.bytes
  have hml : c.maxLocals = 6 := hml0
  have hown : s.vm.findClass "com/example/incipit/incipit/DataBytesIndexOfPinLaw" = some m.cls := findClass_of_methodNamed Bd.named
  have hnm := (name_of_methodNamed Bd.named Bd.method).1
  have X0 : Stand p l e ({ frames := 0, cells := 0, slots := 0, locals := 0 } : Room) s m #[(.ref x0), (.int x1), (.int x2), (.int x3), (.int x4), (.int x5)] below meth c s₁ [] 0 0 := Stand.of_body Bd
  have e0 : s₁.heap = h0 := by rw [← hh, Bd.state]; rfl
  have N0 := Fr.nil n0
  have pre0 : ∀ t, Steps p.tables e below (s₁.setTop (mkF m 0 #[.val (.ref x0), .val (.int x1), .val (.int x2), .val (.int x3), .val (.int x4), .val (.int x5)] [])) t → Steps p.tables e below (s₁.setTop (entryFrame m #[(.ref x0), (.int x1), (.int x2), (.int x3), (.int x4), (.int x5)] 6)) t := fun t k => castTop (ef_5 m x0 x1 x2 x3 x4 x5) k
  have pre1 : ∀ t, Steps p.tables e below (s₁.setTop (mkF m 3 #[.val (.ref x0), .val (.int x1), .val (.int x2), .val (.int x3), .val (.int x4), .val (.int x5)] [(.int x3), (.int x5)])) t → Steps p.tables e below (s₁.setTop (entryFrame m #[(.ref x0), (.int x1), (.int x2), (.int x3), (.int x4), (.int x5)] 6)) t := fun t k => pre0 t (by
    show Steps p.tables e below (s₁.setTop (mkF m 0 #[.val (.ref x0), .val (.int x1), .val (.int x2), .val (.int x3), .val (.int x4), .val (.int x5)] [])) _
    refine XS.iload X0.here hx rfl (hb hby d5_0) rfl ?_
    show Steps p.tables e below (s₁.setTop (mkF m 2 #[.val (.ref x0), .val (.int x1), .val (.int x2), .val (.int x3), .val (.int x4), .val (.int x5)] [(.int x5)])) _
    refine XS.iloadN X0.here hx rfl (hb hby d5_2) rfl ?_
    show Steps p.tables e below (s₁.setTop (mkF m 3 #[.val (.ref x0), .val (.int x1), .val (.int x2), .val (.int x3), .val (.int x4), .val (.int x5)] [(.int x3), (.int x5)])) _
    exact k)
  obtain ⟨v18, hv18⟩ : ∃ z : Int32, z = (if x5 < x3 then (0 : Int32) else (if x5 < x2 then (if (own_el5 (x1 + x5) d0 d1 d2 d3 d4) = x4 then (1 : Int32) else (0 : Int32)) else (0 : Int32))) := ⟨_, rfl⟩
  obtain ⟨T17, L17, X17, N17, Zz17, eh17, pre19⟩ : ∃ (T17 : State) (L17 : List Loc), Stand p l e ({ frames := 0, cells := 0, slots := 0, locals := 0 } : Room) s m #[(.ref x0), (.int x1), (.int x2), (.int x3), (.int x4), (.int x5)] below meth c T17 L17 0 0 ∧ Fr n0 L17 ∧ n0 ≤ T17.heap.size ∧ (T17.heap = h0) ∧ ∀ t, Steps p.tables e below (T17.setTop (mkF m 28 #[.val (.ref x0), .val (.int x1), .val (.int x2), .val (.int x3), .val (.int x4), .val (.int x5)] [(.int v18)])) t → Steps p.tables e below (s₁.setTop (entryFrame m #[(.ref x0), (.int x1), (.int x2), (.int x3), (.int x4), (.int x5)] 6)) t := by
    by_cases hc2 : x5 < x3
    · skip
      have pre3 : ∀ t, Steps p.tables e below (s₁.setTop (mkF m 28 #[.val (.ref x0), .val (.int x1), .val (.int x2), .val (.int x3), .val (.int x4), .val (.int x5)] [(.int (0 : Int32))])) t → Steps p.tables e below (s₁.setTop (entryFrame m #[(.ref x0), (.int x1), (.int x2), (.int x3), (.int x4), (.int x5)] 6)) t := fun t k => pre1 t (by
        show Steps p.tables e below (s₁.setTop (mkF m 3 #[.val (.ref x0), .val (.int x1), .val (.int x2), .val (.int x3), .val (.int x4), .val (.int x5)] [(.int x3), (.int x5)])) _
        refine XS.icmpYes X0.here hx rfl (pc0 := 3) (pc' := 27) rfl (hb hby d5_3) rfl (tlt hc2).1 (by decide) (by decide) ?_
        show Steps p.tables e below (s₁.setTop (mkF m 27 #[.val (.ref x0), .val (.int x1), .val (.int x2), .val (.int x3), .val (.int x4), .val (.int x5)] [])) _
        refine XS.iconst X0.here hx rfl (hb hby d5_27) ?_
        show Steps p.tables e below (s₁.setTop (mkF m 28 #[.val (.ref x0), .val (.int x1), .val (.int x2), .val (.int x3), .val (.int x4), .val (.int x5)] [(.int (0 : Int32))])) _
        exact k)
      rw [if_pos hc2] at hv18
      subst hv18
      exact ⟨_, _, X0, N0, by rw [e0]; exact Z0, e0, pre3⟩
    · skip
      have pre4 : ∀ t, Steps p.tables e below (s₁.setTop (mkF m 9 #[.val (.ref x0), .val (.int x1), .val (.int x2), .val (.int x3), .val (.int x4), .val (.int x5)] [(.int x2), (.int x5)])) t → Steps p.tables e below (s₁.setTop (entryFrame m #[(.ref x0), (.int x1), (.int x2), (.int x3), (.int x4), (.int x5)] 6)) t := fun t k => pre1 t (by
        show Steps p.tables e below (s₁.setTop (mkF m 3 #[.val (.ref x0), .val (.int x1), .val (.int x2), .val (.int x3), .val (.int x4), .val (.int x5)] [(.int x3), (.int x5)])) _
        refine XS.icmpNo X0.here hx rfl (hb hby d5_3) rfl (flt hc2).1 ?_
        show Steps p.tables e below (s₁.setTop (mkF m 6 #[.val (.ref x0), .val (.int x1), .val (.int x2), .val (.int x3), .val (.int x4), .val (.int x5)] [])) _
        refine XS.iload X0.here hx rfl (hb hby d5_6) rfl ?_
        show Steps p.tables e below (s₁.setTop (mkF m 8 #[.val (.ref x0), .val (.int x1), .val (.int x2), .val (.int x3), .val (.int x4), .val (.int x5)] [(.int x5)])) _
        refine XS.iloadN X0.here hx rfl (hb hby d5_8) rfl ?_
        show Steps p.tables e below (s₁.setTop (mkF m 9 #[.val (.ref x0), .val (.int x1), .val (.int x2), .val (.int x3), .val (.int x4), .val (.int x5)] [(.int x2), (.int x5)])) _
        exact k)
      obtain ⟨v15, hv15⟩ : ∃ z : Int32, z = (if x5 < x2 then (if (own_el5 (x1 + x5) d0 d1 d2 d3 d4) = x4 then (1 : Int32) else (0 : Int32)) else (0 : Int32)) := ⟨_, rfl⟩
      obtain ⟨T14, L14, X14, N14, Zz14, eh14, pre16⟩ : ∃ (T14 : State) (L14 : List Loc), Stand p l e ({ frames := 0, cells := 0, slots := 0, locals := 0 } : Room) s m #[(.ref x0), (.int x1), (.int x2), (.int x3), (.int x4), (.int x5)] below meth c T14 L14 0 0 ∧ Fr n0 L14 ∧ n0 ≤ T14.heap.size ∧ (T14.heap = h0) ∧ ∀ t, Steps p.tables e below (T14.setTop (mkF m 28 #[.val (.ref x0), .val (.int x1), .val (.int x2), .val (.int x3), .val (.int x4), .val (.int x5)] [(.int v15)])) t → Steps p.tables e below (s₁.setTop (entryFrame m #[(.ref x0), (.int x1), (.int x2), (.int x3), (.int x4), (.int x5)] 6)) t := by
        by_cases hc5 : x5 < x2
        · skip
          have pre6 : ∀ t, Steps p.tables e below (s₁.setTop (mkF m 17 #[.val (.ref x0), .val (.int x1), .val (.int x2), .val (.int x3), .val (.int x4), .val (.int x5)] [(.int (x1 + x5)), (.ref x0)])) t → Steps p.tables e below (s₁.setTop (entryFrame m #[(.ref x0), (.int x1), (.int x2), (.int x3), (.int x4), (.int x5)] 6)) t := fun t k => pre4 t (by
            show Steps p.tables e below (s₁.setTop (mkF m 9 #[.val (.ref x0), .val (.int x1), .val (.int x2), .val (.int x3), .val (.int x4), .val (.int x5)] [(.int x2), (.int x5)])) _
            refine XS.icmpNo X0.here hx rfl (hb hby d5_9) rfl (tlt hc5).2.1 ?_
            show Steps p.tables e below (s₁.setTop (mkF m 12 #[.val (.ref x0), .val (.int x1), .val (.int x2), .val (.int x3), .val (.int x4), .val (.int x5)] [])) _
            refine XS.aloadN X0.here hx rfl (hb hby d5_12) rfl rfl ?_
            show Steps p.tables e below (s₁.setTop (mkF m 13 #[.val (.ref x0), .val (.int x1), .val (.int x2), .val (.int x3), .val (.int x4), .val (.int x5)] [(.ref x0)])) _
            refine XS.iloadN X0.here hx rfl (hb hby d5_13) rfl ?_
            show Steps p.tables e below (s₁.setTop (mkF m 14 #[.val (.ref x0), .val (.int x1), .val (.int x2), .val (.int x3), .val (.int x4), .val (.int x5)] [(.int x1), (.ref x0)])) _
            refine XS.iload X0.here hx rfl (hb hby d5_14) rfl ?_
            show Steps p.tables e below (s₁.setTop (mkF m 16 #[.val (.ref x0), .val (.int x1), .val (.int x2), .val (.int x3), .val (.int x4), .val (.int x5)] [(.int x5), (.int x1), (.ref x0)])) _
            refine XS.iadd X0.here hx rfl (hb hby d5_16) rfl ?_
            show Steps p.tables e below (s₁.setTop (mkF m 17 #[.val (.ref x0), .val (.int x1), .val (.int x2), .val (.int x3), .val (.int x4), .val (.int x5)] [(.int (x1 + x5)), (.ref x0)])) _
            exact k)
          obtain ⟨cl7, Ar7, q7, S7, M7, H7, G7⟩ := id fa0
          have hin7 : ¬ ((x1 + x5) < 0 ∨ cl7.slots.size ≤ ((x1 + x5)).toNatClampNeg) := inb_of S7 (own_in5 (own_ix5_17_8 x1 x2 x3 x4 x5 d0 d1 d2 d3 d4 qs hc2 hc5))
          have hat7 : cl7.slots[((x1 + x5)).toNatClampNeg]? = some (.int (own_el5 (x1 + x5) d0 d1 d2 d3 d4)) := H7.at hin7 (own_get5 _ _ _ _ _ _ (own_ix5_17_8 x1 x2 x3 x4 x5 d0 d1 d2 d3 d4 qs hc2 hc5))
          have st7 := X0.baloadBytes hx (j := (x1 + x5)) (v := (.int (own_el5 (x1 + x5) d0 d1 d2 d3 d4))) (by rw [e0]; exact Ar7.1) (State.isArrayOf_alike hZ.alike Ar7.2.1) Ar7.2.2 hin7 hat7 (g := (mkF m 17 #[.val (.ref x0), .val (.int x1), .val (.int x2), .val (.int x3), .val (.int x4), .val (.int x5)] [(.int (x1 + x5)), (.ref x0)])) rfl rfl (hb hby d5_17)
          have pre9 : ∀ t, Steps p.tables e below (s₁.setTop (mkF m 18 #[.val (.ref x0), .val (.int x1), .val (.int x2), .val (.int x3), .val (.int x4), .val (.int x5)] [(.int (own_el5 (x1 + x5) d0 d1 d2 d3 d4))])) t → Steps p.tables e below (s₁.setTop (entryFrame m #[(.ref x0), (.int x1), (.int x2), (.int x3), (.int x4), (.int x5)] 6)) t := fun t k => pre6 t (st7 _ k)
          obtain ⟨v11, hv11⟩ : ∃ z : Int32, z = (if (own_el5 (x1 + x5) d0 d1 d2 d3 d4) = x4 then (1 : Int32) else (0 : Int32)) := ⟨_, rfl⟩
          have pre12 : ∀ t, Steps p.tables e below (s₁.setTop (mkF m 28 #[.val (.ref x0), .val (.int x1), .val (.int x2), .val (.int x3), .val (.int x4), .val (.int x5)] [(.int v11)])) t → Steps p.tables e below (s₁.setTop (entryFrame m #[(.ref x0), (.int x1), (.int x2), (.int x3), (.int x4), (.int x5)] 6)) t := fun t k => pre9 t (by
            show Steps p.tables e below (s₁.setTop (mkF m 18 #[.val (.ref x0), .val (.int x1), .val (.int x2), .val (.int x3), .val (.int x4), .val (.int x5)] [(.int (own_el5 (x1 + x5) d0 d1 d2 d3 d4))])) _
            refine XS.iload X0.here hx rfl (hb hby d5_18) rfl ?_
            show Steps p.tables e below (s₁.setTop (mkF m 20 #[.val (.ref x0), .val (.int x1), .val (.int x2), .val (.int x3), .val (.int x4), .val (.int x5)] [(.int x4), (.int (own_el5 (x1 + x5) d0 d1 d2 d3 d4))])) _
            by_cases hc10 : (own_el5 (x1 + x5) d0 d1 d2 d3 d4) = x4
            · skip
              refine XS.icmpNo X0.here hx rfl (hb hby d5_20) rfl (teq hc10).2 ?_
              show Steps p.tables e below (s₁.setTop (mkF m 23 #[.val (.ref x0), .val (.int x1), .val (.int x2), .val (.int x3), .val (.int x4), .val (.int x5)] [])) _
              refine XS.iconst X0.here hx rfl (hb hby d5_23) ?_
              show Steps p.tables e below (s₁.setTop (mkF m 24 #[.val (.ref x0), .val (.int x1), .val (.int x2), .val (.int x3), .val (.int x4), .val (.int x5)] [(.int (1 : Int32))])) _
              refine XS.goto X0.here hx rfl (pc0 := 24) (pc' := 28) rfl (hb hby d5_24) (by decide) (by decide) ?_
              show Steps p.tables e below (s₁.setTop (mkF m 28 #[.val (.ref x0), .val (.int x1), .val (.int x2), .val (.int x3), .val (.int x4), .val (.int x5)] [(.int (1 : Int32))])) _
              rw [show v11 = (1 : Int32) from by rw [hv11, if_pos hc10]] at k
              exact k
            · skip
              refine XS.icmpYes X0.here hx rfl (pc0 := 20) (pc' := 27) rfl (hb hby d5_20) rfl (feq hc10).2 (by decide) (by decide) ?_
              show Steps p.tables e below (s₁.setTop (mkF m 27 #[.val (.ref x0), .val (.int x1), .val (.int x2), .val (.int x3), .val (.int x4), .val (.int x5)] [])) _
              refine XS.iconst X0.here hx rfl (hb hby d5_27) ?_
              show Steps p.tables e below (s₁.setTop (mkF m 28 #[.val (.ref x0), .val (.int x1), .val (.int x2), .val (.int x3), .val (.int x4), .val (.int x5)] [(.int (0 : Int32))])) _
              rw [show v11 = (0 : Int32) from by rw [hv11, if_neg hc10]] at k
              exact k)
          rw [if_pos hc5] at hv15
          subst hv11
          subst hv15
          exact ⟨_, _, X0, N0, by rw [e0]; exact Z0, e0, pre12⟩
        · skip
          have pre13 : ∀ t, Steps p.tables e below (s₁.setTop (mkF m 28 #[.val (.ref x0), .val (.int x1), .val (.int x2), .val (.int x3), .val (.int x4), .val (.int x5)] [(.int (0 : Int32))])) t → Steps p.tables e below (s₁.setTop (entryFrame m #[(.ref x0), (.int x1), (.int x2), (.int x3), (.int x4), (.int x5)] 6)) t := fun t k => pre4 t (by
            show Steps p.tables e below (s₁.setTop (mkF m 9 #[.val (.ref x0), .val (.int x1), .val (.int x2), .val (.int x3), .val (.int x4), .val (.int x5)] [(.int x2), (.int x5)])) _
            refine XS.icmpYes X0.here hx rfl (pc0 := 9) (pc' := 27) rfl (hb hby d5_9) rfl (flt hc5).2.1 (by decide) (by decide) ?_
            show Steps p.tables e below (s₁.setTop (mkF m 27 #[.val (.ref x0), .val (.int x1), .val (.int x2), .val (.int x3), .val (.int x4), .val (.int x5)] [])) _
            refine XS.iconst X0.here hx rfl (hb hby d5_27) ?_
            show Steps p.tables e below (s₁.setTop (mkF m 28 #[.val (.ref x0), .val (.int x1), .val (.int x2), .val (.int x3), .val (.int x4), .val (.int x5)] [(.int (0 : Int32))])) _
            exact k)
          rw [if_neg hc5] at hv15
          subst hv15
          exact ⟨_, _, X0, N0, by rw [e0]; exact Z0, e0, pre13⟩
      rw [if_neg hc2] at hv18
      subst hv15
      subst hv18
      exact ⟨_, _, X14, N14, by rw [eh14]; exact Z0, eh14, pre16⟩
  obtain ⟨fs, hr, hrun, hended, hW, hsame⟩ := X17.leave (v := some (.int (nar .boolean v18))) (fun h => by rw [Bd.returns] at h; cases h)
  refine ⟨_, _, pre19 _ ?_, hrun, hended, _, _, rfl, ?_, ⟨_, rfl⟩, hW, hsame.mono (by decide) (by decide)⟩
  · show Steps p.tables e below (T17.setTop (mkF m 28 #[.val (.ref x0), .val (.int x1), .val (.int x2), .val (.int x3), .val (.int x4), .val (.int x5)] [(.int v18)])) _
    exact retN X17 hx (t := .boolean) Bd.returns (by simp) (hb hby d5_28) hr
  · show Q5 Z x0 x1 x2 x3 x4 x5 kb d0 d1 d2 d3 d4 h0 n0 _ T17.heap _
    rw [eh17]
    subst hv18
    exact ⟨_, rfl, N17, rfl, by rw [F5]⟩
theorem own_r1 (x v : Int32) (h : v = ((x &&& (2147483647 : Int32)) % (3 : Int32))) : 0 ≤ v.toInt ∧ v.toInt ≤ 2 := by
  have a := c_mask x 2147483647 31 (by decide) (by decide)
  have b := c_irem (x &&& 2147483647) 3 3 (by decide)
  rw [← h] at b; omega
theorem own_s6 (v : Int32) (h : 0 ≤ v.toInt ∧ v.toInt ≤ 2) : ((6 : Int32) - v).toInt = 6 - v.toInt := by
  have b := c_isub 6 v
  have c := rng32 (6 - v)
  have e : (6 : Int32).toInt = 6 := by decide
  omega
theorem own_nz1 (x v : Int32) (h : v = ((x &&& (2147483647 : Int32)) % (3 : Int32))) : ((6 : Int32) - v) ≠ (0 : Int32) := by
  have a := own_r1 x v h
  have b := own_s6 v a
  intro q
  rw [q] at b
  have e0 : (0 : Int32).toInt = 0 := by decide
  omega
theorem own_r2 (x y v w : Int32) (h : v = ((x &&& (2147483647 : Int32)) % (3 : Int32))) (h2 : w = ((y &&& (2147483647 : Int32)) % ((6 : Int32) - v))) : 0 ≤ v.toInt ∧ v.toInt ≤ 2 ∧ 0 ≤ w.toInt ∧ v.toInt + w.toInt ≤ 5 := by
  have a := own_r1 x v h
  have b := own_s6 v a
  have d := c_mask y 2147483647 31 (by decide) (by decide)
  have f := (c_iremV (y &&& 2147483647) (6 - v)).1 (by omega) (by omega)
  rw [← h2] at f
  omega
theorem own_s1 (w : Int32) (h : 0 ≤ w.toInt ∧ w.toInt ≤ 5) : (w + (1 : Int32)).toInt = w.toInt + 1 := by
  have b := c_iadd w 1
  have c := rng32 (w + 1)
  have e : (1 : Int32).toInt = 1 := by decide
  omega
theorem own_nz2 (x y v w : Int32) (h : v = ((x &&& (2147483647 : Int32)) % (3 : Int32))) (h2 : w = ((y &&& (2147483647 : Int32)) % ((6 : Int32) - v))) : (w + (1 : Int32)) ≠ (0 : Int32) := by
  have a := own_r2 x y v w h h2
  have b := own_s1 w (by omega)
  intro q
  rw [q] at b
  have e0 : (0 : Int32).toInt = 0 := by decide
  omega
theorem own_r3 (x y t v w u : Int32) (h : v = ((x &&& (2147483647 : Int32)) % (3 : Int32))) (h2 : w = ((y &&& (2147483647 : Int32)) % ((6 : Int32) - v))) (h3 : u = ((t &&& (2147483647 : Int32)) % (w + (1 : Int32)))) : 0 ≤ v.toInt ∧ v.toInt ≤ 2 ∧ 0 ≤ w.toInt ∧ v.toInt + w.toInt ≤ 5 ∧ 0 ≤ u.toInt ∧ u.toInt ≤ w.toInt := by
  have a := own_r2 x y v w h h2
  have b := own_s1 w (by omega)
  have d := c_mask t 2147483647 31 (by decide) (by decide)
  have f := (c_iremV (t &&& 2147483647) (w + 1)).1 (by omega) (by omega)
  rw [← h3] at f
  omega
theorem own_inv0 (x y t v w u : Int32) (h : v = ((x &&& (2147483647 : Int32)) % (3 : Int32))) (h2 : w = ((y &&& (2147483647 : Int32)) % ((6 : Int32) - v))) (h3 : u = ((t &&& (2147483647 : Int32)) % (w + (1 : Int32)))) : own_inv (v + w) (v + u) (w.toInt.toNat - u.toInt.toNat) := by
  have a := own_r3 x y t v w u h h2 h3
  have b := c_iadd v w
  have c := rng32 (v + w)
  have d := c_iadd v u
  have e := rng32 (v + u)
  exact ⟨by omega, by omega, by omega⟩
theorem own_hit (x y t v w u p : Int32) (n : Int) (hp : p.toInt = n) (hn : 0 ≤ n) (h : v = ((x &&& (2147483647 : Int32)) % (3 : Int32))) (h2 : w = ((y &&& (2147483647 : Int32)) % ((6 : Int32) - v))) (h3 : u = ((t &&& (2147483647 : Int32)) % (w + (1 : Int32)))) : 0 ≤ v.toInt ∧ 0 ≤ w.toInt ∧ v.toInt + w.toInt ≤ 5 ∧ 0 ≤ u.toInt ∧ 0 ≤ p.toInt := by
  have a := own_r3 x y t v w u h h2 h3
  omega
theorem own_c6 {v : Int32} (h0 : 0 ≤ v.toInt) (h1 : v.toInt ≤ 5) : v = (0 : Int32) ∨ v = (1 : Int32) ∨ v = (2 : Int32) ∨ v = (3 : Int32) ∨ v = (4 : Int32) ∨ v = (5 : Int32) := by
  by_cases h : v.toInt ≤ 4
  · rcases own_c5 h0 h with q | q | q | q | q <;> simp [q]
  · have : v = (5 : Int32) := Int32.toInt_inj.mp (show v.toInt = 5 by omega)
    simp [this]
theorem own_c3 {v : Int32} (h0 : 0 ≤ v.toInt) (h1 : v.toInt ≤ 2) : v = (0 : Int32) ∨ v = (1 : Int32) ∨ v = (2 : Int32) := by
  have : v.toInt = 0 ∨ v.toInt = 1 ∨ v.toInt = 2 := by omega
  rcases this with q | q | q
  · exact Or.inl (Int32.toInt_inj.mp q)
  · exact Or.inr (Or.inl (Int32.toInt_inj.mp q))
  · exact Or.inr (Or.inr (Int32.toInt_inj.mp q))

set_option maxHeartbeats 40000000 in
theorem own_core (e0 e1 e2 e3 e4 b o l f r58 r63 v67 r71 v75 r79 v83 r87 v91 r95 v99 v102 : Int32) (h : 0 ≤ o.toInt ∧ o.toInt ≤ 2 ∧ 0 ≤ l.toInt ∧ o.toInt + l.toInt ≤ 5 ∧ 0 ≤ f.toInt ∧ f.toInt ≤ l.toInt) (P58 : r58 = own_sc e0 e1 e2 e3 e4 b o (l.toInt.toNat - f.toInt.toNat) (o + f)) (P63 : r63 = F5 o l f b (4 : Int32) e0 e1 e2 e3 e4) (hv67 : v67 = (if r63 = (0 : Int32) then (-1 : Int32) else (4 : Int32))) (P71 : r71 = F5 o l f b (3 : Int32) e0 e1 e2 e3 e4) (hv75 : v75 = (if r71 = (0 : Int32) then v67 else (3 : Int32))) (P79 : r79 = F5 o l f b (2 : Int32) e0 e1 e2 e3 e4) (hv83 : v83 = (if r79 = (0 : Int32) then v75 else (2 : Int32))) (P87 : r87 = F5 o l f b (1 : Int32) e0 e1 e2 e3 e4) (hv91 : v91 = (if r87 = (0 : Int32) then v83 else (1 : Int32))) (P95 : r95 = F5 o l f b (0 : Int32) e0 e1 e2 e3 e4) (hv99 : v99 = (if r95 = (0 : Int32) then v91 else (0 : Int32))) (hv102 : v102 = (if r58 = v99 then (1 : Int32) else (0 : Int32))) : v102 = (1 : Int32) := by
  have z1 : nar .boolean 1 = 1 := by decide
  have z0 : nar .boolean 0 = 0 := by decide
  have ho := own_c3 h.1 h.2.1
  have hl := own_c6 h.2.2.1 (by omega)
  have hf := own_c6 h.2.2.2.2.1 (by omega)
  rw [hv102, if_pos]
  subst P58 P63 hv67 P71 hv75 P79 hv83 P87 hv91 P95 hv99
  clear hv102
  rcases ho with rfl | rfl | rfl <;> rcases hl with rfl | rfl | rfl | rfl | rfl | rfl <;> rcases hf with rfl | rfl | rfl | rfl | rfl | rfl <;> first | (exfalso; revert h; decide) | (clear h; by_cases h0 : e0 = b <;> by_cases h1 : e1 = b <;> by_cases h2 : e2 = b <;> by_cases h3 : e3 = b <;> by_cases h4 : e4 = b <;> simp +decide [F5, own_sc, own_el5, h0, h1, h2, h3, h4, z1, z0])

theorem pd_0 : parseMethodDescriptor "(JIBI)B" = some ⟨[.long, .int, .byte, .int], some .byte⟩ := by decide +kernel
set_option maxHeartbeats 8000000 in
theorem own_nz0_88 (x0 : Int64) (x1 : Int32) (x2 : Int32) (x3 : Int32) (x4 : Int32) (x5 : Int32) (v1 : Int32) (r7 : Int32) (r14 : Int32) (r21 : Int32) (r28 : Int32) (r35 : Int32) (v40 : Int32) (hv1 : v1 = (x2.toInt8.toInt32)) (P7 : r7 = F1 x0 x1 v1 (0 : Int32)) (P14 : r14 = F1 x0 x1 v1 (1 : Int32)) (P21 : r21 = F1 x0 x1 v1 (2 : Int32)) (P28 : r28 = F1 x0 x1 v1 (3 : Int32)) (P35 : r35 = F1 x0 x1 v1 (4 : Int32)) (hv40 : v40 = ((x3 &&& (2147483647 : Int32)) % (3 : Int32))) : ((6 : Int32) - v40) ≠ (0 : Int32) := by
  exact own_nz1 x3 v40 hv40
set_option maxHeartbeats 8000000 in
theorem own_nz0_100 (x0 : Int64) (x1 : Int32) (x2 : Int32) (x3 : Int32) (x4 : Int32) (x5 : Int32) (v1 : Int32) (r7 : Int32) (r14 : Int32) (r21 : Int32) (r28 : Int32) (r35 : Int32) (v40 : Int32) (v42 : Int32) (hv1 : v1 = (x2.toInt8.toInt32)) (P7 : r7 = F1 x0 x1 v1 (0 : Int32)) (P14 : r14 = F1 x0 x1 v1 (1 : Int32)) (P21 : r21 = F1 x0 x1 v1 (2 : Int32)) (P28 : r28 = F1 x0 x1 v1 (3 : Int32)) (P35 : r35 = F1 x0 x1 v1 (4 : Int32)) (hv40 : v40 = ((x3 &&& (2147483647 : Int32)) % (3 : Int32))) (hv42 : v42 = ((x4 &&& (2147483647 : Int32)) % ((6 : Int32) - v40))) : (v42 + (1 : Int32)) ≠ (0 : Int32) := by
  exact own_nz2 x3 x4 v40 v42 hv40 hv42
theorem pd_1 : parseMethodDescriptor "([BII)V" = some ⟨[(.array .byte), .int, .int], none⟩ := by decide +kernel
set_option maxHeartbeats 8000000 in
theorem own_need0_61_0 (x0 : Int64) (x1 : Int32) (x2 : Int32) (x3 : Int32) (x4 : Int32) (x5 : Int32) (v1 : Int32) (r7 : Int32) (r14 : Int32) (r21 : Int32) (r28 : Int32) (r35 : Int32) (v40 : Int32) (v42 : Int32) (v44 : Int32) (hv1 : v1 = (x2.toInt8.toInt32)) (P7 : r7 = F1 x0 x1 v1 (0 : Int32)) (P14 : r14 = F1 x0 x1 v1 (1 : Int32)) (P21 : r21 = F1 x0 x1 v1 (2 : Int32)) (P28 : r28 = F1 x0 x1 v1 (3 : Int32)) (P35 : r35 = F1 x0 x1 v1 (4 : Int32)) (hv40 : v40 = ((x3 &&& (2147483647 : Int32)) % (3 : Int32))) (hv42 : v42 = ((x4 &&& (2147483647 : Int32)) % ((6 : Int32) - v40))) (hv44 : v44 = ((x5 &&& (2147483647 : Int32)) % (v42 + (1 : Int32)))) : own_inv (v40 + v42) (v40 + v44) (v42.toInt.toNat - v44.toInt.toNat) := by
  exact own_inv0 x3 x4 x5 v40 v42 v44 hv40 hv42 hv44
theorem pd_2 : parseMethodDescriptor "(BI)I" = some ⟨[.byte, .int], some .int⟩ := by decide +kernel
set_option maxHeartbeats 8000000 in
theorem own_need0_66_0 (x0 : Int64) (x1 : Int32) (x2 : Int32) (x3 : Int32) (x4 : Int32) (x5 : Int32) (v1 : Int32) (r7 : Int32) (r14 : Int32) (r21 : Int32) (r28 : Int32) (r35 : Int32) (v40 : Int32) (v42 : Int32) (v44 : Int32) (r60 : Int32) (hv1 : v1 = (x2.toInt8.toInt32)) (P7 : r7 = F1 x0 x1 v1 (0 : Int32)) (P14 : r14 = F1 x0 x1 v1 (1 : Int32)) (P21 : r21 = F1 x0 x1 v1 (2 : Int32)) (P28 : r28 = F1 x0 x1 v1 (3 : Int32)) (P35 : r35 = F1 x0 x1 v1 (4 : Int32)) (hv40 : v40 = ((x3 &&& (2147483647 : Int32)) % (3 : Int32))) (hv42 : v42 = ((x4 &&& (2147483647 : Int32)) % ((6 : Int32) - v40))) (hv44 : v44 = ((x5 &&& (2147483647 : Int32)) % (v42 + (1 : Int32)))) (P60 : r60 = own_sc (nar .byte r7) (nar .byte r14) (nar .byte r21) (nar .byte r28) (nar .byte r35) v1 v40 (v42.toInt.toNat - v44.toInt.toNat) (v40 + v44)) : 0 ≤ v40.toInt ∧ 0 ≤ v42.toInt ∧ v40.toInt + v42.toInt ≤ 5 ∧ 0 ≤ v44.toInt ∧ 0 ≤ (4 : Int32).toInt := by
  exact own_hit x3 x4 x5 v40 v42 v44 _ 4 (by decide) (by decide) hv40 hv42 hv44
theorem pd_3 : parseMethodDescriptor "([BIIIBI)Z" = some ⟨[(.array .byte), .int, .int, .int, .byte, .int], some .boolean⟩ := by decide +kernel
set_option maxHeartbeats 8000000 in
theorem own_need0_74_0 (x0 : Int64) (x1 : Int32) (x2 : Int32) (x3 : Int32) (x4 : Int32) (x5 : Int32) (v1 : Int32) (r7 : Int32) (r14 : Int32) (r21 : Int32) (r28 : Int32) (r35 : Int32) (v40 : Int32) (v42 : Int32) (v44 : Int32) (r60 : Int32) (r65 : Int32) (v69 : Int32) (hv1 : v1 = (x2.toInt8.toInt32)) (P7 : r7 = F1 x0 x1 v1 (0 : Int32)) (P14 : r14 = F1 x0 x1 v1 (1 : Int32)) (P21 : r21 = F1 x0 x1 v1 (2 : Int32)) (P28 : r28 = F1 x0 x1 v1 (3 : Int32)) (P35 : r35 = F1 x0 x1 v1 (4 : Int32)) (hv40 : v40 = ((x3 &&& (2147483647 : Int32)) % (3 : Int32))) (hv42 : v42 = ((x4 &&& (2147483647 : Int32)) % ((6 : Int32) - v40))) (hv44 : v44 = ((x5 &&& (2147483647 : Int32)) % (v42 + (1 : Int32)))) (P60 : r60 = own_sc (nar .byte r7) (nar .byte r14) (nar .byte r21) (nar .byte r28) (nar .byte r35) v1 v40 (v42.toInt.toNat - v44.toInt.toNat) (v40 + v44)) (P65 : r65 = F5 v40 v42 v44 v1 (4 : Int32) (nar .byte r7) (nar .byte r14) (nar .byte r21) (nar .byte r28) (nar .byte r35)) (hv69 : v69 = (if r65 = (0 : Int32) then (-1 : Int32) else (4 : Int32))) : 0 ≤ v40.toInt ∧ 0 ≤ v42.toInt ∧ v40.toInt + v42.toInt ≤ 5 ∧ 0 ≤ v44.toInt ∧ 0 ≤ (3 : Int32).toInt := by
  exact own_hit x3 x4 x5 v40 v42 v44 _ 3 (by decide) (by decide) hv40 hv42 hv44
set_option maxHeartbeats 8000000 in
theorem own_need0_82_0 (x0 : Int64) (x1 : Int32) (x2 : Int32) (x3 : Int32) (x4 : Int32) (x5 : Int32) (v1 : Int32) (r7 : Int32) (r14 : Int32) (r21 : Int32) (r28 : Int32) (r35 : Int32) (v40 : Int32) (v42 : Int32) (v44 : Int32) (r60 : Int32) (r65 : Int32) (v69 : Int32) (r73 : Int32) (v77 : Int32) (hv1 : v1 = (x2.toInt8.toInt32)) (P7 : r7 = F1 x0 x1 v1 (0 : Int32)) (P14 : r14 = F1 x0 x1 v1 (1 : Int32)) (P21 : r21 = F1 x0 x1 v1 (2 : Int32)) (P28 : r28 = F1 x0 x1 v1 (3 : Int32)) (P35 : r35 = F1 x0 x1 v1 (4 : Int32)) (hv40 : v40 = ((x3 &&& (2147483647 : Int32)) % (3 : Int32))) (hv42 : v42 = ((x4 &&& (2147483647 : Int32)) % ((6 : Int32) - v40))) (hv44 : v44 = ((x5 &&& (2147483647 : Int32)) % (v42 + (1 : Int32)))) (P60 : r60 = own_sc (nar .byte r7) (nar .byte r14) (nar .byte r21) (nar .byte r28) (nar .byte r35) v1 v40 (v42.toInt.toNat - v44.toInt.toNat) (v40 + v44)) (P65 : r65 = F5 v40 v42 v44 v1 (4 : Int32) (nar .byte r7) (nar .byte r14) (nar .byte r21) (nar .byte r28) (nar .byte r35)) (hv69 : v69 = (if r65 = (0 : Int32) then (-1 : Int32) else (4 : Int32))) (P73 : r73 = F5 v40 v42 v44 v1 (3 : Int32) (nar .byte r7) (nar .byte r14) (nar .byte r21) (nar .byte r28) (nar .byte r35)) (hv77 : v77 = (if r73 = (0 : Int32) then v69 else (3 : Int32))) : 0 ≤ v40.toInt ∧ 0 ≤ v42.toInt ∧ v40.toInt + v42.toInt ≤ 5 ∧ 0 ≤ v44.toInt ∧ 0 ≤ (2 : Int32).toInt := by
  exact own_hit x3 x4 x5 v40 v42 v44 _ 2 (by decide) (by decide) hv40 hv42 hv44
set_option maxHeartbeats 8000000 in
theorem own_need0_90_0 (x0 : Int64) (x1 : Int32) (x2 : Int32) (x3 : Int32) (x4 : Int32) (x5 : Int32) (v1 : Int32) (r7 : Int32) (r14 : Int32) (r21 : Int32) (r28 : Int32) (r35 : Int32) (v40 : Int32) (v42 : Int32) (v44 : Int32) (r60 : Int32) (r65 : Int32) (v69 : Int32) (r73 : Int32) (v77 : Int32) (r81 : Int32) (v85 : Int32) (hv1 : v1 = (x2.toInt8.toInt32)) (P7 : r7 = F1 x0 x1 v1 (0 : Int32)) (P14 : r14 = F1 x0 x1 v1 (1 : Int32)) (P21 : r21 = F1 x0 x1 v1 (2 : Int32)) (P28 : r28 = F1 x0 x1 v1 (3 : Int32)) (P35 : r35 = F1 x0 x1 v1 (4 : Int32)) (hv40 : v40 = ((x3 &&& (2147483647 : Int32)) % (3 : Int32))) (hv42 : v42 = ((x4 &&& (2147483647 : Int32)) % ((6 : Int32) - v40))) (hv44 : v44 = ((x5 &&& (2147483647 : Int32)) % (v42 + (1 : Int32)))) (P60 : r60 = own_sc (nar .byte r7) (nar .byte r14) (nar .byte r21) (nar .byte r28) (nar .byte r35) v1 v40 (v42.toInt.toNat - v44.toInt.toNat) (v40 + v44)) (P65 : r65 = F5 v40 v42 v44 v1 (4 : Int32) (nar .byte r7) (nar .byte r14) (nar .byte r21) (nar .byte r28) (nar .byte r35)) (hv69 : v69 = (if r65 = (0 : Int32) then (-1 : Int32) else (4 : Int32))) (P73 : r73 = F5 v40 v42 v44 v1 (3 : Int32) (nar .byte r7) (nar .byte r14) (nar .byte r21) (nar .byte r28) (nar .byte r35)) (hv77 : v77 = (if r73 = (0 : Int32) then v69 else (3 : Int32))) (P81 : r81 = F5 v40 v42 v44 v1 (2 : Int32) (nar .byte r7) (nar .byte r14) (nar .byte r21) (nar .byte r28) (nar .byte r35)) (hv85 : v85 = (if r81 = (0 : Int32) then v77 else (2 : Int32))) : 0 ≤ v40.toInt ∧ 0 ≤ v42.toInt ∧ v40.toInt + v42.toInt ≤ 5 ∧ 0 ≤ v44.toInt ∧ 0 ≤ (1 : Int32).toInt := by
  exact own_hit x3 x4 x5 v40 v42 v44 _ 1 (by decide) (by decide) hv40 hv42 hv44
set_option maxHeartbeats 8000000 in
theorem own_need0_98_0 (x0 : Int64) (x1 : Int32) (x2 : Int32) (x3 : Int32) (x4 : Int32) (x5 : Int32) (v1 : Int32) (r7 : Int32) (r14 : Int32) (r21 : Int32) (r28 : Int32) (r35 : Int32) (v40 : Int32) (v42 : Int32) (v44 : Int32) (r60 : Int32) (r65 : Int32) (v69 : Int32) (r73 : Int32) (v77 : Int32) (r81 : Int32) (v85 : Int32) (r89 : Int32) (v93 : Int32) (hv1 : v1 = (x2.toInt8.toInt32)) (P7 : r7 = F1 x0 x1 v1 (0 : Int32)) (P14 : r14 = F1 x0 x1 v1 (1 : Int32)) (P21 : r21 = F1 x0 x1 v1 (2 : Int32)) (P28 : r28 = F1 x0 x1 v1 (3 : Int32)) (P35 : r35 = F1 x0 x1 v1 (4 : Int32)) (hv40 : v40 = ((x3 &&& (2147483647 : Int32)) % (3 : Int32))) (hv42 : v42 = ((x4 &&& (2147483647 : Int32)) % ((6 : Int32) - v40))) (hv44 : v44 = ((x5 &&& (2147483647 : Int32)) % (v42 + (1 : Int32)))) (P60 : r60 = own_sc (nar .byte r7) (nar .byte r14) (nar .byte r21) (nar .byte r28) (nar .byte r35) v1 v40 (v42.toInt.toNat - v44.toInt.toNat) (v40 + v44)) (P65 : r65 = F5 v40 v42 v44 v1 (4 : Int32) (nar .byte r7) (nar .byte r14) (nar .byte r21) (nar .byte r28) (nar .byte r35)) (hv69 : v69 = (if r65 = (0 : Int32) then (-1 : Int32) else (4 : Int32))) (P73 : r73 = F5 v40 v42 v44 v1 (3 : Int32) (nar .byte r7) (nar .byte r14) (nar .byte r21) (nar .byte r28) (nar .byte r35)) (hv77 : v77 = (if r73 = (0 : Int32) then v69 else (3 : Int32))) (P81 : r81 = F5 v40 v42 v44 v1 (2 : Int32) (nar .byte r7) (nar .byte r14) (nar .byte r21) (nar .byte r28) (nar .byte r35)) (hv85 : v85 = (if r81 = (0 : Int32) then v77 else (2 : Int32))) (P89 : r89 = F5 v40 v42 v44 v1 (1 : Int32) (nar .byte r7) (nar .byte r14) (nar .byte r21) (nar .byte r28) (nar .byte r35)) (hv93 : v93 = (if r89 = (0 : Int32) then v85 else (1 : Int32))) : 0 ≤ v40.toInt ∧ 0 ≤ v42.toInt ∧ v40.toInt + v42.toInt ≤ 5 ∧ 0 ≤ v44.toInt ∧ 0 ≤ (0 : Int32).toInt := by
  exact own_hit x3 x4 x5 v40 v42 v44 _ 0 (by decide) (by decide) hv40 hv42 hv44
set_option maxHeartbeats 8000000 in
theorem own_fin (x0 : Int64) (x1 : Int32) (x2 : Int32) (x3 : Int32) (x4 : Int32) (x5 : Int32) (v1 : Int32) (r7 : Int32) (r14 : Int32) (r21 : Int32) (r28 : Int32) (r35 : Int32) (v40 : Int32) (v42 : Int32) (v44 : Int32) (r60 : Int32) (r65 : Int32) (v69 : Int32) (r73 : Int32) (v77 : Int32) (r81 : Int32) (v85 : Int32) (r89 : Int32) (v93 : Int32) (r97 : Int32) (v101 : Int32) (v104 : Int32) (hv1 : v1 = (x2.toInt8.toInt32)) (P7 : r7 = F1 x0 x1 v1 (0 : Int32)) (P14 : r14 = F1 x0 x1 v1 (1 : Int32)) (P21 : r21 = F1 x0 x1 v1 (2 : Int32)) (P28 : r28 = F1 x0 x1 v1 (3 : Int32)) (P35 : r35 = F1 x0 x1 v1 (4 : Int32)) (hv40 : v40 = ((x3 &&& (2147483647 : Int32)) % (3 : Int32))) (hv42 : v42 = ((x4 &&& (2147483647 : Int32)) % ((6 : Int32) - v40))) (hv44 : v44 = ((x5 &&& (2147483647 : Int32)) % (v42 + (1 : Int32)))) (P60 : r60 = own_sc (nar .byte r7) (nar .byte r14) (nar .byte r21) (nar .byte r28) (nar .byte r35) v1 v40 (v42.toInt.toNat - v44.toInt.toNat) (v40 + v44)) (P65 : r65 = F5 v40 v42 v44 v1 (4 : Int32) (nar .byte r7) (nar .byte r14) (nar .byte r21) (nar .byte r28) (nar .byte r35)) (hv69 : v69 = (if r65 = (0 : Int32) then (-1 : Int32) else (4 : Int32))) (P73 : r73 = F5 v40 v42 v44 v1 (3 : Int32) (nar .byte r7) (nar .byte r14) (nar .byte r21) (nar .byte r28) (nar .byte r35)) (hv77 : v77 = (if r73 = (0 : Int32) then v69 else (3 : Int32))) (P81 : r81 = F5 v40 v42 v44 v1 (2 : Int32) (nar .byte r7) (nar .byte r14) (nar .byte r21) (nar .byte r28) (nar .byte r35)) (hv85 : v85 = (if r81 = (0 : Int32) then v77 else (2 : Int32))) (P89 : r89 = F5 v40 v42 v44 v1 (1 : Int32) (nar .byte r7) (nar .byte r14) (nar .byte r21) (nar .byte r28) (nar .byte r35)) (hv93 : v93 = (if r89 = (0 : Int32) then v85 else (1 : Int32))) (P97 : r97 = F5 v40 v42 v44 v1 (0 : Int32) (nar .byte r7) (nar .byte r14) (nar .byte r21) (nar .byte r28) (nar .byte r35)) (hv101 : v101 = (if r97 = (0 : Int32) then v93 else (0 : Int32))) (hv104 : v104 = (if r60 = v101 then (1 : Int32) else (0 : Int32))) : v104 = (1 : Int32) := by
  exact own_core _ _ _ _ _ v1 v40 v42 v44 r60 r65 v69 r73 v77 r81 v85 r89 v93 r97 v101 v104 (own_r3 x3 x4 x5 v40 v42 v44 hv40 hv42 hv44) P60 P65 hv69 P73 hv77 P81 hv85 P89 hv93 P97 hv101 hv104
theorem ef_0 (m : MethodId) (x0 : Int64) (x1 : Int32) (x2 : Int32) (x3 : Int32) (x4 : Int32) (x5 : Int32) : entryFrame m #[(.long x0), (.int x1), (.int x2), (.int x3), (.int x4), (.int x5)] maxLocals = mkF m 0 #[.val (.long x0), .second, .val (.int x1), .val (.int x2), .val (.int x3), .val (.int x4), .val (.int x5), .unset, .unset, .unset, .unset, .unset, .unset, .unset, .unset] [] := by first | (simp [entryFrame, mkF, argsToLocals, Value.category, maxLocals]; done) | rfl
def Q0 (Z : State) (x0 : Int64) (x1 : Int32) (x2 : Int32) (x3 : Int32) (x4 : Int32) (x5 : Int32) (h0 : Heap) (n0 : Nat) (v : Option Value) (h : Heap) (L : List Loc) : Prop := v = some (.int 1) ∧ Fr n0 L
set_option maxRecDepth 65536 in
set_option maxHeartbeats 40000000 in
theorem rm0 (l : Launch) (Z : State) (a0 : Array Value) (hw : ∀ d ∈ tables_1, d.before a0 Z = true) (ws : List Jvm.Cond) (x0 : Int64) (x1 : Int32) (x2 : Int32) (x3 : Int32) (x4 : Int32) (x5 : Int32) (h0 : Heap) (n0 : Nat) (Z0 : n0 ≤ h0.size) :
    MetFree l x (head1 (Jvm.Cond.code x code maxLocals ret :: ws) room_1) (fun aa U => aa = #[(.long x0), (.int x1), (.int x2), (.int x3), (.int x4), (.int x5)] ∧ Z.Warmed39 U.vm ∧ U.heap = h0) (fun _ _ _ _ _ => True) (fun _ U o U' => ∃ v L, o = .returned v ∧ Q0 Z x0 x1 x2 x3 x4 x5 h0 n0 v U'.heap L ∧ FrameEnd U o U' L room_1.cells room_1.slots) := by
  refine MetFree.of_bodySF (plainFor_of_name pn_1) hisR ?_
  intro p e s m args below meth c s₁ Bd hml0 hP hK
  obtain ⟨rfl, hZ, hh⟩ := hP
  have hx := Bd.exec
  have hby := Bd.bytes
  have hml : c.maxLocals = 15 := hml0
  have hown : s.vm.findClass "com/example/incipit/incipit/DataBytesIndexOfPinLaw" = some m.cls := findClass_of_methodNamed Bd.named
  have hnm := (name_of_methodNamed Bd.named Bd.method).1
  have X0 : Stand p l e room_1 s m #[(.long x0), (.int x1), (.int x2), (.int x3), (.int x4), (.int x5)] below meth c s₁ [] 0 0 := Stand.of_body Bd
  have e0 : s₁.heap = h0 := by rw [← hh, Bd.state]; rfl
  have N0 := Fr.nil n0
  have pre0 : ∀ t, Steps p.tables e below (s₁.setTop (mkF m 0 #[.val (.long x0), .second, .val (.int x1), .val (.int x2), .val (.int x3), .val (.int x4), .val (.int x5), .unset, .unset, .unset, .unset, .unset, .unset, .unset, .unset] [])) t → Steps p.tables e below (s₁.setTop (entryFrame m #[(.long x0), (.int x1), (.int x2), (.int x3), (.int x4), (.int x5)] maxLocals)) t := fun t k => castTop (ef_0 m x0 x1 x2 x3 x4 x5) k
  obtain ⟨v1, hv1⟩ : ∃ z : Int32, z = (x2.toInt8.toInt32) := ⟨_, rfl⟩
  have pre2 : ∀ t, Steps p.tables e below (s₁.setTop (mkF m 5 #[.val (.long x0), .second, .val (.int x1), .val (.int x2), .val (.int x3), .val (.int x4), .val (.int x5), .val (.int v1), .unset, .unset, .unset, .unset, .unset, .unset, .unset] [(.int (5 : Int32))])) t → Steps p.tables e below (s₁.setTop (entryFrame m #[(.long x0), (.int x1), (.int x2), (.int x3), (.int x4), (.int x5)] maxLocals)) t := fun t k => pre0 t (by
    subst hv1
    show Steps p.tables e below (s₁.setTop (mkF m 0 #[.val (.long x0), .second, .val (.int x1), .val (.int x2), .val (.int x3), .val (.int x4), .val (.int x5), .unset, .unset, .unset, .unset, .unset, .unset, .unset, .unset] [])) _
    refine XS.iloadN X0.here hx rfl (hb hby at_0) rfl ?_
    show Steps p.tables e below (s₁.setTop (mkF m 1 #[.val (.long x0), .second, .val (.int x1), .val (.int x2), .val (.int x3), .val (.int x4), .val (.int x5), .unset, .unset, .unset, .unset, .unset, .unset, .unset, .unset] [(.int x2)])) _
    refine XS.i2b X0.here hx rfl (hb hby at_1) rfl ?_
    show Steps p.tables e below (s₁.setTop (mkF m 2 #[.val (.long x0), .second, .val (.int x1), .val (.int x2), .val (.int x3), .val (.int x4), .val (.int x5), .unset, .unset, .unset, .unset, .unset, .unset, .unset, .unset] [(.int (x2.toInt8.toInt32))])) _
    refine XS.istore X0.here hx rfl (hb hby at_2) rfl (l' := #[.val (.long x0), .second, .val (.int x1), .val (.int x2), .val (.int x3), .val (.int x4), .val (.int x5), .val (.int (x2.toInt8.toInt32)), .unset, .unset, .unset, .unset, .unset, .unset, .unset]) rfl ?_
    show Steps p.tables e below (s₁.setTop (mkF m 4 #[.val (.long x0), .second, .val (.int x1), .val (.int x2), .val (.int x3), .val (.int x4), .val (.int x5), .val (.int (x2.toInt8.toInt32)), .unset, .unset, .unset, .unset, .unset, .unset, .unset] [])) _
    refine XS.iconst X0.here hx rfl (hb hby at_4) ?_
    show Steps p.tables e below (s₁.setTop (mkF m 5 #[.val (.long x0), .second, .val (.int x1), .val (.int x2), .val (.int x3), .val (.int x4), .val (.int x5), .val (.int (x2.toInt8.toInt32)), .unset, .unset, .unset, .unset, .unset, .unset, .unset] [(.int (5 : Int32))])) _
    exact k)
  obtain ⟨T3, h3, k3, X3, e3, E3, A3, st3⟩ := newP X0 hx hZ (hw _ (List.mem_of_getElem? (i := 0) rfl)) e0 (g := (mkF m 5 #[.val (.long x0), .second, .val (.int x1), .val (.int x2), .val (.int x3), .val (.int x4), .val (.int x5), .val (.int v1), .unset, .unset, .unset, .unset, .unset, .unset, .unset] [(.int (5 : Int32))])) rfl (hb hby at_5) rfl (by decide) (cap := 5) (by decide) (by decide) (by decide) (by decide)
  obtain ⟨b3, g3⟩ : ∃ z, z = h0.size := ⟨_, rfl⟩
  rw [← g3] at A3 st3
  have g_b3 : n0 ≤ b3 := Nat.le_trans Z0 (Nat.le_of_eq g3.symm)
  have Zz3 : n0 ≤ h3.size := Nat.le_trans Z0 E3.1
  have V_b3 : Arv Z h3 b3 k3 .byte (5 : Int32) [(.int (0 : Int32)), (.int (0 : Int32)), (.int (0 : Int32)), (.int (0 : Int32)), (.int (0 : Int32))] (.int (0 : Int32)) := (Arv.new A3 (by decide)).pad (pad_rep [] (.int (0 : Int32)) 5)
  have pre4 : ∀ t, Steps p.tables e below (T3.setTop (mkF m 7 #[.val (.long x0), .second, .val (.int x1), .val (.int x2), .val (.int x3), .val (.int x4), .val (.int x5), .val (.int v1), .unset, .unset, .unset, .unset, .unset, .unset, .unset] [(.ref b3)])) t → Steps p.tables e below (s₁.setTop (entryFrame m #[(.long x0), (.int x1), (.int x2), (.int x3), (.int x4), (.int x5)] maxLocals)) t := fun t k => pre2 t (st3 _ k)
  have pre5 : ∀ t, Steps p.tables e below (T3.setTop (mkF m 17 #[.val (.long x0), .second, .val (.int x1), .val (.int x2), .val (.int x3), .val (.int x4), .val (.int x5), .val (.int v1), .val (.ref b3), .unset, .unset, .unset, .unset, .unset, .unset] [(.int (0 : Int32)), (.int v1), (.int x1), (.long x0), (.int (0 : Int32)), (.ref b3)])) t → Steps p.tables e below (s₁.setTop (entryFrame m #[(.long x0), (.int x1), (.int x2), (.int x3), (.int x4), (.int x5)] maxLocals)) t := fun t k => pre4 t (by
    show Steps p.tables e below (T3.setTop (mkF m 7 #[.val (.long x0), .second, .val (.int x1), .val (.int x2), .val (.int x3), .val (.int x4), .val (.int x5), .val (.int v1), .unset, .unset, .unset, .unset, .unset, .unset, .unset] [(.ref b3)])) _
    refine XS.astore X3.here hx rfl (hb hby at_7) rfl rfl (l' := #[.val (.long x0), .second, .val (.int x1), .val (.int x2), .val (.int x3), .val (.int x4), .val (.int x5), .val (.int v1), .val (.ref b3), .unset, .unset, .unset, .unset, .unset, .unset]) rfl ?_
    show Steps p.tables e below (T3.setTop (mkF m 9 #[.val (.long x0), .second, .val (.int x1), .val (.int x2), .val (.int x3), .val (.int x4), .val (.int x5), .val (.int v1), .val (.ref b3), .unset, .unset, .unset, .unset, .unset, .unset] [])) _
    refine XS.aload X3.here hx rfl (hb hby at_9) rfl rfl ?_
    show Steps p.tables e below (T3.setTop (mkF m 11 #[.val (.long x0), .second, .val (.int x1), .val (.int x2), .val (.int x3), .val (.int x4), .val (.int x5), .val (.int v1), .val (.ref b3), .unset, .unset, .unset, .unset, .unset, .unset] [(.ref b3)])) _
    refine XS.iconst X3.here hx rfl (hb hby at_11) ?_
    show Steps p.tables e below (T3.setTop (mkF m 12 #[.val (.long x0), .second, .val (.int x1), .val (.int x2), .val (.int x3), .val (.int x4), .val (.int x5), .val (.int v1), .val (.ref b3), .unset, .unset, .unset, .unset, .unset, .unset] [(.int (0 : Int32)), (.ref b3)])) _
    refine XS.lloadN X3.here hx rfl (hb hby at_12) rfl ?_
    show Steps p.tables e below (T3.setTop (mkF m 13 #[.val (.long x0), .second, .val (.int x1), .val (.int x2), .val (.int x3), .val (.int x4), .val (.int x5), .val (.int v1), .val (.ref b3), .unset, .unset, .unset, .unset, .unset, .unset] [(.long x0), (.int (0 : Int32)), (.ref b3)])) _
    refine XS.iloadN X3.here hx rfl (hb hby at_13) rfl ?_
    show Steps p.tables e below (T3.setTop (mkF m 14 #[.val (.long x0), .second, .val (.int x1), .val (.int x2), .val (.int x3), .val (.int x4), .val (.int x5), .val (.int v1), .val (.ref b3), .unset, .unset, .unset, .unset, .unset, .unset] [(.int x1), (.long x0), (.int (0 : Int32)), (.ref b3)])) _
    refine XS.iload X3.here hx rfl (hb hby at_14) rfl ?_
    show Steps p.tables e below (T3.setTop (mkF m 16 #[.val (.long x0), .second, .val (.int x1), .val (.int x2), .val (.int x3), .val (.int x4), .val (.int x5), .val (.int v1), .val (.ref b3), .unset, .unset, .unset, .unset, .unset, .unset] [(.int v1), (.int x1), (.long x0), (.int (0 : Int32)), (.ref b3)])) _
    refine XS.iconst X3.here hx rfl (hb hby at_16) ?_
    show Steps p.tables e below (T3.setTop (mkF m 17 #[.val (.long x0), .second, .val (.int x1), .val (.int x2), .val (.int x3), .val (.int x4), .val (.int x5), .val (.int v1), .val (.ref b3), .unset, .unset, .unset, .unset, .unset, .unset] [(.int (0 : Int32)), (.int v1), (.int x1), (.long x0), (.int (0 : Int32)), (.ref b3)])) _
    exact k)
  obtain ⟨_, _, ⟨T7, L7, k7, n7⟩, -, X7, ⟨Lc7, hQ7, l7, y7, z7⟩, st7⟩ := Jvm.LawKit.callS X3 hx (y := (⟨"com/example/incipit/incipit/DataBytesIndexOfPinLaw", "pick", "(JIBI)B"⟩ : MethodName)) hown (mvT hZ (hw _ (List.mem_of_getElem? (i := 1) rfl))) (mvT hZ (hw _ (List.mem_of_getElem? (i := 2) rfl))) (mvT hZ (hw _ (List.mem_of_getElem? (i := 3) rfl))) (mvT hZ (hw _ (List.mem_of_getElem? (i := 4) rfl))) (by decide) (backOf (W := 2) (rm1 l Z a0 hw [] x0 x1 v1 (0 : Int32)  h3 n0 Zz3 ) hZ (hw _ (List.mem_of_getElem? (i := 4) rfl)) (hw _ (List.mem_of_getElem? (i := 3) rfl)) (by decide) (by decide)) (g := (mkF m 17 #[.val (.long x0), .second, .val (.int x1), .val (.int x2), .val (.int x3), .val (.int x4), .val (.int x5), .val (.int v1), .val (.ref b3), .unset, .unset, .unset, .unset, .unset, .unset] [(.int (0 : Int32)), (.int v1), (.int x1), (.long x0), (.int (0 : Int32)), (.ref b3)])) rfl (by rw [hml]; rfl) (argsL := [(.long x0), (.int x1), (.int v1), (.int (0 : Int32))]) (rest := [(.int (0 : Int32)), (.ref b3)]) (lenOf pd_0 rfl) rfl (by show 2 * 0 + _ ≤ _; exact Nat.le_of_eq rfl) (hb hby at_17) (fun _ _ => ⟨rfl, e3, (by decide : 1 + 0 ≤ _), (by decide : 5 + 0 ≤ _)⟩)
  dsimp only [Pt.U, Pt.locs, Pt.cells, Pt.slots] at X7 l7 y7 z7 st7 hQ7
  subst l7 y7 z7
  obtain ⟨r7, rfl, N7q, e7, P7⟩ := hQ7
  have N7 := Fr.app N0 N7q
  have pre8 : ∀ t, Steps p.tables e below (T7.setTop (mkF m 20 #[.val (.long x0), .second, .val (.int x1), .val (.int x2), .val (.int x3), .val (.int x4), .val (.int x5), .val (.int v1), .val (.ref b3), .unset, .unset, .unset, .unset, .unset, .unset] [(.int r7), (.int (0 : Int32)), (.ref b3)])) t → Steps p.tables e below (s₁.setTop (entryFrame m #[(.long x0), (.int x1), (.int x2), (.int x3), (.int x4), (.int x5)] maxLocals)) t := fun t k => pre5 t (st7 _ k)
  obtain ⟨cl9, Ar9, q9, S9, M9, H9, G9⟩ := id V_b3
  have hin9 : ¬ ((0 : Int32) < 0 ∨ cl9.slots.size ≤ ((0 : Int32)).toNatClampNeg) := inb_of S9 ⟨by decide, by decide⟩
  obtain ⟨T9, h9, X9, e9, W9, st9⟩ := stB X7 hx hZ e7 Ar9 (j := (0 : Int32)) hin9 (g := (mkF m 20 #[.val (.long x0), .second, .val (.int x1), .val (.int x2), .val (.int x3), .val (.int x4), .val (.int x5), .val (.int v1), .val (.ref b3), .unset, .unset, .unset, .unset, .unset, .unset] [(.int r7), (.int (0 : Int32)), (.ref b3)])) rfl rfl (hb hby at_20)
  have V9 : Arv Z h9 b3 k3 .byte (5 : Int32) [(.int (nar .byte r7)), (.int (0 : Int32)), (.int (0 : Int32)), (.int (0 : Int32)), (.int (0 : Int32))] (.int (0 : Int32)) := Arv.set Ar9 q9 S9 M9 H9 G9 (fits_nar_byte _) W9 0 rfl (Nat.le_of_ble_eq_true rfl)
  have N9 := Fr.snoc X9 N7 g_b3
  have Zz9 : n0 ≤ h9.size := Nat.le_trans Zz3 (Keep.of_wr W9).1
  have pre11 : ∀ t, Steps p.tables e below (T9.setTop (mkF m 21 #[.val (.long x0), .second, .val (.int x1), .val (.int x2), .val (.int x3), .val (.int x4), .val (.int x5), .val (.int v1), .val (.ref b3), .unset, .unset, .unset, .unset, .unset, .unset] [])) t → Steps p.tables e below (s₁.setTop (entryFrame m #[(.long x0), (.int x1), (.int x2), (.int x3), (.int x4), (.int x5)] maxLocals)) t := fun t k => pre8 t (st9 _ k)
  have pre12 : ∀ t, Steps p.tables e below (T9.setTop (mkF m 29 #[.val (.long x0), .second, .val (.int x1), .val (.int x2), .val (.int x3), .val (.int x4), .val (.int x5), .val (.int v1), .val (.ref b3), .unset, .unset, .unset, .unset, .unset, .unset] [(.int (1 : Int32)), (.int v1), (.int x1), (.long x0), (.int (1 : Int32)), (.ref b3)])) t → Steps p.tables e below (s₁.setTop (entryFrame m #[(.long x0), (.int x1), (.int x2), (.int x3), (.int x4), (.int x5)] maxLocals)) t := fun t k => pre11 t (by
    show Steps p.tables e below (T9.setTop (mkF m 21 #[.val (.long x0), .second, .val (.int x1), .val (.int x2), .val (.int x3), .val (.int x4), .val (.int x5), .val (.int v1), .val (.ref b3), .unset, .unset, .unset, .unset, .unset, .unset] [])) _
    refine XS.aload X9.here hx rfl (hb hby at_21) rfl rfl ?_
    show Steps p.tables e below (T9.setTop (mkF m 23 #[.val (.long x0), .second, .val (.int x1), .val (.int x2), .val (.int x3), .val (.int x4), .val (.int x5), .val (.int v1), .val (.ref b3), .unset, .unset, .unset, .unset, .unset, .unset] [(.ref b3)])) _
    refine XS.iconst X9.here hx rfl (hb hby at_23) ?_
    show Steps p.tables e below (T9.setTop (mkF m 24 #[.val (.long x0), .second, .val (.int x1), .val (.int x2), .val (.int x3), .val (.int x4), .val (.int x5), .val (.int v1), .val (.ref b3), .unset, .unset, .unset, .unset, .unset, .unset] [(.int (1 : Int32)), (.ref b3)])) _
    refine XS.lloadN X9.here hx rfl (hb hby at_24) rfl ?_
    show Steps p.tables e below (T9.setTop (mkF m 25 #[.val (.long x0), .second, .val (.int x1), .val (.int x2), .val (.int x3), .val (.int x4), .val (.int x5), .val (.int v1), .val (.ref b3), .unset, .unset, .unset, .unset, .unset, .unset] [(.long x0), (.int (1 : Int32)), (.ref b3)])) _
    refine XS.iloadN X9.here hx rfl (hb hby at_25) rfl ?_
    show Steps p.tables e below (T9.setTop (mkF m 26 #[.val (.long x0), .second, .val (.int x1), .val (.int x2), .val (.int x3), .val (.int x4), .val (.int x5), .val (.int v1), .val (.ref b3), .unset, .unset, .unset, .unset, .unset, .unset] [(.int x1), (.long x0), (.int (1 : Int32)), (.ref b3)])) _
    refine XS.iload X9.here hx rfl (hb hby at_26) rfl ?_
    show Steps p.tables e below (T9.setTop (mkF m 28 #[.val (.long x0), .second, .val (.int x1), .val (.int x2), .val (.int x3), .val (.int x4), .val (.int x5), .val (.int v1), .val (.ref b3), .unset, .unset, .unset, .unset, .unset, .unset] [(.int v1), (.int x1), (.long x0), (.int (1 : Int32)), (.ref b3)])) _
    refine XS.iconst X9.here hx rfl (hb hby at_28) ?_
    show Steps p.tables e below (T9.setTop (mkF m 29 #[.val (.long x0), .second, .val (.int x1), .val (.int x2), .val (.int x3), .val (.int x4), .val (.int x5), .val (.int v1), .val (.ref b3), .unset, .unset, .unset, .unset, .unset, .unset] [(.int (1 : Int32)), (.int v1), (.int x1), (.long x0), (.int (1 : Int32)), (.ref b3)])) _
    exact k)
  obtain ⟨_, _, ⟨T14, L14, k14, n14⟩, -, X14, ⟨Lc14, hQ14, l14, y14, z14⟩, st14⟩ := Jvm.LawKit.callS X9 hx (y := (⟨"com/example/incipit/incipit/DataBytesIndexOfPinLaw", "pick", "(JIBI)B"⟩ : MethodName)) hown (mvT hZ (hw _ (List.mem_of_getElem? (i := 1) rfl))) (mvT hZ (hw _ (List.mem_of_getElem? (i := 2) rfl))) (mvT hZ (hw _ (List.mem_of_getElem? (i := 3) rfl))) (mvT hZ (hw _ (List.mem_of_getElem? (i := 4) rfl))) (by decide) (backOf (W := 2) (rm1 l Z a0 hw [] x0 x1 v1 (1 : Int32)  h9 n0 Zz9 ) hZ (hw _ (List.mem_of_getElem? (i := 4) rfl)) (hw _ (List.mem_of_getElem? (i := 3) rfl)) (by decide) (by decide)) (g := (mkF m 29 #[.val (.long x0), .second, .val (.int x1), .val (.int x2), .val (.int x3), .val (.int x4), .val (.int x5), .val (.int v1), .val (.ref b3), .unset, .unset, .unset, .unset, .unset, .unset] [(.int (1 : Int32)), (.int v1), (.int x1), (.long x0), (.int (1 : Int32)), (.ref b3)])) rfl (by rw [hml]; rfl) (argsL := [(.long x0), (.int x1), (.int v1), (.int (1 : Int32))]) (rest := [(.int (1 : Int32)), (.ref b3)]) (lenOf pd_0 rfl) rfl (by show 2 * 0 + _ ≤ _; exact Nat.le_of_eq rfl) (hb hby at_29) (fun _ _ => ⟨rfl, e9, (by decide : 1 + 0 ≤ _), (by decide : 5 + 0 ≤ _)⟩)
  dsimp only [Pt.U, Pt.locs, Pt.cells, Pt.slots] at X14 l14 y14 z14 st14 hQ14
  subst l14 y14 z14
  obtain ⟨r14, rfl, N14q, e14, P14⟩ := hQ14
  have N14 := Fr.app N9 N14q
  have pre15 : ∀ t, Steps p.tables e below (T14.setTop (mkF m 32 #[.val (.long x0), .second, .val (.int x1), .val (.int x2), .val (.int x3), .val (.int x4), .val (.int x5), .val (.int v1), .val (.ref b3), .unset, .unset, .unset, .unset, .unset, .unset] [(.int r14), (.int (1 : Int32)), (.ref b3)])) t → Steps p.tables e below (s₁.setTop (entryFrame m #[(.long x0), (.int x1), (.int x2), (.int x3), (.int x4), (.int x5)] maxLocals)) t := fun t k => pre12 t (st14 _ k)
  obtain ⟨cl16, Ar16, q16, S16, M16, H16, G16⟩ := id V9
  have hin16 : ¬ ((1 : Int32) < 0 ∨ cl16.slots.size ≤ ((1 : Int32)).toNatClampNeg) := inb_of S16 ⟨by decide, by decide⟩
  obtain ⟨T16, h16, X16, e16, W16, st16⟩ := stB X14 hx hZ e14 Ar16 (j := (1 : Int32)) hin16 (g := (mkF m 32 #[.val (.long x0), .second, .val (.int x1), .val (.int x2), .val (.int x3), .val (.int x4), .val (.int x5), .val (.int v1), .val (.ref b3), .unset, .unset, .unset, .unset, .unset, .unset] [(.int r14), (.int (1 : Int32)), (.ref b3)])) rfl rfl (hb hby at_32)
  have V16 : Arv Z h16 b3 k3 .byte (5 : Int32) [(.int (nar .byte r7)), (.int (nar .byte r14)), (.int (0 : Int32)), (.int (0 : Int32)), (.int (0 : Int32))] (.int (0 : Int32)) := Arv.set Ar16 q16 S16 M16 H16 G16 (fits_nar_byte _) W16 1 rfl (Nat.le_of_ble_eq_true rfl)
  have N16 := Fr.snoc X16 N14 g_b3
  have Zz16 : n0 ≤ h16.size := Nat.le_trans Zz9 (Keep.of_wr W16).1
  have pre18 : ∀ t, Steps p.tables e below (T16.setTop (mkF m 33 #[.val (.long x0), .second, .val (.int x1), .val (.int x2), .val (.int x3), .val (.int x4), .val (.int x5), .val (.int v1), .val (.ref b3), .unset, .unset, .unset, .unset, .unset, .unset] [])) t → Steps p.tables e below (s₁.setTop (entryFrame m #[(.long x0), (.int x1), (.int x2), (.int x3), (.int x4), (.int x5)] maxLocals)) t := fun t k => pre15 t (st16 _ k)
  have pre19 : ∀ t, Steps p.tables e below (T16.setTop (mkF m 41 #[.val (.long x0), .second, .val (.int x1), .val (.int x2), .val (.int x3), .val (.int x4), .val (.int x5), .val (.int v1), .val (.ref b3), .unset, .unset, .unset, .unset, .unset, .unset] [(.int (2 : Int32)), (.int v1), (.int x1), (.long x0), (.int (2 : Int32)), (.ref b3)])) t → Steps p.tables e below (s₁.setTop (entryFrame m #[(.long x0), (.int x1), (.int x2), (.int x3), (.int x4), (.int x5)] maxLocals)) t := fun t k => pre18 t (by
    show Steps p.tables e below (T16.setTop (mkF m 33 #[.val (.long x0), .second, .val (.int x1), .val (.int x2), .val (.int x3), .val (.int x4), .val (.int x5), .val (.int v1), .val (.ref b3), .unset, .unset, .unset, .unset, .unset, .unset] [])) _
    refine XS.aload X16.here hx rfl (hb hby at_33) rfl rfl ?_
    show Steps p.tables e below (T16.setTop (mkF m 35 #[.val (.long x0), .second, .val (.int x1), .val (.int x2), .val (.int x3), .val (.int x4), .val (.int x5), .val (.int v1), .val (.ref b3), .unset, .unset, .unset, .unset, .unset, .unset] [(.ref b3)])) _
    refine XS.iconst X16.here hx rfl (hb hby at_35) ?_
    show Steps p.tables e below (T16.setTop (mkF m 36 #[.val (.long x0), .second, .val (.int x1), .val (.int x2), .val (.int x3), .val (.int x4), .val (.int x5), .val (.int v1), .val (.ref b3), .unset, .unset, .unset, .unset, .unset, .unset] [(.int (2 : Int32)), (.ref b3)])) _
    refine XS.lloadN X16.here hx rfl (hb hby at_36) rfl ?_
    show Steps p.tables e below (T16.setTop (mkF m 37 #[.val (.long x0), .second, .val (.int x1), .val (.int x2), .val (.int x3), .val (.int x4), .val (.int x5), .val (.int v1), .val (.ref b3), .unset, .unset, .unset, .unset, .unset, .unset] [(.long x0), (.int (2 : Int32)), (.ref b3)])) _
    refine XS.iloadN X16.here hx rfl (hb hby at_37) rfl ?_
    show Steps p.tables e below (T16.setTop (mkF m 38 #[.val (.long x0), .second, .val (.int x1), .val (.int x2), .val (.int x3), .val (.int x4), .val (.int x5), .val (.int v1), .val (.ref b3), .unset, .unset, .unset, .unset, .unset, .unset] [(.int x1), (.long x0), (.int (2 : Int32)), (.ref b3)])) _
    refine XS.iload X16.here hx rfl (hb hby at_38) rfl ?_
    show Steps p.tables e below (T16.setTop (mkF m 40 #[.val (.long x0), .second, .val (.int x1), .val (.int x2), .val (.int x3), .val (.int x4), .val (.int x5), .val (.int v1), .val (.ref b3), .unset, .unset, .unset, .unset, .unset, .unset] [(.int v1), (.int x1), (.long x0), (.int (2 : Int32)), (.ref b3)])) _
    refine XS.iconst X16.here hx rfl (hb hby at_40) ?_
    show Steps p.tables e below (T16.setTop (mkF m 41 #[.val (.long x0), .second, .val (.int x1), .val (.int x2), .val (.int x3), .val (.int x4), .val (.int x5), .val (.int v1), .val (.ref b3), .unset, .unset, .unset, .unset, .unset, .unset] [(.int (2 : Int32)), (.int v1), (.int x1), (.long x0), (.int (2 : Int32)), (.ref b3)])) _
    exact k)
  obtain ⟨_, _, ⟨T21, L21, k21, n21⟩, -, X21, ⟨Lc21, hQ21, l21, y21, z21⟩, st21⟩ := Jvm.LawKit.callS X16 hx (y := (⟨"com/example/incipit/incipit/DataBytesIndexOfPinLaw", "pick", "(JIBI)B"⟩ : MethodName)) hown (mvT hZ (hw _ (List.mem_of_getElem? (i := 1) rfl))) (mvT hZ (hw _ (List.mem_of_getElem? (i := 2) rfl))) (mvT hZ (hw _ (List.mem_of_getElem? (i := 3) rfl))) (mvT hZ (hw _ (List.mem_of_getElem? (i := 4) rfl))) (by decide) (backOf (W := 2) (rm1 l Z a0 hw [] x0 x1 v1 (2 : Int32)  h16 n0 Zz16 ) hZ (hw _ (List.mem_of_getElem? (i := 4) rfl)) (hw _ (List.mem_of_getElem? (i := 3) rfl)) (by decide) (by decide)) (g := (mkF m 41 #[.val (.long x0), .second, .val (.int x1), .val (.int x2), .val (.int x3), .val (.int x4), .val (.int x5), .val (.int v1), .val (.ref b3), .unset, .unset, .unset, .unset, .unset, .unset] [(.int (2 : Int32)), (.int v1), (.int x1), (.long x0), (.int (2 : Int32)), (.ref b3)])) rfl (by rw [hml]; rfl) (argsL := [(.long x0), (.int x1), (.int v1), (.int (2 : Int32))]) (rest := [(.int (2 : Int32)), (.ref b3)]) (lenOf pd_0 rfl) rfl (by show 2 * 0 + _ ≤ _; exact Nat.le_of_eq rfl) (hb hby at_41) (fun _ _ => ⟨rfl, e16, (by decide : 1 + 0 ≤ _), (by decide : 5 + 0 ≤ _)⟩)
  dsimp only [Pt.U, Pt.locs, Pt.cells, Pt.slots] at X21 l21 y21 z21 st21 hQ21
  subst l21 y21 z21
  obtain ⟨r21, rfl, N21q, e21, P21⟩ := hQ21
  have N21 := Fr.app N16 N21q
  have pre22 : ∀ t, Steps p.tables e below (T21.setTop (mkF m 44 #[.val (.long x0), .second, .val (.int x1), .val (.int x2), .val (.int x3), .val (.int x4), .val (.int x5), .val (.int v1), .val (.ref b3), .unset, .unset, .unset, .unset, .unset, .unset] [(.int r21), (.int (2 : Int32)), (.ref b3)])) t → Steps p.tables e below (s₁.setTop (entryFrame m #[(.long x0), (.int x1), (.int x2), (.int x3), (.int x4), (.int x5)] maxLocals)) t := fun t k => pre19 t (st21 _ k)
  obtain ⟨cl23, Ar23, q23, S23, M23, H23, G23⟩ := id V16
  have hin23 : ¬ ((2 : Int32) < 0 ∨ cl23.slots.size ≤ ((2 : Int32)).toNatClampNeg) := inb_of S23 ⟨by decide, by decide⟩
  obtain ⟨T23, h23, X23, e23, W23, st23⟩ := stB X21 hx hZ e21 Ar23 (j := (2 : Int32)) hin23 (g := (mkF m 44 #[.val (.long x0), .second, .val (.int x1), .val (.int x2), .val (.int x3), .val (.int x4), .val (.int x5), .val (.int v1), .val (.ref b3), .unset, .unset, .unset, .unset, .unset, .unset] [(.int r21), (.int (2 : Int32)), (.ref b3)])) rfl rfl (hb hby at_44)
  have V23 : Arv Z h23 b3 k3 .byte (5 : Int32) [(.int (nar .byte r7)), (.int (nar .byte r14)), (.int (nar .byte r21)), (.int (0 : Int32)), (.int (0 : Int32))] (.int (0 : Int32)) := Arv.set Ar23 q23 S23 M23 H23 G23 (fits_nar_byte _) W23 2 rfl (Nat.le_of_ble_eq_true rfl)
  have N23 := Fr.snoc X23 N21 g_b3
  have Zz23 : n0 ≤ h23.size := Nat.le_trans Zz16 (Keep.of_wr W23).1
  have pre25 : ∀ t, Steps p.tables e below (T23.setTop (mkF m 45 #[.val (.long x0), .second, .val (.int x1), .val (.int x2), .val (.int x3), .val (.int x4), .val (.int x5), .val (.int v1), .val (.ref b3), .unset, .unset, .unset, .unset, .unset, .unset] [])) t → Steps p.tables e below (s₁.setTop (entryFrame m #[(.long x0), (.int x1), (.int x2), (.int x3), (.int x4), (.int x5)] maxLocals)) t := fun t k => pre22 t (st23 _ k)
  have pre26 : ∀ t, Steps p.tables e below (T23.setTop (mkF m 53 #[.val (.long x0), .second, .val (.int x1), .val (.int x2), .val (.int x3), .val (.int x4), .val (.int x5), .val (.int v1), .val (.ref b3), .unset, .unset, .unset, .unset, .unset, .unset] [(.int (3 : Int32)), (.int v1), (.int x1), (.long x0), (.int (3 : Int32)), (.ref b3)])) t → Steps p.tables e below (s₁.setTop (entryFrame m #[(.long x0), (.int x1), (.int x2), (.int x3), (.int x4), (.int x5)] maxLocals)) t := fun t k => pre25 t (by
    show Steps p.tables e below (T23.setTop (mkF m 45 #[.val (.long x0), .second, .val (.int x1), .val (.int x2), .val (.int x3), .val (.int x4), .val (.int x5), .val (.int v1), .val (.ref b3), .unset, .unset, .unset, .unset, .unset, .unset] [])) _
    refine XS.aload X23.here hx rfl (hb hby at_45) rfl rfl ?_
    show Steps p.tables e below (T23.setTop (mkF m 47 #[.val (.long x0), .second, .val (.int x1), .val (.int x2), .val (.int x3), .val (.int x4), .val (.int x5), .val (.int v1), .val (.ref b3), .unset, .unset, .unset, .unset, .unset, .unset] [(.ref b3)])) _
    refine XS.iconst X23.here hx rfl (hb hby at_47) ?_
    show Steps p.tables e below (T23.setTop (mkF m 48 #[.val (.long x0), .second, .val (.int x1), .val (.int x2), .val (.int x3), .val (.int x4), .val (.int x5), .val (.int v1), .val (.ref b3), .unset, .unset, .unset, .unset, .unset, .unset] [(.int (3 : Int32)), (.ref b3)])) _
    refine XS.lloadN X23.here hx rfl (hb hby at_48) rfl ?_
    show Steps p.tables e below (T23.setTop (mkF m 49 #[.val (.long x0), .second, .val (.int x1), .val (.int x2), .val (.int x3), .val (.int x4), .val (.int x5), .val (.int v1), .val (.ref b3), .unset, .unset, .unset, .unset, .unset, .unset] [(.long x0), (.int (3 : Int32)), (.ref b3)])) _
    refine XS.iloadN X23.here hx rfl (hb hby at_49) rfl ?_
    show Steps p.tables e below (T23.setTop (mkF m 50 #[.val (.long x0), .second, .val (.int x1), .val (.int x2), .val (.int x3), .val (.int x4), .val (.int x5), .val (.int v1), .val (.ref b3), .unset, .unset, .unset, .unset, .unset, .unset] [(.int x1), (.long x0), (.int (3 : Int32)), (.ref b3)])) _
    refine XS.iload X23.here hx rfl (hb hby at_50) rfl ?_
    show Steps p.tables e below (T23.setTop (mkF m 52 #[.val (.long x0), .second, .val (.int x1), .val (.int x2), .val (.int x3), .val (.int x4), .val (.int x5), .val (.int v1), .val (.ref b3), .unset, .unset, .unset, .unset, .unset, .unset] [(.int v1), (.int x1), (.long x0), (.int (3 : Int32)), (.ref b3)])) _
    refine XS.iconst X23.here hx rfl (hb hby at_52) ?_
    show Steps p.tables e below (T23.setTop (mkF m 53 #[.val (.long x0), .second, .val (.int x1), .val (.int x2), .val (.int x3), .val (.int x4), .val (.int x5), .val (.int v1), .val (.ref b3), .unset, .unset, .unset, .unset, .unset, .unset] [(.int (3 : Int32)), (.int v1), (.int x1), (.long x0), (.int (3 : Int32)), (.ref b3)])) _
    exact k)
  obtain ⟨_, _, ⟨T28, L28, k28, n28⟩, -, X28, ⟨Lc28, hQ28, l28, y28, z28⟩, st28⟩ := Jvm.LawKit.callS X23 hx (y := (⟨"com/example/incipit/incipit/DataBytesIndexOfPinLaw", "pick", "(JIBI)B"⟩ : MethodName)) hown (mvT hZ (hw _ (List.mem_of_getElem? (i := 1) rfl))) (mvT hZ (hw _ (List.mem_of_getElem? (i := 2) rfl))) (mvT hZ (hw _ (List.mem_of_getElem? (i := 3) rfl))) (mvT hZ (hw _ (List.mem_of_getElem? (i := 4) rfl))) (by decide) (backOf (W := 2) (rm1 l Z a0 hw [] x0 x1 v1 (3 : Int32)  h23 n0 Zz23 ) hZ (hw _ (List.mem_of_getElem? (i := 4) rfl)) (hw _ (List.mem_of_getElem? (i := 3) rfl)) (by decide) (by decide)) (g := (mkF m 53 #[.val (.long x0), .second, .val (.int x1), .val (.int x2), .val (.int x3), .val (.int x4), .val (.int x5), .val (.int v1), .val (.ref b3), .unset, .unset, .unset, .unset, .unset, .unset] [(.int (3 : Int32)), (.int v1), (.int x1), (.long x0), (.int (3 : Int32)), (.ref b3)])) rfl (by rw [hml]; rfl) (argsL := [(.long x0), (.int x1), (.int v1), (.int (3 : Int32))]) (rest := [(.int (3 : Int32)), (.ref b3)]) (lenOf pd_0 rfl) rfl (by show 2 * 0 + _ ≤ _; exact Nat.le_of_eq rfl) (hb hby at_53) (fun _ _ => ⟨rfl, e23, (by decide : 1 + 0 ≤ _), (by decide : 5 + 0 ≤ _)⟩)
  dsimp only [Pt.U, Pt.locs, Pt.cells, Pt.slots] at X28 l28 y28 z28 st28 hQ28
  subst l28 y28 z28
  obtain ⟨r28, rfl, N28q, e28, P28⟩ := hQ28
  have N28 := Fr.app N23 N28q
  have pre29 : ∀ t, Steps p.tables e below (T28.setTop (mkF m 56 #[.val (.long x0), .second, .val (.int x1), .val (.int x2), .val (.int x3), .val (.int x4), .val (.int x5), .val (.int v1), .val (.ref b3), .unset, .unset, .unset, .unset, .unset, .unset] [(.int r28), (.int (3 : Int32)), (.ref b3)])) t → Steps p.tables e below (s₁.setTop (entryFrame m #[(.long x0), (.int x1), (.int x2), (.int x3), (.int x4), (.int x5)] maxLocals)) t := fun t k => pre26 t (st28 _ k)
  obtain ⟨cl30, Ar30, q30, S30, M30, H30, G30⟩ := id V23
  have hin30 : ¬ ((3 : Int32) < 0 ∨ cl30.slots.size ≤ ((3 : Int32)).toNatClampNeg) := inb_of S30 ⟨by decide, by decide⟩
  obtain ⟨T30, h30, X30, e30, W30, st30⟩ := stB X28 hx hZ e28 Ar30 (j := (3 : Int32)) hin30 (g := (mkF m 56 #[.val (.long x0), .second, .val (.int x1), .val (.int x2), .val (.int x3), .val (.int x4), .val (.int x5), .val (.int v1), .val (.ref b3), .unset, .unset, .unset, .unset, .unset, .unset] [(.int r28), (.int (3 : Int32)), (.ref b3)])) rfl rfl (hb hby at_56)
  have V30 : Arv Z h30 b3 k3 .byte (5 : Int32) [(.int (nar .byte r7)), (.int (nar .byte r14)), (.int (nar .byte r21)), (.int (nar .byte r28)), (.int (0 : Int32))] (.int (0 : Int32)) := Arv.set Ar30 q30 S30 M30 H30 G30 (fits_nar_byte _) W30 3 rfl (Nat.le_of_ble_eq_true rfl)
  have N30 := Fr.snoc X30 N28 g_b3
  have Zz30 : n0 ≤ h30.size := Nat.le_trans Zz23 (Keep.of_wr W30).1
  have pre32 : ∀ t, Steps p.tables e below (T30.setTop (mkF m 57 #[.val (.long x0), .second, .val (.int x1), .val (.int x2), .val (.int x3), .val (.int x4), .val (.int x5), .val (.int v1), .val (.ref b3), .unset, .unset, .unset, .unset, .unset, .unset] [])) t → Steps p.tables e below (s₁.setTop (entryFrame m #[(.long x0), (.int x1), (.int x2), (.int x3), (.int x4), (.int x5)] maxLocals)) t := fun t k => pre29 t (st30 _ k)
  have pre33 : ∀ t, Steps p.tables e below (T30.setTop (mkF m 65 #[.val (.long x0), .second, .val (.int x1), .val (.int x2), .val (.int x3), .val (.int x4), .val (.int x5), .val (.int v1), .val (.ref b3), .unset, .unset, .unset, .unset, .unset, .unset] [(.int (4 : Int32)), (.int v1), (.int x1), (.long x0), (.int (4 : Int32)), (.ref b3)])) t → Steps p.tables e below (s₁.setTop (entryFrame m #[(.long x0), (.int x1), (.int x2), (.int x3), (.int x4), (.int x5)] maxLocals)) t := fun t k => pre32 t (by
    show Steps p.tables e below (T30.setTop (mkF m 57 #[.val (.long x0), .second, .val (.int x1), .val (.int x2), .val (.int x3), .val (.int x4), .val (.int x5), .val (.int v1), .val (.ref b3), .unset, .unset, .unset, .unset, .unset, .unset] [])) _
    refine XS.aload X30.here hx rfl (hb hby at_57) rfl rfl ?_
    show Steps p.tables e below (T30.setTop (mkF m 59 #[.val (.long x0), .second, .val (.int x1), .val (.int x2), .val (.int x3), .val (.int x4), .val (.int x5), .val (.int v1), .val (.ref b3), .unset, .unset, .unset, .unset, .unset, .unset] [(.ref b3)])) _
    refine XS.iconst X30.here hx rfl (hb hby at_59) ?_
    show Steps p.tables e below (T30.setTop (mkF m 60 #[.val (.long x0), .second, .val (.int x1), .val (.int x2), .val (.int x3), .val (.int x4), .val (.int x5), .val (.int v1), .val (.ref b3), .unset, .unset, .unset, .unset, .unset, .unset] [(.int (4 : Int32)), (.ref b3)])) _
    refine XS.lloadN X30.here hx rfl (hb hby at_60) rfl ?_
    show Steps p.tables e below (T30.setTop (mkF m 61 #[.val (.long x0), .second, .val (.int x1), .val (.int x2), .val (.int x3), .val (.int x4), .val (.int x5), .val (.int v1), .val (.ref b3), .unset, .unset, .unset, .unset, .unset, .unset] [(.long x0), (.int (4 : Int32)), (.ref b3)])) _
    refine XS.iloadN X30.here hx rfl (hb hby at_61) rfl ?_
    show Steps p.tables e below (T30.setTop (mkF m 62 #[.val (.long x0), .second, .val (.int x1), .val (.int x2), .val (.int x3), .val (.int x4), .val (.int x5), .val (.int v1), .val (.ref b3), .unset, .unset, .unset, .unset, .unset, .unset] [(.int x1), (.long x0), (.int (4 : Int32)), (.ref b3)])) _
    refine XS.iload X30.here hx rfl (hb hby at_62) rfl ?_
    show Steps p.tables e below (T30.setTop (mkF m 64 #[.val (.long x0), .second, .val (.int x1), .val (.int x2), .val (.int x3), .val (.int x4), .val (.int x5), .val (.int v1), .val (.ref b3), .unset, .unset, .unset, .unset, .unset, .unset] [(.int v1), (.int x1), (.long x0), (.int (4 : Int32)), (.ref b3)])) _
    refine XS.iconst X30.here hx rfl (hb hby at_64) ?_
    show Steps p.tables e below (T30.setTop (mkF m 65 #[.val (.long x0), .second, .val (.int x1), .val (.int x2), .val (.int x3), .val (.int x4), .val (.int x5), .val (.int v1), .val (.ref b3), .unset, .unset, .unset, .unset, .unset, .unset] [(.int (4 : Int32)), (.int v1), (.int x1), (.long x0), (.int (4 : Int32)), (.ref b3)])) _
    exact k)
  obtain ⟨_, _, ⟨T35, L35, k35, n35⟩, -, X35, ⟨Lc35, hQ35, l35, y35, z35⟩, st35⟩ := Jvm.LawKit.callS X30 hx (y := (⟨"com/example/incipit/incipit/DataBytesIndexOfPinLaw", "pick", "(JIBI)B"⟩ : MethodName)) hown (mvT hZ (hw _ (List.mem_of_getElem? (i := 1) rfl))) (mvT hZ (hw _ (List.mem_of_getElem? (i := 2) rfl))) (mvT hZ (hw _ (List.mem_of_getElem? (i := 3) rfl))) (mvT hZ (hw _ (List.mem_of_getElem? (i := 4) rfl))) (by decide) (backOf (W := 2) (rm1 l Z a0 hw [] x0 x1 v1 (4 : Int32)  h30 n0 Zz30 ) hZ (hw _ (List.mem_of_getElem? (i := 4) rfl)) (hw _ (List.mem_of_getElem? (i := 3) rfl)) (by decide) (by decide)) (g := (mkF m 65 #[.val (.long x0), .second, .val (.int x1), .val (.int x2), .val (.int x3), .val (.int x4), .val (.int x5), .val (.int v1), .val (.ref b3), .unset, .unset, .unset, .unset, .unset, .unset] [(.int (4 : Int32)), (.int v1), (.int x1), (.long x0), (.int (4 : Int32)), (.ref b3)])) rfl (by rw [hml]; rfl) (argsL := [(.long x0), (.int x1), (.int v1), (.int (4 : Int32))]) (rest := [(.int (4 : Int32)), (.ref b3)]) (lenOf pd_0 rfl) rfl (by show 2 * 0 + _ ≤ _; exact Nat.le_of_eq rfl) (hb hby at_65) (fun _ _ => ⟨rfl, e30, (by decide : 1 + 0 ≤ _), (by decide : 5 + 0 ≤ _)⟩)
  dsimp only [Pt.U, Pt.locs, Pt.cells, Pt.slots] at X35 l35 y35 z35 st35 hQ35
  subst l35 y35 z35
  obtain ⟨r35, rfl, N35q, e35, P35⟩ := hQ35
  have N35 := Fr.app N30 N35q
  have pre36 : ∀ t, Steps p.tables e below (T35.setTop (mkF m 68 #[.val (.long x0), .second, .val (.int x1), .val (.int x2), .val (.int x3), .val (.int x4), .val (.int x5), .val (.int v1), .val (.ref b3), .unset, .unset, .unset, .unset, .unset, .unset] [(.int r35), (.int (4 : Int32)), (.ref b3)])) t → Steps p.tables e below (s₁.setTop (entryFrame m #[(.long x0), (.int x1), (.int x2), (.int x3), (.int x4), (.int x5)] maxLocals)) t := fun t k => pre33 t (st35 _ k)
  obtain ⟨cl37, Ar37, q37, S37, M37, H37, G37⟩ := id V30
  have hin37 : ¬ ((4 : Int32) < 0 ∨ cl37.slots.size ≤ ((4 : Int32)).toNatClampNeg) := inb_of S37 ⟨by decide, by decide⟩
  obtain ⟨T37, h37, X37, e37, W37, st37⟩ := stB X35 hx hZ e35 Ar37 (j := (4 : Int32)) hin37 (g := (mkF m 68 #[.val (.long x0), .second, .val (.int x1), .val (.int x2), .val (.int x3), .val (.int x4), .val (.int x5), .val (.int v1), .val (.ref b3), .unset, .unset, .unset, .unset, .unset, .unset] [(.int r35), (.int (4 : Int32)), (.ref b3)])) rfl rfl (hb hby at_68)
  have V37 : Arv Z h37 b3 k3 .byte (5 : Int32) [(.int (nar .byte r7)), (.int (nar .byte r14)), (.int (nar .byte r21)), (.int (nar .byte r28)), (.int (nar .byte r35))] (.int (0 : Int32)) := Arv.set Ar37 q37 S37 M37 H37 G37 (fits_nar_byte _) W37 4 rfl (Nat.le_of_ble_eq_true rfl)
  have N37 := Fr.snoc X37 N35 g_b3
  have Zz37 : n0 ≤ h37.size := Nat.le_trans Zz30 (Keep.of_wr W37).1
  have pre39 : ∀ t, Steps p.tables e below (T37.setTop (mkF m 69 #[.val (.long x0), .second, .val (.int x1), .val (.int x2), .val (.int x3), .val (.int x4), .val (.int x5), .val (.int v1), .val (.ref b3), .unset, .unset, .unset, .unset, .unset, .unset] [])) t → Steps p.tables e below (s₁.setTop (entryFrame m #[(.long x0), (.int x1), (.int x2), (.int x3), (.int x4), (.int x5)] maxLocals)) t := fun t k => pre36 t (st37 _ k)
  obtain ⟨v40, hv40⟩ : ∃ z : Int32, z = ((x3 &&& (2147483647 : Int32)) % (3 : Int32)) := ⟨_, rfl⟩
  have pre41 : ∀ t, Steps p.tables e below (T37.setTop (mkF m 88 #[.val (.long x0), .second, .val (.int x1), .val (.int x2), .val (.int x3), .val (.int x4), .val (.int x5), .val (.int v1), .val (.ref b3), .val (.int v40), .unset, .unset, .unset, .unset, .unset] [(.int ((6 : Int32) - v40)), (.int (x4 &&& (2147483647 : Int32)))])) t → Steps p.tables e below (s₁.setTop (entryFrame m #[(.long x0), (.int x1), (.int x2), (.int x3), (.int x4), (.int x5)] maxLocals)) t := fun t k => pre39 t (by
    subst hv40
    show Steps p.tables e below (T37.setTop (mkF m 69 #[.val (.long x0), .second, .val (.int x1), .val (.int x2), .val (.int x3), .val (.int x4), .val (.int x5), .val (.int v1), .val (.ref b3), .unset, .unset, .unset, .unset, .unset, .unset] [])) _
    refine XS.iload X37.here hx rfl (hb hby at_69) rfl ?_
    show Steps p.tables e below (T37.setTop (mkF m 71 #[.val (.long x0), .second, .val (.int x1), .val (.int x2), .val (.int x3), .val (.int x4), .val (.int x5), .val (.int v1), .val (.ref b3), .unset, .unset, .unset, .unset, .unset, .unset] [(.int x3)])) _
    refine X37.ldcInt hx hown (mvT hZ (hw _ (List.mem_of_getElem? (i := 5) rfl))) (g := (mkF m 71 #[.val (.long x0), .second, .val (.int x1), .val (.int x2), .val (.int x3), .val (.int x4), .val (.int x5), .val (.int v1), .val (.ref b3), .unset, .unset, .unset, .unset, .unset, .unset] [(.int x3)])) rfl (hb hby at_71) _ ?_
    show Steps p.tables e below (T37.setTop (mkF m 73 #[.val (.long x0), .second, .val (.int x1), .val (.int x2), .val (.int x3), .val (.int x4), .val (.int x5), .val (.int v1), .val (.ref b3), .unset, .unset, .unset, .unset, .unset, .unset] [(.int (2147483647 : Int32)), (.int x3)])) _
    refine XS.iand X37.here hx rfl (hb hby at_73) rfl ?_
    show Steps p.tables e below (T37.setTop (mkF m 74 #[.val (.long x0), .second, .val (.int x1), .val (.int x2), .val (.int x3), .val (.int x4), .val (.int x5), .val (.int v1), .val (.ref b3), .unset, .unset, .unset, .unset, .unset, .unset] [(.int (x3 &&& (2147483647 : Int32)))])) _
    refine XS.iconst X37.here hx rfl (hb hby at_74) ?_
    show Steps p.tables e below (T37.setTop (mkF m 75 #[.val (.long x0), .second, .val (.int x1), .val (.int x2), .val (.int x3), .val (.int x4), .val (.int x5), .val (.int v1), .val (.ref b3), .unset, .unset, .unset, .unset, .unset, .unset] [(.int (3 : Int32)), (.int (x3 &&& (2147483647 : Int32)))])) _
    refine iremM X37 hx rfl (hb hby at_75) rfl (by decide) ?_
    show Steps p.tables e below (T37.setTop (mkF m 76 #[.val (.long x0), .second, .val (.int x1), .val (.int x2), .val (.int x3), .val (.int x4), .val (.int x5), .val (.int v1), .val (.ref b3), .unset, .unset, .unset, .unset, .unset, .unset] [(.int ((x3 &&& (2147483647 : Int32)) % (3 : Int32)))])) _
    refine XS.istore X37.here hx rfl (hb hby at_76) rfl (l' := #[.val (.long x0), .second, .val (.int x1), .val (.int x2), .val (.int x3), .val (.int x4), .val (.int x5), .val (.int v1), .val (.ref b3), .val (.int ((x3 &&& (2147483647 : Int32)) % (3 : Int32))), .unset, .unset, .unset, .unset, .unset]) rfl ?_
    show Steps p.tables e below (T37.setTop (mkF m 78 #[.val (.long x0), .second, .val (.int x1), .val (.int x2), .val (.int x3), .val (.int x4), .val (.int x5), .val (.int v1), .val (.ref b3), .val (.int ((x3 &&& (2147483647 : Int32)) % (3 : Int32))), .unset, .unset, .unset, .unset, .unset] [])) _
    refine XS.iload X37.here hx rfl (hb hby at_78) rfl ?_
    show Steps p.tables e below (T37.setTop (mkF m 80 #[.val (.long x0), .second, .val (.int x1), .val (.int x2), .val (.int x3), .val (.int x4), .val (.int x5), .val (.int v1), .val (.ref b3), .val (.int ((x3 &&& (2147483647 : Int32)) % (3 : Int32))), .unset, .unset, .unset, .unset, .unset] [(.int x4)])) _
    refine X37.ldcInt hx hown (mvT hZ (hw _ (List.mem_of_getElem? (i := 5) rfl))) (g := (mkF m 80 #[.val (.long x0), .second, .val (.int x1), .val (.int x2), .val (.int x3), .val (.int x4), .val (.int x5), .val (.int v1), .val (.ref b3), .val (.int ((x3 &&& (2147483647 : Int32)) % (3 : Int32))), .unset, .unset, .unset, .unset, .unset] [(.int x4)])) rfl (hb hby at_80) _ ?_
    show Steps p.tables e below (T37.setTop (mkF m 82 #[.val (.long x0), .second, .val (.int x1), .val (.int x2), .val (.int x3), .val (.int x4), .val (.int x5), .val (.int v1), .val (.ref b3), .val (.int ((x3 &&& (2147483647 : Int32)) % (3 : Int32))), .unset, .unset, .unset, .unset, .unset] [(.int (2147483647 : Int32)), (.int x4)])) _
    refine XS.iand X37.here hx rfl (hb hby at_82) rfl ?_
    show Steps p.tables e below (T37.setTop (mkF m 83 #[.val (.long x0), .second, .val (.int x1), .val (.int x2), .val (.int x3), .val (.int x4), .val (.int x5), .val (.int v1), .val (.ref b3), .val (.int ((x3 &&& (2147483647 : Int32)) % (3 : Int32))), .unset, .unset, .unset, .unset, .unset] [(.int (x4 &&& (2147483647 : Int32)))])) _
    refine XS.bipush X37.here hx rfl (hb hby at_83) ?_
    show Steps p.tables e below (T37.setTop (mkF m 85 #[.val (.long x0), .second, .val (.int x1), .val (.int x2), .val (.int x3), .val (.int x4), .val (.int x5), .val (.int v1), .val (.ref b3), .val (.int ((x3 &&& (2147483647 : Int32)) % (3 : Int32))), .unset, .unset, .unset, .unset, .unset] [(.int (6 : Int32)), (.int (x4 &&& (2147483647 : Int32)))])) _
    refine XS.iload X37.here hx rfl (hb hby at_85) rfl ?_
    show Steps p.tables e below (T37.setTop (mkF m 87 #[.val (.long x0), .second, .val (.int x1), .val (.int x2), .val (.int x3), .val (.int x4), .val (.int x5), .val (.int v1), .val (.ref b3), .val (.int ((x3 &&& (2147483647 : Int32)) % (3 : Int32))), .unset, .unset, .unset, .unset, .unset] [(.int ((x3 &&& (2147483647 : Int32)) % (3 : Int32))), (.int (6 : Int32)), (.int (x4 &&& (2147483647 : Int32)))])) _
    refine XS.isub X37.here hx rfl (hb hby at_87) rfl ?_
    show Steps p.tables e below (T37.setTop (mkF m 88 #[.val (.long x0), .second, .val (.int x1), .val (.int x2), .val (.int x3), .val (.int x4), .val (.int x5), .val (.int v1), .val (.ref b3), .val (.int ((x3 &&& (2147483647 : Int32)) % (3 : Int32))), .unset, .unset, .unset, .unset, .unset] [(.int ((6 : Int32) - ((x3 &&& (2147483647 : Int32)) % (3 : Int32)))), (.int (x4 &&& (2147483647 : Int32)))])) _
    exact k)
  obtain ⟨v42, hv42⟩ : ∃ z : Int32, z = ((x4 &&& (2147483647 : Int32)) % ((6 : Int32) - v40)) := ⟨_, rfl⟩
  have pre43 : ∀ t, Steps p.tables e below (T37.setTop (mkF m 100 #[.val (.long x0), .second, .val (.int x1), .val (.int x2), .val (.int x3), .val (.int x4), .val (.int x5), .val (.int v1), .val (.ref b3), .val (.int v40), .val (.int v42), .unset, .unset, .unset, .unset] [(.int (v42 + (1 : Int32))), (.int (x5 &&& (2147483647 : Int32)))])) t → Steps p.tables e below (s₁.setTop (entryFrame m #[(.long x0), (.int x1), (.int x2), (.int x3), (.int x4), (.int x5)] maxLocals)) t := fun t k => pre41 t (by
    subst hv42
    show Steps p.tables e below (T37.setTop (mkF m 88 #[.val (.long x0), .second, .val (.int x1), .val (.int x2), .val (.int x3), .val (.int x4), .val (.int x5), .val (.int v1), .val (.ref b3), .val (.int v40), .unset, .unset, .unset, .unset, .unset] [(.int ((6 : Int32) - v40)), (.int (x4 &&& (2147483647 : Int32)))])) _
    refine iremM X37 hx rfl (hb hby at_88) rfl (own_nz0_88 x0 x1 x2 x3 x4 x5 v1 r7 r14 r21 r28 r35 v40 hv1 P7 P14 P21 P28 P35 hv40) ?_
    show Steps p.tables e below (T37.setTop (mkF m 89 #[.val (.long x0), .second, .val (.int x1), .val (.int x2), .val (.int x3), .val (.int x4), .val (.int x5), .val (.int v1), .val (.ref b3), .val (.int v40), .unset, .unset, .unset, .unset, .unset] [(.int ((x4 &&& (2147483647 : Int32)) % ((6 : Int32) - v40)))])) _
    refine XS.istore X37.here hx rfl (hb hby at_89) rfl (l' := #[.val (.long x0), .second, .val (.int x1), .val (.int x2), .val (.int x3), .val (.int x4), .val (.int x5), .val (.int v1), .val (.ref b3), .val (.int v40), .val (.int ((x4 &&& (2147483647 : Int32)) % ((6 : Int32) - v40))), .unset, .unset, .unset, .unset]) rfl ?_
    show Steps p.tables e below (T37.setTop (mkF m 91 #[.val (.long x0), .second, .val (.int x1), .val (.int x2), .val (.int x3), .val (.int x4), .val (.int x5), .val (.int v1), .val (.ref b3), .val (.int v40), .val (.int ((x4 &&& (2147483647 : Int32)) % ((6 : Int32) - v40))), .unset, .unset, .unset, .unset] [])) _
    refine XS.iload X37.here hx rfl (hb hby at_91) rfl ?_
    show Steps p.tables e below (T37.setTop (mkF m 93 #[.val (.long x0), .second, .val (.int x1), .val (.int x2), .val (.int x3), .val (.int x4), .val (.int x5), .val (.int v1), .val (.ref b3), .val (.int v40), .val (.int ((x4 &&& (2147483647 : Int32)) % ((6 : Int32) - v40))), .unset, .unset, .unset, .unset] [(.int x5)])) _
    refine X37.ldcInt hx hown (mvT hZ (hw _ (List.mem_of_getElem? (i := 5) rfl))) (g := (mkF m 93 #[.val (.long x0), .second, .val (.int x1), .val (.int x2), .val (.int x3), .val (.int x4), .val (.int x5), .val (.int v1), .val (.ref b3), .val (.int v40), .val (.int ((x4 &&& (2147483647 : Int32)) % ((6 : Int32) - v40))), .unset, .unset, .unset, .unset] [(.int x5)])) rfl (hb hby at_93) _ ?_
    show Steps p.tables e below (T37.setTop (mkF m 95 #[.val (.long x0), .second, .val (.int x1), .val (.int x2), .val (.int x3), .val (.int x4), .val (.int x5), .val (.int v1), .val (.ref b3), .val (.int v40), .val (.int ((x4 &&& (2147483647 : Int32)) % ((6 : Int32) - v40))), .unset, .unset, .unset, .unset] [(.int (2147483647 : Int32)), (.int x5)])) _
    refine XS.iand X37.here hx rfl (hb hby at_95) rfl ?_
    show Steps p.tables e below (T37.setTop (mkF m 96 #[.val (.long x0), .second, .val (.int x1), .val (.int x2), .val (.int x3), .val (.int x4), .val (.int x5), .val (.int v1), .val (.ref b3), .val (.int v40), .val (.int ((x4 &&& (2147483647 : Int32)) % ((6 : Int32) - v40))), .unset, .unset, .unset, .unset] [(.int (x5 &&& (2147483647 : Int32)))])) _
    refine XS.iload X37.here hx rfl (hb hby at_96) rfl ?_
    show Steps p.tables e below (T37.setTop (mkF m 98 #[.val (.long x0), .second, .val (.int x1), .val (.int x2), .val (.int x3), .val (.int x4), .val (.int x5), .val (.int v1), .val (.ref b3), .val (.int v40), .val (.int ((x4 &&& (2147483647 : Int32)) % ((6 : Int32) - v40))), .unset, .unset, .unset, .unset] [(.int ((x4 &&& (2147483647 : Int32)) % ((6 : Int32) - v40))), (.int (x5 &&& (2147483647 : Int32)))])) _
    refine XS.iconst X37.here hx rfl (hb hby at_98) ?_
    show Steps p.tables e below (T37.setTop (mkF m 99 #[.val (.long x0), .second, .val (.int x1), .val (.int x2), .val (.int x3), .val (.int x4), .val (.int x5), .val (.int v1), .val (.ref b3), .val (.int v40), .val (.int ((x4 &&& (2147483647 : Int32)) % ((6 : Int32) - v40))), .unset, .unset, .unset, .unset] [(.int (1 : Int32)), (.int ((x4 &&& (2147483647 : Int32)) % ((6 : Int32) - v40))), (.int (x5 &&& (2147483647 : Int32)))])) _
    refine XS.iadd X37.here hx rfl (hb hby at_99) rfl ?_
    show Steps p.tables e below (T37.setTop (mkF m 100 #[.val (.long x0), .second, .val (.int x1), .val (.int x2), .val (.int x3), .val (.int x4), .val (.int x5), .val (.int v1), .val (.ref b3), .val (.int v40), .val (.int ((x4 &&& (2147483647 : Int32)) % ((6 : Int32) - v40))), .unset, .unset, .unset, .unset] [(.int (((x4 &&& (2147483647 : Int32)) % ((6 : Int32) - v40)) + (1 : Int32))), (.int (x5 &&& (2147483647 : Int32)))])) _
    exact k)
  obtain ⟨v44, hv44⟩ : ∃ z : Int32, z = ((x5 &&& (2147483647 : Int32)) % (v42 + (1 : Int32))) := ⟨_, rfl⟩
  have pre45 : ∀ t, Steps p.tables e below (T37.setTop (mkF m 103 #[.val (.long x0), .second, .val (.int x1), .val (.int x2), .val (.int x3), .val (.int x4), .val (.int x5), .val (.int v1), .val (.ref b3), .val (.int v40), .val (.int v42), .val (.int v44), .unset, .unset, .unset] [])) t → Steps p.tables e below (s₁.setTop (entryFrame m #[(.long x0), (.int x1), (.int x2), (.int x3), (.int x4), (.int x5)] maxLocals)) t := fun t k => pre43 t (by
    subst hv44
    show Steps p.tables e below (T37.setTop (mkF m 100 #[.val (.long x0), .second, .val (.int x1), .val (.int x2), .val (.int x3), .val (.int x4), .val (.int x5), .val (.int v1), .val (.ref b3), .val (.int v40), .val (.int v42), .unset, .unset, .unset, .unset] [(.int (v42 + (1 : Int32))), (.int (x5 &&& (2147483647 : Int32)))])) _
    refine iremM X37 hx rfl (hb hby at_100) rfl (own_nz0_100 x0 x1 x2 x3 x4 x5 v1 r7 r14 r21 r28 r35 v40 v42 hv1 P7 P14 P21 P28 P35 hv40 hv42) ?_
    show Steps p.tables e below (T37.setTop (mkF m 101 #[.val (.long x0), .second, .val (.int x1), .val (.int x2), .val (.int x3), .val (.int x4), .val (.int x5), .val (.int v1), .val (.ref b3), .val (.int v40), .val (.int v42), .unset, .unset, .unset, .unset] [(.int ((x5 &&& (2147483647 : Int32)) % (v42 + (1 : Int32))))])) _
    refine XS.istore X37.here hx rfl (hb hby at_101) rfl (l' := #[.val (.long x0), .second, .val (.int x1), .val (.int x2), .val (.int x3), .val (.int x4), .val (.int x5), .val (.int v1), .val (.ref b3), .val (.int v40), .val (.int v42), .val (.int ((x5 &&& (2147483647 : Int32)) % (v42 + (1 : Int32)))), .unset, .unset, .unset]) rfl ?_
    show Steps p.tables e below (T37.setTop (mkF m 103 #[.val (.long x0), .second, .val (.int x1), .val (.int x2), .val (.int x3), .val (.int x4), .val (.int x5), .val (.int v1), .val (.ref b3), .val (.int v40), .val (.int v42), .val (.int ((x5 &&& (2147483647 : Int32)) % (v42 + (1 : Int32)))), .unset, .unset, .unset] [])) _
    exact k)
  obtain ⟨T46, h46, X46, e46, E46, A46, D46, -, st46⟩ := newO X37 hx hZ hown (hw _ (List.mem_of_getElem? (i := 6) rfl)) (hw _ (List.mem_of_getElem? (i := 7) rfl)) (hw _ (List.mem_of_getElem? (i := 8) rfl)) e37 (g := (mkF m 103 #[.val (.long x0), .second, .val (.int x1), .val (.int x2), .val (.int x3), .val (.int x4), .val (.int x5), .val (.int v1), .val (.ref b3), .val (.int v40), .val (.int v42), .val (.int v44), .unset, .unset, .unset] [])) rfl (hb hby at_103) (by decide) (by decide)
  obtain ⟨b46, g46⟩ : ∃ z, z = h37.size := ⟨_, rfl⟩
  rw [← g46] at A46 D46 st46
  have ne_b3_b46 : b3 ≠ b46 := Nat.ne_of_lt (Nat.lt_of_lt_of_le (V37).lt (Nat.le_of_eq g46.symm))
  have g_b46 : n0 ≤ b46 := Nat.le_trans Zz37 (Nat.le_of_eq g46.symm)
  have c47 := (V37).ext E46
  have Zz46 : n0 ≤ h46.size := Nat.le_trans Zz37 E46.1
  have F_array_b46 : Fld Z h46 b46 "com/example/incipit/incipit/DataBytes" "array" "[B" .null := D46 (Or.inr (hw _ (List.mem_of_getElem? (i := 16) rfl))) (ty := (.array .byte)) (by decide)
  have F_offset_b46 : Fld Z h46 b46 "com/example/incipit/incipit/DataBytes" "offset" "I" (.int (0 : Int32)) := D46 (Or.inr (hw _ (List.mem_of_getElem? (i := 18) rfl))) (ty := .int) (by decide)
  have F_length_b46 : Fld Z h46 b46 "com/example/incipit/incipit/DataBytes" "length" "I" (.int (0 : Int32)) := D46 (Or.inr (hw _ (List.mem_of_getElem? (i := 20) rfl))) (ty := .int) (by decide)
  have pre48 : ∀ t, Steps p.tables e below (T46.setTop (mkF m 106 #[.val (.long x0), .second, .val (.int x1), .val (.int x2), .val (.int x3), .val (.int x4), .val (.int x5), .val (.int v1), .val (.ref b3), .val (.int v40), .val (.int v42), .val (.int v44), .unset, .unset, .unset] [(.ref b46)])) t → Steps p.tables e below (s₁.setTop (entryFrame m #[(.long x0), (.int x1), (.int x2), (.int x3), (.int x4), (.int x5)] maxLocals)) t := fun t k => pre45 t (st46 _ k)
  have pre49 : ∀ t, Steps p.tables e below (T46.setTop (mkF m 113 #[.val (.long x0), .second, .val (.int x1), .val (.int x2), .val (.int x3), .val (.int x4), .val (.int x5), .val (.int v1), .val (.ref b3), .val (.int v40), .val (.int v42), .val (.int v44), .unset, .unset, .unset] [(.int v42), (.int v40), (.ref b3), (.ref b46), (.ref b46)])) t → Steps p.tables e below (s₁.setTop (entryFrame m #[(.long x0), (.int x1), (.int x2), (.int x3), (.int x4), (.int x5)] maxLocals)) t := fun t k => pre48 t (by
    show Steps p.tables e below (T46.setTop (mkF m 106 #[.val (.long x0), .second, .val (.int x1), .val (.int x2), .val (.int x3), .val (.int x4), .val (.int x5), .val (.int v1), .val (.ref b3), .val (.int v40), .val (.int v42), .val (.int v44), .unset, .unset, .unset] [(.ref b46)])) _
    refine XS.dup X46.here hx rfl (hb hby at_106) rfl rfl ?_
    show Steps p.tables e below (T46.setTop (mkF m 107 #[.val (.long x0), .second, .val (.int x1), .val (.int x2), .val (.int x3), .val (.int x4), .val (.int x5), .val (.int v1), .val (.ref b3), .val (.int v40), .val (.int v42), .val (.int v44), .unset, .unset, .unset] [(.ref b46), (.ref b46)])) _
    refine XS.aload X46.here hx rfl (hb hby at_107) rfl rfl ?_
    show Steps p.tables e below (T46.setTop (mkF m 109 #[.val (.long x0), .second, .val (.int x1), .val (.int x2), .val (.int x3), .val (.int x4), .val (.int x5), .val (.int v1), .val (.ref b3), .val (.int v40), .val (.int v42), .val (.int v44), .unset, .unset, .unset] [(.ref b3), (.ref b46), (.ref b46)])) _
    refine XS.iload X46.here hx rfl (hb hby at_109) rfl ?_
    show Steps p.tables e below (T46.setTop (mkF m 111 #[.val (.long x0), .second, .val (.int x1), .val (.int x2), .val (.int x3), .val (.int x4), .val (.int x5), .val (.int v1), .val (.ref b3), .val (.int v40), .val (.int v42), .val (.int v44), .unset, .unset, .unset] [(.int v40), (.ref b3), (.ref b46), (.ref b46)])) _
    refine XS.iload X46.here hx rfl (hb hby at_111) rfl ?_
    show Steps p.tables e below (T46.setTop (mkF m 113 #[.val (.long x0), .second, .val (.int x1), .val (.int x2), .val (.int x3), .val (.int x4), .val (.int x5), .val (.int v1), .val (.ref b3), .val (.int v40), .val (.int v42), .val (.int v44), .unset, .unset, .unset] [(.int v42), (.int v40), (.ref b3), (.ref b46), (.ref b46)])) _
    exact k)
  obtain ⟨_, _, ⟨T51, L51, k51, n51⟩, -, X51, ⟨Lc51, hQ51, l51, y51, z51⟩, st51⟩ := X46.specialBack hx (y := (⟨"com/example/incipit/incipit/DataBytes", "<init>", "([BII)V"⟩ : MethodName)) rfl hown (mvT hZ (hw _ (List.mem_of_getElem? (i := 9) rfl))) (mvT hZ (hw _ (List.mem_of_getElem? (i := 10) rfl))) (mvT hZ (hw _ (List.mem_of_getElem? (i := 11) rfl))) (by decide) (backOf (W := 1) (rm2 l Z a0 hw [] b46 b3 v40 v42   h46 n0 Zz46 A46 F_array_b46 F_offset_b46 F_length_b46 g_b46) hZ (hw _ (List.mem_of_getElem? (i := 11) rfl)) (hw _ (List.mem_of_getElem? (i := 8) rfl)) (by decide) (by decide)) (g := (mkF m 113 #[.val (.long x0), .second, .val (.int x1), .val (.int x2), .val (.int x3), .val (.int x4), .val (.int x5), .val (.int v1), .val (.ref b3), .val (.int v40), .val (.int v42), .val (.int v44), .unset, .unset, .unset] [(.int v42), (.int v40), (.ref b3), (.ref b46), (.ref b46)])) rfl (by rw [hml]; rfl) (Steps.refl _) (a := b46) (argsL := [(.ref b3), (.int v40), (.int v42)]) (rest := [(.ref b46)]) (lenOf pd_1 rfl) rfl (by show 2 * 0 + _ ≤ _; exact Nat.le_of_eq rfl) (hb hby at_113) (fun _ _ => ⟨rfl, e46, (by decide : 2 + 0 ≤ _), (by decide : 8 + 0 ≤ _)⟩)
  dsimp only [Pt.U, Pt.locs, Pt.cells, Pt.slots] at X51 l51 y51 z51 st51 hQ51
  subst l51 y51 z51
  obtain ⟨rfl, N51q, K51, Ec51, Fc51_array, Fc51_offset, Fc51_length⟩ := hQ51
  have N51 := Fr.app N37 N51q
  have pre52 : ∀ t, Steps p.tables e below (T51.setTop (mkF m 116 #[.val (.long x0), .second, .val (.int x1), .val (.int x2), .val (.int x3), .val (.int x4), .val (.int x5), .val (.int v1), .val (.ref b3), .val (.int v40), .val (.int v42), .val (.int v44), .unset, .unset, .unset] [(.ref b46)])) t → Steps p.tables e below (s₁.setTop (entryFrame m #[(.long x0), (.int x1), (.int x2), (.int x3), (.int x4), (.int x5)] maxLocals)) t := fun t k => pre49 t (st51.trans k)
  have Zz51 : n0 ≤ T51.heap.size := Nat.le_trans Zz46 K51.1
  have c53 := (c47).keep K51 (ninS ne_b3_b46 (nin0))
  have c54 := (A46).keep K51
  have pre58 : ∀ t, Steps p.tables e below (T51.setTop (mkF m 124 #[.val (.long x0), .second, .val (.int x1), .val (.int x2), .val (.int x3), .val (.int x4), .val (.int x5), .val (.int v1), .val (.ref b3), .val (.int v40), .val (.int v42), .val (.int v44), .val (.ref b46), .unset, .unset] [(.int v44), (.int v1), (.ref b46)])) t → Steps p.tables e below (s₁.setTop (entryFrame m #[(.long x0), (.int x1), (.int x2), (.int x3), (.int x4), (.int x5)] maxLocals)) t := fun t k => pre52 t (by
    show Steps p.tables e below (T51.setTop (mkF m 116 #[.val (.long x0), .second, .val (.int x1), .val (.int x2), .val (.int x3), .val (.int x4), .val (.int x5), .val (.int v1), .val (.ref b3), .val (.int v40), .val (.int v42), .val (.int v44), .unset, .unset, .unset] [(.ref b46)])) _
    refine XS.astore X51.here hx rfl (hb hby at_116) rfl rfl (l' := #[.val (.long x0), .second, .val (.int x1), .val (.int x2), .val (.int x3), .val (.int x4), .val (.int x5), .val (.int v1), .val (.ref b3), .val (.int v40), .val (.int v42), .val (.int v44), .val (.ref b46), .unset, .unset]) rfl ?_
    show Steps p.tables e below (T51.setTop (mkF m 118 #[.val (.long x0), .second, .val (.int x1), .val (.int x2), .val (.int x3), .val (.int x4), .val (.int x5), .val (.int v1), .val (.ref b3), .val (.int v40), .val (.int v42), .val (.int v44), .val (.ref b46), .unset, .unset] [])) _
    refine XS.aload X51.here hx rfl (hb hby at_118) rfl rfl ?_
    show Steps p.tables e below (T51.setTop (mkF m 120 #[.val (.long x0), .second, .val (.int x1), .val (.int x2), .val (.int x3), .val (.int x4), .val (.int x5), .val (.int v1), .val (.ref b3), .val (.int v40), .val (.int v42), .val (.int v44), .val (.ref b46), .unset, .unset] [(.ref b46)])) _
    refine XS.iload X51.here hx rfl (hb hby at_120) rfl ?_
    show Steps p.tables e below (T51.setTop (mkF m 122 #[.val (.long x0), .second, .val (.int x1), .val (.int x2), .val (.int x3), .val (.int x4), .val (.int x5), .val (.int v1), .val (.ref b3), .val (.int v40), .val (.int v42), .val (.int v44), .val (.ref b46), .unset, .unset] [(.int v1), (.ref b46)])) _
    refine XS.iload X51.here hx rfl (hb hby at_122) rfl ?_
    show Steps p.tables e below (T51.setTop (mkF m 124 #[.val (.long x0), .second, .val (.int x1), .val (.int x2), .val (.int x3), .val (.int x4), .val (.int x5), .val (.int v1), .val (.ref b3), .val (.int v40), .val (.int v42), .val (.int v44), .val (.ref b46), .unset, .unset] [(.int v44), (.int v1), (.ref b46)])) _
    exact k)
  obtain ⟨cq60, kq60, q60a, q60b, q60c⟩ := isOf hZ rfl Ec51
  obtain ⟨_, _, ⟨T60, L60, k60, n60⟩, -, X60, ⟨Lc60, hQ60, l60, y60, z60⟩, st60⟩ := X51.virtualBack hx (y := (⟨"com/example/incipit/incipit/DataBytes", "indexOf", "(BI)I"⟩ : MethodName)) (z := (⟨"com/example/incipit/incipit/DataBytes", "indexOf", "(BI)I"⟩ : MethodName)) hown (mvT hZ (hw _ (List.mem_of_getElem? (i := 21) rfl))) (mvT hZ (hw _ (List.mem_of_getElem? (i := 22) rfl))) (notFace_of_selects (args := #[]) (mvT hZ (hw _ (List.mem_of_getElem? (i := 24) rfl)))) (mvT hZ (hw _ (List.mem_of_getElem? (i := 24) rfl))) (mvT hZ (hw _ (List.mem_of_getElem? (i := 23) rfl))) (by decide) (backOf (W := 0) (rm4 l Z a0 hw [] b46 v1 v44 b3 k3 v40 v42 (nar .byte r7) (nar .byte r14) (nar .byte r21) (nar .byte r28) (nar .byte r35) T51.heap n0 Zz51 Fc51_array Fc51_offset Fc51_length c53 (own_need0_61_0 x0 x1 x2 x3 x4 x5 v1 r7 r14 r21 r28 r35 v40 v42 v44 hv1 P7 P14 P21 P28 P35 hv40 hv42 hv44)) hZ (hw _ (List.mem_of_getElem? (i := 25) rfl)) (hw _ (List.mem_of_getElem? (i := 8) rfl)) (by decide) (by decide)) q60a q60c (g := (mkF m 124 #[.val (.long x0), .second, .val (.int x1), .val (.int x2), .val (.int x3), .val (.int x4), .val (.int x5), .val (.int v1), .val (.ref b3), .val (.int v40), .val (.int v42), .val (.int v44), .val (.ref b46), .unset, .unset] [(.int v44), (.int v1), (.ref b46)])) rfl (by rw [hml]; rfl) (Steps.refl _) (argsL := [(.int v1), (.int v44)]) (rest := []) (lenOf pd_2 rfl) rfl (by show 2 * 0 + _ ≤ _; exact Nat.le_of_eq rfl) (hb hby at_124) (fun _ _ => ⟨rfl, rfl, (by decide : 2 + 0 ≤ _), (by decide : 8 + 0 ≤ _)⟩)
  dsimp only [Pt.U, Pt.locs, Pt.cells, Pt.slots] at X60 l60 y60 z60 st60 hQ60
  subst l60 y60 z60
  obtain ⟨r60, rfl, N60q, e60, P60⟩ := hQ60
  have N60 := Fr.app N51 N60q
  have pre62 : ∀ t, Steps p.tables e below (T60.setTop (mkF m 127 #[.val (.long x0), .second, .val (.int x1), .val (.int x2), .val (.int x3), .val (.int x4), .val (.int x5), .val (.int v1), .val (.ref b3), .val (.int v40), .val (.int v42), .val (.int v44), .val (.ref b46), .unset, .unset] [(.int r60)])) t → Steps p.tables e below (s₁.setTop (entryFrame m #[(.long x0), (.int x1), (.int x2), (.int x3), (.int x4), (.int x5)] maxLocals)) t := fun t k => pre58 t (st60.trans k)
  have pre63 : ∀ t, Steps p.tables e below (T60.setTop (mkF m 143 #[.val (.long x0), .second, .val (.int x1), .val (.int x2), .val (.int x3), .val (.int x4), .val (.int x5), .val (.int v1), .val (.ref b3), .val (.int v40), .val (.int v42), .val (.int v44), .val (.ref b46), .val (.int r60), .val (.int (-1 : Int32))] [(.int (4 : Int32)), (.int v1), (.int v44), (.int v42), (.int v40), (.ref b3)])) t → Steps p.tables e below (s₁.setTop (entryFrame m #[(.long x0), (.int x1), (.int x2), (.int x3), (.int x4), (.int x5)] maxLocals)) t := fun t k => pre62 t (by
    show Steps p.tables e below (T60.setTop (mkF m 127 #[.val (.long x0), .second, .val (.int x1), .val (.int x2), .val (.int x3), .val (.int x4), .val (.int x5), .val (.int v1), .val (.ref b3), .val (.int v40), .val (.int v42), .val (.int v44), .val (.ref b46), .unset, .unset] [(.int r60)])) _
    refine XS.istore X60.here hx rfl (hb hby at_127) rfl (l' := #[.val (.long x0), .second, .val (.int x1), .val (.int x2), .val (.int x3), .val (.int x4), .val (.int x5), .val (.int v1), .val (.ref b3), .val (.int v40), .val (.int v42), .val (.int v44), .val (.ref b46), .val (.int r60), .unset]) rfl ?_
    show Steps p.tables e below (T60.setTop (mkF m 129 #[.val (.long x0), .second, .val (.int x1), .val (.int x2), .val (.int x3), .val (.int x4), .val (.int x5), .val (.int v1), .val (.ref b3), .val (.int v40), .val (.int v42), .val (.int v44), .val (.ref b46), .val (.int r60), .unset] [])) _
    refine XS.iconst X60.here hx rfl (hb hby at_129) ?_
    show Steps p.tables e below (T60.setTop (mkF m 130 #[.val (.long x0), .second, .val (.int x1), .val (.int x2), .val (.int x3), .val (.int x4), .val (.int x5), .val (.int v1), .val (.ref b3), .val (.int v40), .val (.int v42), .val (.int v44), .val (.ref b46), .val (.int r60), .unset] [(.int (-1 : Int32))])) _
    refine XS.istore X60.here hx rfl (hb hby at_130) rfl (l' := #[.val (.long x0), .second, .val (.int x1), .val (.int x2), .val (.int x3), .val (.int x4), .val (.int x5), .val (.int v1), .val (.ref b3), .val (.int v40), .val (.int v42), .val (.int v44), .val (.ref b46), .val (.int r60), .val (.int (-1 : Int32))]) rfl ?_
    show Steps p.tables e below (T60.setTop (mkF m 132 #[.val (.long x0), .second, .val (.int x1), .val (.int x2), .val (.int x3), .val (.int x4), .val (.int x5), .val (.int v1), .val (.ref b3), .val (.int v40), .val (.int v42), .val (.int v44), .val (.ref b46), .val (.int r60), .val (.int (-1 : Int32))] [])) _
    refine XS.aload X60.here hx rfl (hb hby at_132) rfl rfl ?_
    show Steps p.tables e below (T60.setTop (mkF m 134 #[.val (.long x0), .second, .val (.int x1), .val (.int x2), .val (.int x3), .val (.int x4), .val (.int x5), .val (.int v1), .val (.ref b3), .val (.int v40), .val (.int v42), .val (.int v44), .val (.ref b46), .val (.int r60), .val (.int (-1 : Int32))] [(.ref b3)])) _
    refine XS.iload X60.here hx rfl (hb hby at_134) rfl ?_
    show Steps p.tables e below (T60.setTop (mkF m 136 #[.val (.long x0), .second, .val (.int x1), .val (.int x2), .val (.int x3), .val (.int x4), .val (.int x5), .val (.int v1), .val (.ref b3), .val (.int v40), .val (.int v42), .val (.int v44), .val (.ref b46), .val (.int r60), .val (.int (-1 : Int32))] [(.int v40), (.ref b3)])) _
    refine XS.iload X60.here hx rfl (hb hby at_136) rfl ?_
    show Steps p.tables e below (T60.setTop (mkF m 138 #[.val (.long x0), .second, .val (.int x1), .val (.int x2), .val (.int x3), .val (.int x4), .val (.int x5), .val (.int v1), .val (.ref b3), .val (.int v40), .val (.int v42), .val (.int v44), .val (.ref b46), .val (.int r60), .val (.int (-1 : Int32))] [(.int v42), (.int v40), (.ref b3)])) _
    refine XS.iload X60.here hx rfl (hb hby at_138) rfl ?_
    show Steps p.tables e below (T60.setTop (mkF m 140 #[.val (.long x0), .second, .val (.int x1), .val (.int x2), .val (.int x3), .val (.int x4), .val (.int x5), .val (.int v1), .val (.ref b3), .val (.int v40), .val (.int v42), .val (.int v44), .val (.ref b46), .val (.int r60), .val (.int (-1 : Int32))] [(.int v44), (.int v42), (.int v40), (.ref b3)])) _
    refine XS.iload X60.here hx rfl (hb hby at_140) rfl ?_
    show Steps p.tables e below (T60.setTop (mkF m 142 #[.val (.long x0), .second, .val (.int x1), .val (.int x2), .val (.int x3), .val (.int x4), .val (.int x5), .val (.int v1), .val (.ref b3), .val (.int v40), .val (.int v42), .val (.int v44), .val (.ref b46), .val (.int r60), .val (.int (-1 : Int32))] [(.int v1), (.int v44), (.int v42), (.int v40), (.ref b3)])) _
    refine XS.iconst X60.here hx rfl (hb hby at_142) ?_
    show Steps p.tables e below (T60.setTop (mkF m 143 #[.val (.long x0), .second, .val (.int x1), .val (.int x2), .val (.int x3), .val (.int x4), .val (.int x5), .val (.int v1), .val (.ref b3), .val (.int v40), .val (.int v42), .val (.int v44), .val (.ref b46), .val (.int r60), .val (.int (-1 : Int32))] [(.int (4 : Int32)), (.int v1), (.int v44), (.int v42), (.int v40), (.ref b3)])) _
    exact k)
  obtain ⟨_, _, ⟨T65, L65, k65, n65⟩, -, X65, ⟨Lc65, hQ65, l65, y65, z65⟩, st65⟩ := Jvm.LawKit.callS X60 hx (y := (⟨"com/example/incipit/incipit/DataBytesIndexOfPinLaw", "hit", "([BIIIBI)Z"⟩ : MethodName)) hown (mvT hZ (hw _ (List.mem_of_getElem? (i := 26) rfl))) (mvT hZ (hw _ (List.mem_of_getElem? (i := 27) rfl))) (mvT hZ (hw _ (List.mem_of_getElem? (i := 3) rfl))) (mvT hZ (hw _ (List.mem_of_getElem? (i := 28) rfl))) (by decide) (backOf (W := 0) (rm5 l Z a0 hw [] b3 v40 v42 v44 v1 (4 : Int32) k3 (nar .byte r7) (nar .byte r14) (nar .byte r21) (nar .byte r28) (nar .byte r35) T51.heap n0 Zz51 c53 (own_need0_66_0 x0 x1 x2 x3 x4 x5 v1 r7 r14 r21 r28 r35 v40 v42 v44 r60 hv1 P7 P14 P21 P28 P35 hv40 hv42 hv44 P60)) hZ (hw _ (List.mem_of_getElem? (i := 28) rfl)) (hw _ (List.mem_of_getElem? (i := 3) rfl)) (by decide) (by decide)) (g := (mkF m 143 #[.val (.long x0), .second, .val (.int x1), .val (.int x2), .val (.int x3), .val (.int x4), .val (.int x5), .val (.int v1), .val (.ref b3), .val (.int v40), .val (.int v42), .val (.int v44), .val (.ref b46), .val (.int r60), .val (.int (-1 : Int32))] [(.int (4 : Int32)), (.int v1), (.int v44), (.int v42), (.int v40), (.ref b3)])) rfl (by rw [hml]; rfl) (argsL := [(.ref b3), (.int v40), (.int v42), (.int v44), (.int v1), (.int (4 : Int32))]) (rest := []) (lenOf pd_3 rfl) rfl (by show 2 * 0 + _ ≤ _; exact Nat.le_of_eq rfl) (hb hby at_143) (fun _ _ => ⟨rfl, e60, (by decide : 2 + 0 ≤ _), (by decide : 8 + 0 ≤ _)⟩)
  dsimp only [Pt.U, Pt.locs, Pt.cells, Pt.slots] at X65 l65 y65 z65 st65 hQ65
  subst l65 y65 z65
  obtain ⟨r65, rfl, N65q, e65, P65⟩ := hQ65
  have N65 := Fr.app N60 N65q
  have pre67 : ∀ t, Steps p.tables e below (T65.setTop (mkF m 146 #[.val (.long x0), .second, .val (.int x1), .val (.int x2), .val (.int x3), .val (.int x4), .val (.int x5), .val (.int v1), .val (.ref b3), .val (.int v40), .val (.int v42), .val (.int v44), .val (.ref b46), .val (.int r60), .val (.int (-1 : Int32))] [(.int r65)])) t → Steps p.tables e below (s₁.setTop (entryFrame m #[(.long x0), (.int x1), (.int x2), (.int x3), (.int x4), (.int x5)] maxLocals)) t := fun t k => pre63 t (st65 _ k)
  obtain ⟨v69, hv69⟩ : ∃ z : Int32, z = (if r65 = (0 : Int32) then (-1 : Int32) else (4 : Int32)) := ⟨_, rfl⟩
  have pre70 : ∀ t, Steps p.tables e below (T65.setTop (mkF m 152 #[.val (.long x0), .second, .val (.int x1), .val (.int x2), .val (.int x3), .val (.int x4), .val (.int x5), .val (.int v1), .val (.ref b3), .val (.int v40), .val (.int v42), .val (.int v44), .val (.ref b46), .val (.int r60), .val (.int v69)] [])) t → Steps p.tables e below (s₁.setTop (entryFrame m #[(.long x0), (.int x1), (.int x2), (.int x3), (.int x4), (.int x5)] maxLocals)) t := fun t k => pre67 t (by
    show Steps p.tables e below (T65.setTop (mkF m 146 #[.val (.long x0), .second, .val (.int x1), .val (.int x2), .val (.int x3), .val (.int x4), .val (.int x5), .val (.int v1), .val (.ref b3), .val (.int v40), .val (.int v42), .val (.int v44), .val (.ref b46), .val (.int r60), .val (.int (-1 : Int32))] [(.int r65)])) _
    by_cases hc68 : r65 = (0 : Int32)
    · skip
      refine XS.ifYes X65.here hx rfl (pc0 := 146) (pc' := 152) rfl (hb hby at_146) rfl ((if0 _ _).trans (teq hc68).1) (by decide) (by decide) ?_
      show Steps p.tables e below (T65.setTop (mkF m 152 #[.val (.long x0), .second, .val (.int x1), .val (.int x2), .val (.int x3), .val (.int x4), .val (.int x5), .val (.int v1), .val (.ref b3), .val (.int v40), .val (.int v42), .val (.int v44), .val (.ref b46), .val (.int r60), .val (.int (-1 : Int32))] [])) _
      rw [show v69 = (-1 : Int32) from by rw [hv69, if_pos hc68]] at k
      exact k
    · skip
      refine XS.ifNo X65.here hx rfl (hb hby at_146) rfl ((if0 _ _).trans (feq hc68).1) ?_
      show Steps p.tables e below (T65.setTop (mkF m 149 #[.val (.long x0), .second, .val (.int x1), .val (.int x2), .val (.int x3), .val (.int x4), .val (.int x5), .val (.int v1), .val (.ref b3), .val (.int v40), .val (.int v42), .val (.int v44), .val (.ref b46), .val (.int r60), .val (.int (-1 : Int32))] [])) _
      refine XS.iconst X65.here hx rfl (hb hby at_149) ?_
      show Steps p.tables e below (T65.setTop (mkF m 150 #[.val (.long x0), .second, .val (.int x1), .val (.int x2), .val (.int x3), .val (.int x4), .val (.int x5), .val (.int v1), .val (.ref b3), .val (.int v40), .val (.int v42), .val (.int v44), .val (.ref b46), .val (.int r60), .val (.int (-1 : Int32))] [(.int (4 : Int32))])) _
      refine XS.istore X65.here hx rfl (hb hby at_150) rfl (l' := #[.val (.long x0), .second, .val (.int x1), .val (.int x2), .val (.int x3), .val (.int x4), .val (.int x5), .val (.int v1), .val (.ref b3), .val (.int v40), .val (.int v42), .val (.int v44), .val (.ref b46), .val (.int r60), .val (.int (4 : Int32))]) rfl ?_
      show Steps p.tables e below (T65.setTop (mkF m 152 #[.val (.long x0), .second, .val (.int x1), .val (.int x2), .val (.int x3), .val (.int x4), .val (.int x5), .val (.int v1), .val (.ref b3), .val (.int v40), .val (.int v42), .val (.int v44), .val (.ref b46), .val (.int r60), .val (.int (4 : Int32))] [])) _
      rw [show v69 = (4 : Int32) from by rw [hv69, if_neg hc68]] at k
      exact k)
  have pre71 : ∀ t, Steps p.tables e below (T65.setTop (mkF m 163 #[.val (.long x0), .second, .val (.int x1), .val (.int x2), .val (.int x3), .val (.int x4), .val (.int x5), .val (.int v1), .val (.ref b3), .val (.int v40), .val (.int v42), .val (.int v44), .val (.ref b46), .val (.int r60), .val (.int v69)] [(.int (3 : Int32)), (.int v1), (.int v44), (.int v42), (.int v40), (.ref b3)])) t → Steps p.tables e below (s₁.setTop (entryFrame m #[(.long x0), (.int x1), (.int x2), (.int x3), (.int x4), (.int x5)] maxLocals)) t := fun t k => pre70 t (by
    show Steps p.tables e below (T65.setTop (mkF m 152 #[.val (.long x0), .second, .val (.int x1), .val (.int x2), .val (.int x3), .val (.int x4), .val (.int x5), .val (.int v1), .val (.ref b3), .val (.int v40), .val (.int v42), .val (.int v44), .val (.ref b46), .val (.int r60), .val (.int v69)] [])) _
    refine XS.aload X65.here hx rfl (hb hby at_152) rfl rfl ?_
    show Steps p.tables e below (T65.setTop (mkF m 154 #[.val (.long x0), .second, .val (.int x1), .val (.int x2), .val (.int x3), .val (.int x4), .val (.int x5), .val (.int v1), .val (.ref b3), .val (.int v40), .val (.int v42), .val (.int v44), .val (.ref b46), .val (.int r60), .val (.int v69)] [(.ref b3)])) _
    refine XS.iload X65.here hx rfl (hb hby at_154) rfl ?_
    show Steps p.tables e below (T65.setTop (mkF m 156 #[.val (.long x0), .second, .val (.int x1), .val (.int x2), .val (.int x3), .val (.int x4), .val (.int x5), .val (.int v1), .val (.ref b3), .val (.int v40), .val (.int v42), .val (.int v44), .val (.ref b46), .val (.int r60), .val (.int v69)] [(.int v40), (.ref b3)])) _
    refine XS.iload X65.here hx rfl (hb hby at_156) rfl ?_
    show Steps p.tables e below (T65.setTop (mkF m 158 #[.val (.long x0), .second, .val (.int x1), .val (.int x2), .val (.int x3), .val (.int x4), .val (.int x5), .val (.int v1), .val (.ref b3), .val (.int v40), .val (.int v42), .val (.int v44), .val (.ref b46), .val (.int r60), .val (.int v69)] [(.int v42), (.int v40), (.ref b3)])) _
    refine XS.iload X65.here hx rfl (hb hby at_158) rfl ?_
    show Steps p.tables e below (T65.setTop (mkF m 160 #[.val (.long x0), .second, .val (.int x1), .val (.int x2), .val (.int x3), .val (.int x4), .val (.int x5), .val (.int v1), .val (.ref b3), .val (.int v40), .val (.int v42), .val (.int v44), .val (.ref b46), .val (.int r60), .val (.int v69)] [(.int v44), (.int v42), (.int v40), (.ref b3)])) _
    refine XS.iload X65.here hx rfl (hb hby at_160) rfl ?_
    show Steps p.tables e below (T65.setTop (mkF m 162 #[.val (.long x0), .second, .val (.int x1), .val (.int x2), .val (.int x3), .val (.int x4), .val (.int x5), .val (.int v1), .val (.ref b3), .val (.int v40), .val (.int v42), .val (.int v44), .val (.ref b46), .val (.int r60), .val (.int v69)] [(.int v1), (.int v44), (.int v42), (.int v40), (.ref b3)])) _
    refine XS.iconst X65.here hx rfl (hb hby at_162) ?_
    show Steps p.tables e below (T65.setTop (mkF m 163 #[.val (.long x0), .second, .val (.int x1), .val (.int x2), .val (.int x3), .val (.int x4), .val (.int x5), .val (.int v1), .val (.ref b3), .val (.int v40), .val (.int v42), .val (.int v44), .val (.ref b46), .val (.int r60), .val (.int v69)] [(.int (3 : Int32)), (.int v1), (.int v44), (.int v42), (.int v40), (.ref b3)])) _
    exact k)
  obtain ⟨_, _, ⟨T73, L73, k73, n73⟩, -, X73, ⟨Lc73, hQ73, l73, y73, z73⟩, st73⟩ := Jvm.LawKit.callS X65 hx (y := (⟨"com/example/incipit/incipit/DataBytesIndexOfPinLaw", "hit", "([BIIIBI)Z"⟩ : MethodName)) hown (mvT hZ (hw _ (List.mem_of_getElem? (i := 26) rfl))) (mvT hZ (hw _ (List.mem_of_getElem? (i := 27) rfl))) (mvT hZ (hw _ (List.mem_of_getElem? (i := 3) rfl))) (mvT hZ (hw _ (List.mem_of_getElem? (i := 28) rfl))) (by decide) (backOf (W := 0) (rm5 l Z a0 hw [] b3 v40 v42 v44 v1 (3 : Int32) k3 (nar .byte r7) (nar .byte r14) (nar .byte r21) (nar .byte r28) (nar .byte r35) T51.heap n0 Zz51 c53 (own_need0_74_0 x0 x1 x2 x3 x4 x5 v1 r7 r14 r21 r28 r35 v40 v42 v44 r60 r65 v69 hv1 P7 P14 P21 P28 P35 hv40 hv42 hv44 P60 P65 hv69)) hZ (hw _ (List.mem_of_getElem? (i := 28) rfl)) (hw _ (List.mem_of_getElem? (i := 3) rfl)) (by decide) (by decide)) (g := (mkF m 163 #[.val (.long x0), .second, .val (.int x1), .val (.int x2), .val (.int x3), .val (.int x4), .val (.int x5), .val (.int v1), .val (.ref b3), .val (.int v40), .val (.int v42), .val (.int v44), .val (.ref b46), .val (.int r60), .val (.int v69)] [(.int (3 : Int32)), (.int v1), (.int v44), (.int v42), (.int v40), (.ref b3)])) rfl (by rw [hml]; rfl) (argsL := [(.ref b3), (.int v40), (.int v42), (.int v44), (.int v1), (.int (3 : Int32))]) (rest := []) (lenOf pd_3 rfl) rfl (by show 2 * 0 + _ ≤ _; exact Nat.le_of_eq rfl) (hb hby at_163) (fun _ _ => ⟨rfl, e65, (by decide : 2 + 0 ≤ _), (by decide : 8 + 0 ≤ _)⟩)
  dsimp only [Pt.U, Pt.locs, Pt.cells, Pt.slots] at X73 l73 y73 z73 st73 hQ73
  subst l73 y73 z73
  obtain ⟨r73, rfl, N73q, e73, P73⟩ := hQ73
  have N73 := Fr.app N65 N73q
  have pre75 : ∀ t, Steps p.tables e below (T73.setTop (mkF m 166 #[.val (.long x0), .second, .val (.int x1), .val (.int x2), .val (.int x3), .val (.int x4), .val (.int x5), .val (.int v1), .val (.ref b3), .val (.int v40), .val (.int v42), .val (.int v44), .val (.ref b46), .val (.int r60), .val (.int v69)] [(.int r73)])) t → Steps p.tables e below (s₁.setTop (entryFrame m #[(.long x0), (.int x1), (.int x2), (.int x3), (.int x4), (.int x5)] maxLocals)) t := fun t k => pre71 t (st73 _ k)
  obtain ⟨v77, hv77⟩ : ∃ z : Int32, z = (if r73 = (0 : Int32) then v69 else (3 : Int32)) := ⟨_, rfl⟩
  have pre78 : ∀ t, Steps p.tables e below (T73.setTop (mkF m 172 #[.val (.long x0), .second, .val (.int x1), .val (.int x2), .val (.int x3), .val (.int x4), .val (.int x5), .val (.int v1), .val (.ref b3), .val (.int v40), .val (.int v42), .val (.int v44), .val (.ref b46), .val (.int r60), .val (.int v77)] [])) t → Steps p.tables e below (s₁.setTop (entryFrame m #[(.long x0), (.int x1), (.int x2), (.int x3), (.int x4), (.int x5)] maxLocals)) t := fun t k => pre75 t (by
    show Steps p.tables e below (T73.setTop (mkF m 166 #[.val (.long x0), .second, .val (.int x1), .val (.int x2), .val (.int x3), .val (.int x4), .val (.int x5), .val (.int v1), .val (.ref b3), .val (.int v40), .val (.int v42), .val (.int v44), .val (.ref b46), .val (.int r60), .val (.int v69)] [(.int r73)])) _
    by_cases hc76 : r73 = (0 : Int32)
    · skip
      refine XS.ifYes X73.here hx rfl (pc0 := 166) (pc' := 172) rfl (hb hby at_166) rfl ((if0 _ _).trans (teq hc76).1) (by decide) (by decide) ?_
      show Steps p.tables e below (T73.setTop (mkF m 172 #[.val (.long x0), .second, .val (.int x1), .val (.int x2), .val (.int x3), .val (.int x4), .val (.int x5), .val (.int v1), .val (.ref b3), .val (.int v40), .val (.int v42), .val (.int v44), .val (.ref b46), .val (.int r60), .val (.int v69)] [])) _
      rw [show v77 = v69 from by rw [hv77, if_pos hc76]] at k
      exact k
    · skip
      refine XS.ifNo X73.here hx rfl (hb hby at_166) rfl ((if0 _ _).trans (feq hc76).1) ?_
      show Steps p.tables e below (T73.setTop (mkF m 169 #[.val (.long x0), .second, .val (.int x1), .val (.int x2), .val (.int x3), .val (.int x4), .val (.int x5), .val (.int v1), .val (.ref b3), .val (.int v40), .val (.int v42), .val (.int v44), .val (.ref b46), .val (.int r60), .val (.int v69)] [])) _
      refine XS.iconst X73.here hx rfl (hb hby at_169) ?_
      show Steps p.tables e below (T73.setTop (mkF m 170 #[.val (.long x0), .second, .val (.int x1), .val (.int x2), .val (.int x3), .val (.int x4), .val (.int x5), .val (.int v1), .val (.ref b3), .val (.int v40), .val (.int v42), .val (.int v44), .val (.ref b46), .val (.int r60), .val (.int v69)] [(.int (3 : Int32))])) _
      refine XS.istore X73.here hx rfl (hb hby at_170) rfl (l' := #[.val (.long x0), .second, .val (.int x1), .val (.int x2), .val (.int x3), .val (.int x4), .val (.int x5), .val (.int v1), .val (.ref b3), .val (.int v40), .val (.int v42), .val (.int v44), .val (.ref b46), .val (.int r60), .val (.int (3 : Int32))]) rfl ?_
      show Steps p.tables e below (T73.setTop (mkF m 172 #[.val (.long x0), .second, .val (.int x1), .val (.int x2), .val (.int x3), .val (.int x4), .val (.int x5), .val (.int v1), .val (.ref b3), .val (.int v40), .val (.int v42), .val (.int v44), .val (.ref b46), .val (.int r60), .val (.int (3 : Int32))] [])) _
      rw [show v77 = (3 : Int32) from by rw [hv77, if_neg hc76]] at k
      exact k)
  have pre79 : ∀ t, Steps p.tables e below (T73.setTop (mkF m 183 #[.val (.long x0), .second, .val (.int x1), .val (.int x2), .val (.int x3), .val (.int x4), .val (.int x5), .val (.int v1), .val (.ref b3), .val (.int v40), .val (.int v42), .val (.int v44), .val (.ref b46), .val (.int r60), .val (.int v77)] [(.int (2 : Int32)), (.int v1), (.int v44), (.int v42), (.int v40), (.ref b3)])) t → Steps p.tables e below (s₁.setTop (entryFrame m #[(.long x0), (.int x1), (.int x2), (.int x3), (.int x4), (.int x5)] maxLocals)) t := fun t k => pre78 t (by
    show Steps p.tables e below (T73.setTop (mkF m 172 #[.val (.long x0), .second, .val (.int x1), .val (.int x2), .val (.int x3), .val (.int x4), .val (.int x5), .val (.int v1), .val (.ref b3), .val (.int v40), .val (.int v42), .val (.int v44), .val (.ref b46), .val (.int r60), .val (.int v77)] [])) _
    refine XS.aload X73.here hx rfl (hb hby at_172) rfl rfl ?_
    show Steps p.tables e below (T73.setTop (mkF m 174 #[.val (.long x0), .second, .val (.int x1), .val (.int x2), .val (.int x3), .val (.int x4), .val (.int x5), .val (.int v1), .val (.ref b3), .val (.int v40), .val (.int v42), .val (.int v44), .val (.ref b46), .val (.int r60), .val (.int v77)] [(.ref b3)])) _
    refine XS.iload X73.here hx rfl (hb hby at_174) rfl ?_
    show Steps p.tables e below (T73.setTop (mkF m 176 #[.val (.long x0), .second, .val (.int x1), .val (.int x2), .val (.int x3), .val (.int x4), .val (.int x5), .val (.int v1), .val (.ref b3), .val (.int v40), .val (.int v42), .val (.int v44), .val (.ref b46), .val (.int r60), .val (.int v77)] [(.int v40), (.ref b3)])) _
    refine XS.iload X73.here hx rfl (hb hby at_176) rfl ?_
    show Steps p.tables e below (T73.setTop (mkF m 178 #[.val (.long x0), .second, .val (.int x1), .val (.int x2), .val (.int x3), .val (.int x4), .val (.int x5), .val (.int v1), .val (.ref b3), .val (.int v40), .val (.int v42), .val (.int v44), .val (.ref b46), .val (.int r60), .val (.int v77)] [(.int v42), (.int v40), (.ref b3)])) _
    refine XS.iload X73.here hx rfl (hb hby at_178) rfl ?_
    show Steps p.tables e below (T73.setTop (mkF m 180 #[.val (.long x0), .second, .val (.int x1), .val (.int x2), .val (.int x3), .val (.int x4), .val (.int x5), .val (.int v1), .val (.ref b3), .val (.int v40), .val (.int v42), .val (.int v44), .val (.ref b46), .val (.int r60), .val (.int v77)] [(.int v44), (.int v42), (.int v40), (.ref b3)])) _
    refine XS.iload X73.here hx rfl (hb hby at_180) rfl ?_
    show Steps p.tables e below (T73.setTop (mkF m 182 #[.val (.long x0), .second, .val (.int x1), .val (.int x2), .val (.int x3), .val (.int x4), .val (.int x5), .val (.int v1), .val (.ref b3), .val (.int v40), .val (.int v42), .val (.int v44), .val (.ref b46), .val (.int r60), .val (.int v77)] [(.int v1), (.int v44), (.int v42), (.int v40), (.ref b3)])) _
    refine XS.iconst X73.here hx rfl (hb hby at_182) ?_
    show Steps p.tables e below (T73.setTop (mkF m 183 #[.val (.long x0), .second, .val (.int x1), .val (.int x2), .val (.int x3), .val (.int x4), .val (.int x5), .val (.int v1), .val (.ref b3), .val (.int v40), .val (.int v42), .val (.int v44), .val (.ref b46), .val (.int r60), .val (.int v77)] [(.int (2 : Int32)), (.int v1), (.int v44), (.int v42), (.int v40), (.ref b3)])) _
    exact k)
  obtain ⟨_, _, ⟨T81, L81, k81, n81⟩, -, X81, ⟨Lc81, hQ81, l81, y81, z81⟩, st81⟩ := Jvm.LawKit.callS X73 hx (y := (⟨"com/example/incipit/incipit/DataBytesIndexOfPinLaw", "hit", "([BIIIBI)Z"⟩ : MethodName)) hown (mvT hZ (hw _ (List.mem_of_getElem? (i := 26) rfl))) (mvT hZ (hw _ (List.mem_of_getElem? (i := 27) rfl))) (mvT hZ (hw _ (List.mem_of_getElem? (i := 3) rfl))) (mvT hZ (hw _ (List.mem_of_getElem? (i := 28) rfl))) (by decide) (backOf (W := 0) (rm5 l Z a0 hw [] b3 v40 v42 v44 v1 (2 : Int32) k3 (nar .byte r7) (nar .byte r14) (nar .byte r21) (nar .byte r28) (nar .byte r35) T51.heap n0 Zz51 c53 (own_need0_82_0 x0 x1 x2 x3 x4 x5 v1 r7 r14 r21 r28 r35 v40 v42 v44 r60 r65 v69 r73 v77 hv1 P7 P14 P21 P28 P35 hv40 hv42 hv44 P60 P65 hv69 P73 hv77)) hZ (hw _ (List.mem_of_getElem? (i := 28) rfl)) (hw _ (List.mem_of_getElem? (i := 3) rfl)) (by decide) (by decide)) (g := (mkF m 183 #[.val (.long x0), .second, .val (.int x1), .val (.int x2), .val (.int x3), .val (.int x4), .val (.int x5), .val (.int v1), .val (.ref b3), .val (.int v40), .val (.int v42), .val (.int v44), .val (.ref b46), .val (.int r60), .val (.int v77)] [(.int (2 : Int32)), (.int v1), (.int v44), (.int v42), (.int v40), (.ref b3)])) rfl (by rw [hml]; rfl) (argsL := [(.ref b3), (.int v40), (.int v42), (.int v44), (.int v1), (.int (2 : Int32))]) (rest := []) (lenOf pd_3 rfl) rfl (by show 2 * 0 + _ ≤ _; exact Nat.le_of_eq rfl) (hb hby at_183) (fun _ _ => ⟨rfl, e73, (by decide : 2 + 0 ≤ _), (by decide : 8 + 0 ≤ _)⟩)
  dsimp only [Pt.U, Pt.locs, Pt.cells, Pt.slots] at X81 l81 y81 z81 st81 hQ81
  subst l81 y81 z81
  obtain ⟨r81, rfl, N81q, e81, P81⟩ := hQ81
  have N81 := Fr.app N73 N81q
  have pre83 : ∀ t, Steps p.tables e below (T81.setTop (mkF m 186 #[.val (.long x0), .second, .val (.int x1), .val (.int x2), .val (.int x3), .val (.int x4), .val (.int x5), .val (.int v1), .val (.ref b3), .val (.int v40), .val (.int v42), .val (.int v44), .val (.ref b46), .val (.int r60), .val (.int v77)] [(.int r81)])) t → Steps p.tables e below (s₁.setTop (entryFrame m #[(.long x0), (.int x1), (.int x2), (.int x3), (.int x4), (.int x5)] maxLocals)) t := fun t k => pre79 t (st81 _ k)
  obtain ⟨v85, hv85⟩ : ∃ z : Int32, z = (if r81 = (0 : Int32) then v77 else (2 : Int32)) := ⟨_, rfl⟩
  have pre86 : ∀ t, Steps p.tables e below (T81.setTop (mkF m 192 #[.val (.long x0), .second, .val (.int x1), .val (.int x2), .val (.int x3), .val (.int x4), .val (.int x5), .val (.int v1), .val (.ref b3), .val (.int v40), .val (.int v42), .val (.int v44), .val (.ref b46), .val (.int r60), .val (.int v85)] [])) t → Steps p.tables e below (s₁.setTop (entryFrame m #[(.long x0), (.int x1), (.int x2), (.int x3), (.int x4), (.int x5)] maxLocals)) t := fun t k => pre83 t (by
    show Steps p.tables e below (T81.setTop (mkF m 186 #[.val (.long x0), .second, .val (.int x1), .val (.int x2), .val (.int x3), .val (.int x4), .val (.int x5), .val (.int v1), .val (.ref b3), .val (.int v40), .val (.int v42), .val (.int v44), .val (.ref b46), .val (.int r60), .val (.int v77)] [(.int r81)])) _
    by_cases hc84 : r81 = (0 : Int32)
    · skip
      refine XS.ifYes X81.here hx rfl (pc0 := 186) (pc' := 192) rfl (hb hby at_186) rfl ((if0 _ _).trans (teq hc84).1) (by decide) (by decide) ?_
      show Steps p.tables e below (T81.setTop (mkF m 192 #[.val (.long x0), .second, .val (.int x1), .val (.int x2), .val (.int x3), .val (.int x4), .val (.int x5), .val (.int v1), .val (.ref b3), .val (.int v40), .val (.int v42), .val (.int v44), .val (.ref b46), .val (.int r60), .val (.int v77)] [])) _
      rw [show v85 = v77 from by rw [hv85, if_pos hc84]] at k
      exact k
    · skip
      refine XS.ifNo X81.here hx rfl (hb hby at_186) rfl ((if0 _ _).trans (feq hc84).1) ?_
      show Steps p.tables e below (T81.setTop (mkF m 189 #[.val (.long x0), .second, .val (.int x1), .val (.int x2), .val (.int x3), .val (.int x4), .val (.int x5), .val (.int v1), .val (.ref b3), .val (.int v40), .val (.int v42), .val (.int v44), .val (.ref b46), .val (.int r60), .val (.int v77)] [])) _
      refine XS.iconst X81.here hx rfl (hb hby at_189) ?_
      show Steps p.tables e below (T81.setTop (mkF m 190 #[.val (.long x0), .second, .val (.int x1), .val (.int x2), .val (.int x3), .val (.int x4), .val (.int x5), .val (.int v1), .val (.ref b3), .val (.int v40), .val (.int v42), .val (.int v44), .val (.ref b46), .val (.int r60), .val (.int v77)] [(.int (2 : Int32))])) _
      refine XS.istore X81.here hx rfl (hb hby at_190) rfl (l' := #[.val (.long x0), .second, .val (.int x1), .val (.int x2), .val (.int x3), .val (.int x4), .val (.int x5), .val (.int v1), .val (.ref b3), .val (.int v40), .val (.int v42), .val (.int v44), .val (.ref b46), .val (.int r60), .val (.int (2 : Int32))]) rfl ?_
      show Steps p.tables e below (T81.setTop (mkF m 192 #[.val (.long x0), .second, .val (.int x1), .val (.int x2), .val (.int x3), .val (.int x4), .val (.int x5), .val (.int v1), .val (.ref b3), .val (.int v40), .val (.int v42), .val (.int v44), .val (.ref b46), .val (.int r60), .val (.int (2 : Int32))] [])) _
      rw [show v85 = (2 : Int32) from by rw [hv85, if_neg hc84]] at k
      exact k)
  have pre87 : ∀ t, Steps p.tables e below (T81.setTop (mkF m 203 #[.val (.long x0), .second, .val (.int x1), .val (.int x2), .val (.int x3), .val (.int x4), .val (.int x5), .val (.int v1), .val (.ref b3), .val (.int v40), .val (.int v42), .val (.int v44), .val (.ref b46), .val (.int r60), .val (.int v85)] [(.int (1 : Int32)), (.int v1), (.int v44), (.int v42), (.int v40), (.ref b3)])) t → Steps p.tables e below (s₁.setTop (entryFrame m #[(.long x0), (.int x1), (.int x2), (.int x3), (.int x4), (.int x5)] maxLocals)) t := fun t k => pre86 t (by
    show Steps p.tables e below (T81.setTop (mkF m 192 #[.val (.long x0), .second, .val (.int x1), .val (.int x2), .val (.int x3), .val (.int x4), .val (.int x5), .val (.int v1), .val (.ref b3), .val (.int v40), .val (.int v42), .val (.int v44), .val (.ref b46), .val (.int r60), .val (.int v85)] [])) _
    refine XS.aload X81.here hx rfl (hb hby at_192) rfl rfl ?_
    show Steps p.tables e below (T81.setTop (mkF m 194 #[.val (.long x0), .second, .val (.int x1), .val (.int x2), .val (.int x3), .val (.int x4), .val (.int x5), .val (.int v1), .val (.ref b3), .val (.int v40), .val (.int v42), .val (.int v44), .val (.ref b46), .val (.int r60), .val (.int v85)] [(.ref b3)])) _
    refine XS.iload X81.here hx rfl (hb hby at_194) rfl ?_
    show Steps p.tables e below (T81.setTop (mkF m 196 #[.val (.long x0), .second, .val (.int x1), .val (.int x2), .val (.int x3), .val (.int x4), .val (.int x5), .val (.int v1), .val (.ref b3), .val (.int v40), .val (.int v42), .val (.int v44), .val (.ref b46), .val (.int r60), .val (.int v85)] [(.int v40), (.ref b3)])) _
    refine XS.iload X81.here hx rfl (hb hby at_196) rfl ?_
    show Steps p.tables e below (T81.setTop (mkF m 198 #[.val (.long x0), .second, .val (.int x1), .val (.int x2), .val (.int x3), .val (.int x4), .val (.int x5), .val (.int v1), .val (.ref b3), .val (.int v40), .val (.int v42), .val (.int v44), .val (.ref b46), .val (.int r60), .val (.int v85)] [(.int v42), (.int v40), (.ref b3)])) _
    refine XS.iload X81.here hx rfl (hb hby at_198) rfl ?_
    show Steps p.tables e below (T81.setTop (mkF m 200 #[.val (.long x0), .second, .val (.int x1), .val (.int x2), .val (.int x3), .val (.int x4), .val (.int x5), .val (.int v1), .val (.ref b3), .val (.int v40), .val (.int v42), .val (.int v44), .val (.ref b46), .val (.int r60), .val (.int v85)] [(.int v44), (.int v42), (.int v40), (.ref b3)])) _
    refine XS.iload X81.here hx rfl (hb hby at_200) rfl ?_
    show Steps p.tables e below (T81.setTop (mkF m 202 #[.val (.long x0), .second, .val (.int x1), .val (.int x2), .val (.int x3), .val (.int x4), .val (.int x5), .val (.int v1), .val (.ref b3), .val (.int v40), .val (.int v42), .val (.int v44), .val (.ref b46), .val (.int r60), .val (.int v85)] [(.int v1), (.int v44), (.int v42), (.int v40), (.ref b3)])) _
    refine XS.iconst X81.here hx rfl (hb hby at_202) ?_
    show Steps p.tables e below (T81.setTop (mkF m 203 #[.val (.long x0), .second, .val (.int x1), .val (.int x2), .val (.int x3), .val (.int x4), .val (.int x5), .val (.int v1), .val (.ref b3), .val (.int v40), .val (.int v42), .val (.int v44), .val (.ref b46), .val (.int r60), .val (.int v85)] [(.int (1 : Int32)), (.int v1), (.int v44), (.int v42), (.int v40), (.ref b3)])) _
    exact k)
  obtain ⟨_, _, ⟨T89, L89, k89, n89⟩, -, X89, ⟨Lc89, hQ89, l89, y89, z89⟩, st89⟩ := Jvm.LawKit.callS X81 hx (y := (⟨"com/example/incipit/incipit/DataBytesIndexOfPinLaw", "hit", "([BIIIBI)Z"⟩ : MethodName)) hown (mvT hZ (hw _ (List.mem_of_getElem? (i := 26) rfl))) (mvT hZ (hw _ (List.mem_of_getElem? (i := 27) rfl))) (mvT hZ (hw _ (List.mem_of_getElem? (i := 3) rfl))) (mvT hZ (hw _ (List.mem_of_getElem? (i := 28) rfl))) (by decide) (backOf (W := 0) (rm5 l Z a0 hw [] b3 v40 v42 v44 v1 (1 : Int32) k3 (nar .byte r7) (nar .byte r14) (nar .byte r21) (nar .byte r28) (nar .byte r35) T51.heap n0 Zz51 c53 (own_need0_90_0 x0 x1 x2 x3 x4 x5 v1 r7 r14 r21 r28 r35 v40 v42 v44 r60 r65 v69 r73 v77 r81 v85 hv1 P7 P14 P21 P28 P35 hv40 hv42 hv44 P60 P65 hv69 P73 hv77 P81 hv85)) hZ (hw _ (List.mem_of_getElem? (i := 28) rfl)) (hw _ (List.mem_of_getElem? (i := 3) rfl)) (by decide) (by decide)) (g := (mkF m 203 #[.val (.long x0), .second, .val (.int x1), .val (.int x2), .val (.int x3), .val (.int x4), .val (.int x5), .val (.int v1), .val (.ref b3), .val (.int v40), .val (.int v42), .val (.int v44), .val (.ref b46), .val (.int r60), .val (.int v85)] [(.int (1 : Int32)), (.int v1), (.int v44), (.int v42), (.int v40), (.ref b3)])) rfl (by rw [hml]; rfl) (argsL := [(.ref b3), (.int v40), (.int v42), (.int v44), (.int v1), (.int (1 : Int32))]) (rest := []) (lenOf pd_3 rfl) rfl (by show 2 * 0 + _ ≤ _; exact Nat.le_of_eq rfl) (hb hby at_203) (fun _ _ => ⟨rfl, e81, (by decide : 2 + 0 ≤ _), (by decide : 8 + 0 ≤ _)⟩)
  dsimp only [Pt.U, Pt.locs, Pt.cells, Pt.slots] at X89 l89 y89 z89 st89 hQ89
  subst l89 y89 z89
  obtain ⟨r89, rfl, N89q, e89, P89⟩ := hQ89
  have N89 := Fr.app N81 N89q
  have pre91 : ∀ t, Steps p.tables e below (T89.setTop (mkF m 206 #[.val (.long x0), .second, .val (.int x1), .val (.int x2), .val (.int x3), .val (.int x4), .val (.int x5), .val (.int v1), .val (.ref b3), .val (.int v40), .val (.int v42), .val (.int v44), .val (.ref b46), .val (.int r60), .val (.int v85)] [(.int r89)])) t → Steps p.tables e below (s₁.setTop (entryFrame m #[(.long x0), (.int x1), (.int x2), (.int x3), (.int x4), (.int x5)] maxLocals)) t := fun t k => pre87 t (st89 _ k)
  obtain ⟨v93, hv93⟩ : ∃ z : Int32, z = (if r89 = (0 : Int32) then v85 else (1 : Int32)) := ⟨_, rfl⟩
  have pre94 : ∀ t, Steps p.tables e below (T89.setTop (mkF m 212 #[.val (.long x0), .second, .val (.int x1), .val (.int x2), .val (.int x3), .val (.int x4), .val (.int x5), .val (.int v1), .val (.ref b3), .val (.int v40), .val (.int v42), .val (.int v44), .val (.ref b46), .val (.int r60), .val (.int v93)] [])) t → Steps p.tables e below (s₁.setTop (entryFrame m #[(.long x0), (.int x1), (.int x2), (.int x3), (.int x4), (.int x5)] maxLocals)) t := fun t k => pre91 t (by
    show Steps p.tables e below (T89.setTop (mkF m 206 #[.val (.long x0), .second, .val (.int x1), .val (.int x2), .val (.int x3), .val (.int x4), .val (.int x5), .val (.int v1), .val (.ref b3), .val (.int v40), .val (.int v42), .val (.int v44), .val (.ref b46), .val (.int r60), .val (.int v85)] [(.int r89)])) _
    by_cases hc92 : r89 = (0 : Int32)
    · skip
      refine XS.ifYes X89.here hx rfl (pc0 := 206) (pc' := 212) rfl (hb hby at_206) rfl ((if0 _ _).trans (teq hc92).1) (by decide) (by decide) ?_
      show Steps p.tables e below (T89.setTop (mkF m 212 #[.val (.long x0), .second, .val (.int x1), .val (.int x2), .val (.int x3), .val (.int x4), .val (.int x5), .val (.int v1), .val (.ref b3), .val (.int v40), .val (.int v42), .val (.int v44), .val (.ref b46), .val (.int r60), .val (.int v85)] [])) _
      rw [show v93 = v85 from by rw [hv93, if_pos hc92]] at k
      exact k
    · skip
      refine XS.ifNo X89.here hx rfl (hb hby at_206) rfl ((if0 _ _).trans (feq hc92).1) ?_
      show Steps p.tables e below (T89.setTop (mkF m 209 #[.val (.long x0), .second, .val (.int x1), .val (.int x2), .val (.int x3), .val (.int x4), .val (.int x5), .val (.int v1), .val (.ref b3), .val (.int v40), .val (.int v42), .val (.int v44), .val (.ref b46), .val (.int r60), .val (.int v85)] [])) _
      refine XS.iconst X89.here hx rfl (hb hby at_209) ?_
      show Steps p.tables e below (T89.setTop (mkF m 210 #[.val (.long x0), .second, .val (.int x1), .val (.int x2), .val (.int x3), .val (.int x4), .val (.int x5), .val (.int v1), .val (.ref b3), .val (.int v40), .val (.int v42), .val (.int v44), .val (.ref b46), .val (.int r60), .val (.int v85)] [(.int (1 : Int32))])) _
      refine XS.istore X89.here hx rfl (hb hby at_210) rfl (l' := #[.val (.long x0), .second, .val (.int x1), .val (.int x2), .val (.int x3), .val (.int x4), .val (.int x5), .val (.int v1), .val (.ref b3), .val (.int v40), .val (.int v42), .val (.int v44), .val (.ref b46), .val (.int r60), .val (.int (1 : Int32))]) rfl ?_
      show Steps p.tables e below (T89.setTop (mkF m 212 #[.val (.long x0), .second, .val (.int x1), .val (.int x2), .val (.int x3), .val (.int x4), .val (.int x5), .val (.int v1), .val (.ref b3), .val (.int v40), .val (.int v42), .val (.int v44), .val (.ref b46), .val (.int r60), .val (.int (1 : Int32))] [])) _
      rw [show v93 = (1 : Int32) from by rw [hv93, if_neg hc92]] at k
      exact k)
  have pre95 : ∀ t, Steps p.tables e below (T89.setTop (mkF m 223 #[.val (.long x0), .second, .val (.int x1), .val (.int x2), .val (.int x3), .val (.int x4), .val (.int x5), .val (.int v1), .val (.ref b3), .val (.int v40), .val (.int v42), .val (.int v44), .val (.ref b46), .val (.int r60), .val (.int v93)] [(.int (0 : Int32)), (.int v1), (.int v44), (.int v42), (.int v40), (.ref b3)])) t → Steps p.tables e below (s₁.setTop (entryFrame m #[(.long x0), (.int x1), (.int x2), (.int x3), (.int x4), (.int x5)] maxLocals)) t := fun t k => pre94 t (by
    show Steps p.tables e below (T89.setTop (mkF m 212 #[.val (.long x0), .second, .val (.int x1), .val (.int x2), .val (.int x3), .val (.int x4), .val (.int x5), .val (.int v1), .val (.ref b3), .val (.int v40), .val (.int v42), .val (.int v44), .val (.ref b46), .val (.int r60), .val (.int v93)] [])) _
    refine XS.aload X89.here hx rfl (hb hby at_212) rfl rfl ?_
    show Steps p.tables e below (T89.setTop (mkF m 214 #[.val (.long x0), .second, .val (.int x1), .val (.int x2), .val (.int x3), .val (.int x4), .val (.int x5), .val (.int v1), .val (.ref b3), .val (.int v40), .val (.int v42), .val (.int v44), .val (.ref b46), .val (.int r60), .val (.int v93)] [(.ref b3)])) _
    refine XS.iload X89.here hx rfl (hb hby at_214) rfl ?_
    show Steps p.tables e below (T89.setTop (mkF m 216 #[.val (.long x0), .second, .val (.int x1), .val (.int x2), .val (.int x3), .val (.int x4), .val (.int x5), .val (.int v1), .val (.ref b3), .val (.int v40), .val (.int v42), .val (.int v44), .val (.ref b46), .val (.int r60), .val (.int v93)] [(.int v40), (.ref b3)])) _
    refine XS.iload X89.here hx rfl (hb hby at_216) rfl ?_
    show Steps p.tables e below (T89.setTop (mkF m 218 #[.val (.long x0), .second, .val (.int x1), .val (.int x2), .val (.int x3), .val (.int x4), .val (.int x5), .val (.int v1), .val (.ref b3), .val (.int v40), .val (.int v42), .val (.int v44), .val (.ref b46), .val (.int r60), .val (.int v93)] [(.int v42), (.int v40), (.ref b3)])) _
    refine XS.iload X89.here hx rfl (hb hby at_218) rfl ?_
    show Steps p.tables e below (T89.setTop (mkF m 220 #[.val (.long x0), .second, .val (.int x1), .val (.int x2), .val (.int x3), .val (.int x4), .val (.int x5), .val (.int v1), .val (.ref b3), .val (.int v40), .val (.int v42), .val (.int v44), .val (.ref b46), .val (.int r60), .val (.int v93)] [(.int v44), (.int v42), (.int v40), (.ref b3)])) _
    refine XS.iload X89.here hx rfl (hb hby at_220) rfl ?_
    show Steps p.tables e below (T89.setTop (mkF m 222 #[.val (.long x0), .second, .val (.int x1), .val (.int x2), .val (.int x3), .val (.int x4), .val (.int x5), .val (.int v1), .val (.ref b3), .val (.int v40), .val (.int v42), .val (.int v44), .val (.ref b46), .val (.int r60), .val (.int v93)] [(.int v1), (.int v44), (.int v42), (.int v40), (.ref b3)])) _
    refine XS.iconst X89.here hx rfl (hb hby at_222) ?_
    show Steps p.tables e below (T89.setTop (mkF m 223 #[.val (.long x0), .second, .val (.int x1), .val (.int x2), .val (.int x3), .val (.int x4), .val (.int x5), .val (.int v1), .val (.ref b3), .val (.int v40), .val (.int v42), .val (.int v44), .val (.ref b46), .val (.int r60), .val (.int v93)] [(.int (0 : Int32)), (.int v1), (.int v44), (.int v42), (.int v40), (.ref b3)])) _
    exact k)
  obtain ⟨_, _, ⟨T97, L97, k97, n97⟩, -, X97, ⟨Lc97, hQ97, l97, y97, z97⟩, st97⟩ := Jvm.LawKit.callS X89 hx (y := (⟨"com/example/incipit/incipit/DataBytesIndexOfPinLaw", "hit", "([BIIIBI)Z"⟩ : MethodName)) hown (mvT hZ (hw _ (List.mem_of_getElem? (i := 26) rfl))) (mvT hZ (hw _ (List.mem_of_getElem? (i := 27) rfl))) (mvT hZ (hw _ (List.mem_of_getElem? (i := 3) rfl))) (mvT hZ (hw _ (List.mem_of_getElem? (i := 28) rfl))) (by decide) (backOf (W := 0) (rm5 l Z a0 hw [] b3 v40 v42 v44 v1 (0 : Int32) k3 (nar .byte r7) (nar .byte r14) (nar .byte r21) (nar .byte r28) (nar .byte r35) T51.heap n0 Zz51 c53 (own_need0_98_0 x0 x1 x2 x3 x4 x5 v1 r7 r14 r21 r28 r35 v40 v42 v44 r60 r65 v69 r73 v77 r81 v85 r89 v93 hv1 P7 P14 P21 P28 P35 hv40 hv42 hv44 P60 P65 hv69 P73 hv77 P81 hv85 P89 hv93)) hZ (hw _ (List.mem_of_getElem? (i := 28) rfl)) (hw _ (List.mem_of_getElem? (i := 3) rfl)) (by decide) (by decide)) (g := (mkF m 223 #[.val (.long x0), .second, .val (.int x1), .val (.int x2), .val (.int x3), .val (.int x4), .val (.int x5), .val (.int v1), .val (.ref b3), .val (.int v40), .val (.int v42), .val (.int v44), .val (.ref b46), .val (.int r60), .val (.int v93)] [(.int (0 : Int32)), (.int v1), (.int v44), (.int v42), (.int v40), (.ref b3)])) rfl (by rw [hml]; rfl) (argsL := [(.ref b3), (.int v40), (.int v42), (.int v44), (.int v1), (.int (0 : Int32))]) (rest := []) (lenOf pd_3 rfl) rfl (by show 2 * 0 + _ ≤ _; exact Nat.le_of_eq rfl) (hb hby at_223) (fun _ _ => ⟨rfl, e89, (by decide : 2 + 0 ≤ _), (by decide : 8 + 0 ≤ _)⟩)
  dsimp only [Pt.U, Pt.locs, Pt.cells, Pt.slots] at X97 l97 y97 z97 st97 hQ97
  subst l97 y97 z97
  obtain ⟨r97, rfl, N97q, e97, P97⟩ := hQ97
  have N97 := Fr.app N89 N97q
  have pre99 : ∀ t, Steps p.tables e below (T97.setTop (mkF m 226 #[.val (.long x0), .second, .val (.int x1), .val (.int x2), .val (.int x3), .val (.int x4), .val (.int x5), .val (.int v1), .val (.ref b3), .val (.int v40), .val (.int v42), .val (.int v44), .val (.ref b46), .val (.int r60), .val (.int v93)] [(.int r97)])) t → Steps p.tables e below (s₁.setTop (entryFrame m #[(.long x0), (.int x1), (.int x2), (.int x3), (.int x4), (.int x5)] maxLocals)) t := fun t k => pre95 t (st97 _ k)
  obtain ⟨v101, hv101⟩ : ∃ z : Int32, z = (if r97 = (0 : Int32) then v93 else (0 : Int32)) := ⟨_, rfl⟩
  have pre102 : ∀ t, Steps p.tables e below (T97.setTop (mkF m 232 #[.val (.long x0), .second, .val (.int x1), .val (.int x2), .val (.int x3), .val (.int x4), .val (.int x5), .val (.int v1), .val (.ref b3), .val (.int v40), .val (.int v42), .val (.int v44), .val (.ref b46), .val (.int r60), .val (.int v101)] [])) t → Steps p.tables e below (s₁.setTop (entryFrame m #[(.long x0), (.int x1), (.int x2), (.int x3), (.int x4), (.int x5)] maxLocals)) t := fun t k => pre99 t (by
    show Steps p.tables e below (T97.setTop (mkF m 226 #[.val (.long x0), .second, .val (.int x1), .val (.int x2), .val (.int x3), .val (.int x4), .val (.int x5), .val (.int v1), .val (.ref b3), .val (.int v40), .val (.int v42), .val (.int v44), .val (.ref b46), .val (.int r60), .val (.int v93)] [(.int r97)])) _
    by_cases hc100 : r97 = (0 : Int32)
    · skip
      refine XS.ifYes X97.here hx rfl (pc0 := 226) (pc' := 232) rfl (hb hby at_226) rfl ((if0 _ _).trans (teq hc100).1) (by decide) (by decide) ?_
      show Steps p.tables e below (T97.setTop (mkF m 232 #[.val (.long x0), .second, .val (.int x1), .val (.int x2), .val (.int x3), .val (.int x4), .val (.int x5), .val (.int v1), .val (.ref b3), .val (.int v40), .val (.int v42), .val (.int v44), .val (.ref b46), .val (.int r60), .val (.int v93)] [])) _
      rw [show v101 = v93 from by rw [hv101, if_pos hc100]] at k
      exact k
    · skip
      refine XS.ifNo X97.here hx rfl (hb hby at_226) rfl ((if0 _ _).trans (feq hc100).1) ?_
      show Steps p.tables e below (T97.setTop (mkF m 229 #[.val (.long x0), .second, .val (.int x1), .val (.int x2), .val (.int x3), .val (.int x4), .val (.int x5), .val (.int v1), .val (.ref b3), .val (.int v40), .val (.int v42), .val (.int v44), .val (.ref b46), .val (.int r60), .val (.int v93)] [])) _
      refine XS.iconst X97.here hx rfl (hb hby at_229) ?_
      show Steps p.tables e below (T97.setTop (mkF m 230 #[.val (.long x0), .second, .val (.int x1), .val (.int x2), .val (.int x3), .val (.int x4), .val (.int x5), .val (.int v1), .val (.ref b3), .val (.int v40), .val (.int v42), .val (.int v44), .val (.ref b46), .val (.int r60), .val (.int v93)] [(.int (0 : Int32))])) _
      refine XS.istore X97.here hx rfl (hb hby at_230) rfl (l' := #[.val (.long x0), .second, .val (.int x1), .val (.int x2), .val (.int x3), .val (.int x4), .val (.int x5), .val (.int v1), .val (.ref b3), .val (.int v40), .val (.int v42), .val (.int v44), .val (.ref b46), .val (.int r60), .val (.int (0 : Int32))]) rfl ?_
      show Steps p.tables e below (T97.setTop (mkF m 232 #[.val (.long x0), .second, .val (.int x1), .val (.int x2), .val (.int x3), .val (.int x4), .val (.int x5), .val (.int v1), .val (.ref b3), .val (.int v40), .val (.int v42), .val (.int v44), .val (.ref b46), .val (.int r60), .val (.int (0 : Int32))] [])) _
      rw [show v101 = (0 : Int32) from by rw [hv101, if_neg hc100]] at k
      exact k)
  obtain ⟨v104, hv104⟩ : ∃ z : Int32, z = (if r60 = v101 then (1 : Int32) else (0 : Int32)) := ⟨_, rfl⟩
  have pre105 : ∀ t, Steps p.tables e below (T97.setTop (mkF m 244 #[.val (.long x0), .second, .val (.int x1), .val (.int x2), .val (.int x3), .val (.int x4), .val (.int x5), .val (.int v1), .val (.ref b3), .val (.int v40), .val (.int v42), .val (.int v44), .val (.ref b46), .val (.int r60), .val (.int v101)] [(.int v104)])) t → Steps p.tables e below (s₁.setTop (entryFrame m #[(.long x0), (.int x1), (.int x2), (.int x3), (.int x4), (.int x5)] maxLocals)) t := fun t k => pre102 t (by
    show Steps p.tables e below (T97.setTop (mkF m 232 #[.val (.long x0), .second, .val (.int x1), .val (.int x2), .val (.int x3), .val (.int x4), .val (.int x5), .val (.int v1), .val (.ref b3), .val (.int v40), .val (.int v42), .val (.int v44), .val (.ref b46), .val (.int r60), .val (.int v101)] [])) _
    refine XS.iload X97.here hx rfl (hb hby at_232) rfl ?_
    show Steps p.tables e below (T97.setTop (mkF m 234 #[.val (.long x0), .second, .val (.int x1), .val (.int x2), .val (.int x3), .val (.int x4), .val (.int x5), .val (.int v1), .val (.ref b3), .val (.int v40), .val (.int v42), .val (.int v44), .val (.ref b46), .val (.int r60), .val (.int v101)] [(.int r60)])) _
    refine XS.iload X97.here hx rfl (hb hby at_234) rfl ?_
    show Steps p.tables e below (T97.setTop (mkF m 236 #[.val (.long x0), .second, .val (.int x1), .val (.int x2), .val (.int x3), .val (.int x4), .val (.int x5), .val (.int v1), .val (.ref b3), .val (.int v40), .val (.int v42), .val (.int v44), .val (.ref b46), .val (.int r60), .val (.int v101)] [(.int v101), (.int r60)])) _
    by_cases hc103 : r60 = v101
    · skip
      refine XS.icmpNo X97.here hx rfl (hb hby at_236) rfl (teq hc103).2 ?_
      show Steps p.tables e below (T97.setTop (mkF m 239 #[.val (.long x0), .second, .val (.int x1), .val (.int x2), .val (.int x3), .val (.int x4), .val (.int x5), .val (.int v1), .val (.ref b3), .val (.int v40), .val (.int v42), .val (.int v44), .val (.ref b46), .val (.int r60), .val (.int v101)] [])) _
      refine XS.iconst X97.here hx rfl (hb hby at_239) ?_
      show Steps p.tables e below (T97.setTop (mkF m 240 #[.val (.long x0), .second, .val (.int x1), .val (.int x2), .val (.int x3), .val (.int x4), .val (.int x5), .val (.int v1), .val (.ref b3), .val (.int v40), .val (.int v42), .val (.int v44), .val (.ref b46), .val (.int r60), .val (.int v101)] [(.int (1 : Int32))])) _
      refine XS.goto X97.here hx rfl (pc0 := 240) (pc' := 244) rfl (hb hby at_240) (by decide) (by decide) ?_
      show Steps p.tables e below (T97.setTop (mkF m 244 #[.val (.long x0), .second, .val (.int x1), .val (.int x2), .val (.int x3), .val (.int x4), .val (.int x5), .val (.int v1), .val (.ref b3), .val (.int v40), .val (.int v42), .val (.int v44), .val (.ref b46), .val (.int r60), .val (.int v101)] [(.int (1 : Int32))])) _
      rw [show v104 = (1 : Int32) from by rw [hv104, if_pos hc103]] at k
      exact k
    · skip
      refine XS.icmpYes X97.here hx rfl (pc0 := 236) (pc' := 243) rfl (hb hby at_236) rfl (feq hc103).2 (by decide) (by decide) ?_
      show Steps p.tables e below (T97.setTop (mkF m 243 #[.val (.long x0), .second, .val (.int x1), .val (.int x2), .val (.int x3), .val (.int x4), .val (.int x5), .val (.int v1), .val (.ref b3), .val (.int v40), .val (.int v42), .val (.int v44), .val (.ref b46), .val (.int r60), .val (.int v101)] [])) _
      refine XS.iconst X97.here hx rfl (hb hby at_243) ?_
      show Steps p.tables e below (T97.setTop (mkF m 244 #[.val (.long x0), .second, .val (.int x1), .val (.int x2), .val (.int x3), .val (.int x4), .val (.int x5), .val (.int v1), .val (.ref b3), .val (.int v40), .val (.int v42), .val (.int v44), .val (.ref b46), .val (.int r60), .val (.int v101)] [(.int (0 : Int32))])) _
      rw [show v104 = (0 : Int32) from by rw [hv104, if_neg hc103]] at k
      exact k)
  obtain rfl : v104 = (1 : Int32) := by exact own_fin x0 x1 x2 x3 x4 x5 v1 r7 r14 r21 r28 r35 v40 v42 v44 r60 r65 v69 r73 v77 r81 v85 r89 v93 r97 v101 v104 hv1 P7 P14 P21 P28 P35 hv40 hv42 hv44 P60 P65 hv69 P73 hv77 P81 hv85 P89 hv93 P97 hv101 hv104
  obtain ⟨fs, hr, hrun, hended, hW, hsame⟩ := X97.leave (v := some (.int (1 : Int32))) (fun h => by rw [Bd.returns] at h; cases h)
  refine ⟨_, _, pre105 _ ?_, hrun, hended, _, _, rfl, ?_, ⟨_, rfl⟩, hW, hsame.mono (by decide) (by decide)⟩
  · show Steps p.tables e below (T97.setTop (mkF m 244 #[.val (.long x0), .second, .val (.int x1), .val (.int x2), .val (.int x3), .val (.int x4), .val (.int x5), .val (.int v1), .val (.ref b3), .val (.int v40), .val (.int v42), .val (.int v44), .val (.ref b46), .val (.int r60), .val (.int v101)] [(.int (1 : Int32))])) _
    exact retN X97 hx (t := .boolean) Bd.returns (by simp) (hb hby at_244) hr
  · show Q0 Z x0 x1 x2 x3 x4 x5 h0 n0 _ T97.heap _
    rw [e97]
    exact ⟨rfl, N97⟩
set_option maxRecDepth 65536 in
set_option maxHeartbeats 40000000 in
theorem comes_1 {Post : Tables → Env → Array Value → State → Outcome → State → Prop} (hpost : ∀ tb e args s v u, (limb_1_1.after args s (.returned v) u = true ∧ limb_1_2.after args s (.returned v) u = true ∧ True) → FrameEnd s (.returned v) u (Jvm.fieldLocs frame_1_writes args s ++ Jvm.arrayLocs frame_1_arrays args s ++ Jvm.staticLocs frame_1_statics s) 16 128 → Post tb e args s (.returned v) u) :
    ArmFor flags0 classFile x code maxLocals ret World_1 tables_1 room_1 Calls_1 rest_1 Pre_1 Post := by
  intro l hfl _ _ p e ha hc hk s m args below hf hA hF happ hP
  obtain ⟨hcalls, hrest, hpre⟩ := hP
  obtain ⟨-, -, -, hnamed, -, -, -, hat⟩ := (Spec.applies_iff hf).mp happ
  obtain ⟨hg, hn⟩ := and_e (Cond.before_iff.mp (show (Jvm.Cond.and given_1 narrow_1).before args s = true from hpre))
  obtain ⟨hcount, hg0⟩ := and_e hg
  obtain ⟨ha0, hg1⟩ := and_e hg0
  obtain ⟨ha1, hg2⟩ := and_e hg1
  obtain ⟨ha2, hg3⟩ := and_e hg2
  obtain ⟨ha3, hg4⟩ := and_e hg3
  obtain ⟨ha4, hg5⟩ := and_e hg4
  have ha5 := hg5
  obtain ⟨w0, w1, w2, w3, w4, w5, rfl⟩ : ∃ w0 w1 w2 w3 w4 w5 : Value, args = #[w0, w1, w2, w3, w4, w5] := by
    have hs : args.size = 6 := by simpa [Cond.value, given_1] using hcount
    obtain ⟨L⟩ := args
    match L, hs with
    | [w0, w1, w2, w3, w4, w5], _ => exact ⟨w0, w1, w2, w3, w4, w5, rfl⟩
  have hw := fun d (hd : d ∈ tables_1) => atoms_spec (ws := Jvm.Cond.code x code maxLocals ret :: tables_1) hat d (List.mem_cons_of_mem _ hd)
  obtain ⟨i0, ei0⟩ := isL_v ha0
  obtain rfl : w0 = (.long i0) := Option.some.inj ei0
  obtain ⟨i1, ei1⟩ := is_v ha1
  obtain rfl : w1 = (.int i1) := Option.some.inj ei1
  obtain ⟨i2, ei2⟩ := is_v ha2
  obtain rfl : w2 = (.int i2) := Option.some.inj ei2
  obtain ⟨i3, ei3⟩ := is_v ha3
  obtain rfl : w3 = (.int i3) := Option.some.inj ei3
  obtain ⟨i4, ei4⟩ := is_v ha4
  obtain rfl : w4 = (.int i4) := Option.some.inj ei4
  obtain ⟨i5, ei5⟩ := is_v ha5
  obtain rfl : w5 = (.int i5) := Option.some.inj ei5
  obtain ⟨n, o, h1, h2, h3, _, L, rfl, ⟨rfl, N⟩, hq⟩ := rm0 l s _ hw tables_1 i0 i1 i2 i3 i4 i5  s.heap s.heap.size (Nat.le_refl _) p e ha hc hk s m _ below hf ((Spec.applies_iff_loose hf).mp happ).1 ⟨rfl, State.Warmed39.refl s, rfl⟩ trivial
  refine ⟨n, _, h1, h2, h3, hpost _ _ _ _ _ _ ⟨Cond.after_iff.mpr rfl, Cond.after_iff.mpr (eq_i res_at (Term.int_eval (1)) rfl), trivial⟩ ⟨hq.1, hq.2.1, (hq.2.2.sift fun y hy => Or.inr (N y hy)).mono (by decide) (by decide)⟩⟩
theorem main_1_1 : Claimed_1_1 := comes_1 fun _ _ _ _ _ _ h hF => ⟨h.1, hF⟩
theorem main_1_2 : Claimed_1_2 := comes_1 fun _ _ _ _ _ _ h hF => ⟨h.2.1, hF⟩
end Jvm.Pilot.@@N@@
namespace Jvm.Pilot.@@N@@
open Jvm Jvm.ClassFile Sem Op Lib Jvm.Free Jvm.Stand Jvm.Pilot.@@N@@.Jvm.D
/-! MADE BY PROGRAM (witnessworld.py) out of the Statement's table words and the real class files: 9 classes; the members and pool entries that the words name. The judged class is class 1, her method 1. -/
namespace start1
open Jvm.ClassFile
def u (s : String) : CpInfo := .utf8 (stringToUtf16 s)
/-- a pool by its gaps: so many unusable entries, then the entry; so many at the end -/
def gap : Nat → List CpInfo → List CpInfo
  | 0, r => r
  | n + 1, r => .unusable :: gap n r
def poolList (es : List (Nat × CpInfo)) (last : Nat) : List CpInfo := es.foldr (fun e r => gap e.1 (e.2 :: r)) (gap last [])
def pool (es : List (Nat × CpInfo)) (last : Nat) : Array CpInfo := ⟨poolList es last⟩
def fileOf (pool : Array CpInfo) (this : Nat) (attrs : Array Attribute := #[]) (ms : Array MethodInfo := #[]) (fl : Nat := 33) (sup : Nat := 0) (ifs : Array Nat := #[]) (fds : Array FieldInfo := #[]) : ClassFile where
  minorVersion := 0
  majorVersion := 65
  constantPool := pool
  accessFlags := fl
  thisClass := this
  superClass := sup
  interfaces := ifs
  fields := fds
  methods := ms
  attributes := attrs
def plain (name : String) (sup : Option ClassId) : Class where
  name := name
  kind := .ordinary
  loader := none
  accessFlags := 33
  super := sup
  interfaces := #[]
  cf := none
  fields := #[]
  methods := #[]
  instanceTypes := #[]
  staticTypes := #[]
  resolved := #[]
  callSites := []
  init := .initialized
  statics := none
  mirror := none

def pool0 : Array CpInfo := pool [(5, u "<init>"), (0, u "()V"), (1, .class_ 10), (1, u "java/lang/Object")] 113

def k0c0 : Code := { maxStack := 0, maxLocals := 1, code := object_method_1_code, exceptionTable := #[], attributes := #[] }
def k0m0 : Method := { name := "<init>", desc := "()V", sig := { parameters := [], returnType := none }, accessFlags := 1, code := some k0c0 }
/-- java/lang/Object -/
def k0 : Class := { plain "java/lang/Object" none with
  accessFlags := 33
  interfaces := #[]
  cf := some (fileOf pool0 8 #[] #[{ accessFlags := 1, nameIndex := 5, descriptorIndex := 6, attributes := #[] }] 33 0 #[] #[])
  fields := #[]
  methods := #[k0m0]
  instanceTypes := #[]
  staticTypes := #[]
  resolved := Array.replicate 124 none
  statics := none }

def pool1 : Array CpInfo := pool [(2, .class_ 4), (1, u "java/lang/Object"), (0, u "<init>"), (0, u "()V"), (0, .methodref 8 9), (0, .class_ 10), (0, .nameAndType 11 12), (0, u "com/example/incipit/incipit/DataBytesIndexOfPinLaw"), (0, u "pick"), (0, u "(JIBI)B"), (0, .integer 2147483647), (0, .class_ 15), (0, u "com/example/incipit/incipit/DataBytes"), (0, .methodref 14 17), (0, .nameAndType 5 18), (0, u "([BII)V"), (0, .methodref 14 20), (0, .nameAndType 21 22), (0, u "indexOf"), (0, u "(BI)I"), (0, .methodref 8 24), (0, .nameAndType 25 26), (0, u "hit"), (0, u "([BIIIBI)Z"), (2, u "law"), (0, u "(JIIIII)Z")] 5

def k1m0 : Method := { name := "<init>", desc := "()V", sig := { parameters := [], returnType := none }, accessFlags := 1, code := none }
def k1c1 : Code := { maxStack := 7, maxLocals := 15, code := code, exceptionTable := #[], attributes := #[] }
def k1m1 : Method := { name := "law", desc := "(JIIIII)Z", sig := { parameters := [.long, .int, .int, .int, .int, .int], returnType := some .boolean }, accessFlags := 9, code := some k1c1 }
def k1c2 : Code := { maxStack := 4, maxLocals := 5, code := method_3_code, exceptionTable := #[], attributes := #[] }
def k1m2 : Method := { name := "pick", desc := "(JIBI)B", sig := { parameters := [.long, .int, .byte, .int], returnType := some .byte }, accessFlags := 10, code := some k1c2 }
def k1c3 : Code := { maxStack := 3, maxLocals := 6, code := method_4_code, exceptionTable := #[], attributes := #[] }
def k1m3 : Method := { name := "hit", desc := "([BIIIBI)Z", sig := { parameters := [(.array .byte), .int, .int, .int, .byte, .int], returnType := some .boolean }, accessFlags := 10, code := some k1c3 }
/-- com/example/incipit/incipit/DataBytesIndexOfPinLaw -/
def k1 : Class := { plain "com/example/incipit/incipit/DataBytesIndexOfPinLaw" (some 0) with
  accessFlags := 49
  interfaces := #[]
  cf := some (fileOf pool1 8 #[] #[{ accessFlags := 1, nameIndex := 5, descriptorIndex := 6, attributes := #[] }, { accessFlags := 9, nameIndex := 29, descriptorIndex := 30, attributes := #[] }, { accessFlags := 10, nameIndex := 11, descriptorIndex := 12, attributes := #[] }, { accessFlags := 10, nameIndex := 25, descriptorIndex := 26, attributes := #[] }] 49 2 #[] #[])
  fields := #[]
  methods := #[k1m0, k1m1, k1m2, k1m3]
  instanceTypes := #[]
  staticTypes := #[]
  resolved := Array.replicate 36 none
  statics := none }

def pool2 : Array CpInfo := pool [(1, .methodref 2 3), (0, .class_ 4), (0, .nameAndType 5 6), (0, u "java/lang/Object"), (0, u "<init>"), (0, u "()V"), (0, .fieldref 8 9), (0, .class_ 10), (0, .nameAndType 11 12), (0, u "com/example/incipit/incipit/DataBytes"), (0, u "array"), (0, u "[B"), (0, .fieldref 8 14), (0, .nameAndType 15 16), (0, u "offset"), (0, u "I"), (0, .fieldref 8 18), (0, .nameAndType 19 16), (0, u "length"), (7, u "([BII)V"), (28, u "indexOf"), (0, u "(BI)I")] 14

def k2c0 : Code := { maxStack := 2, maxLocals := 4, code := prog_8_method_1_code, exceptionTable := #[], attributes := #[] }
def k2m0 : Method := { name := "<init>", desc := "([BII)V", sig := { parameters := [(.array .byte), .int, .int], returnType := none }, accessFlags := 0, code := some k2c0 }
def k2c1 : Code := { maxStack := 3, maxLocals := 4, code := prog_8_method_5_code, exceptionTable := #[], attributes := #[] }
def k2m1 : Method := { name := "indexOf", desc := "(BI)I", sig := { parameters := [.byte, .int], returnType := some .int }, accessFlags := 0, code := some k2c1 }
/-- com/example/incipit/incipit/DataBytes -/
def k2 : Class := { plain "com/example/incipit/incipit/DataBytes" (some 0) with
  accessFlags := 48
  interfaces := #[]
  cf := some (fileOf pool2 8 #[] #[{ accessFlags := 0, nameIndex := 5, descriptorIndex := 27, attributes := #[] }, { accessFlags := 0, nameIndex := 56, descriptorIndex := 57, attributes := #[] }] 48 2 #[] #[{ accessFlags := 18, nameIndex := 11, descriptorIndex := 12, attributes := #[] }, { accessFlags := 18, nameIndex := 15, descriptorIndex := 16, attributes := #[] }, { accessFlags := 18, nameIndex := 19, descriptorIndex := 16, attributes := #[] }])
  fields := #[{ name := "array", type := (.array .byte), accessFlags := 18, slot := 0, constantValue := 0 }, { name := "offset", type := .int, accessFlags := 18, slot := 1, constantValue := 0 }, { name := "length", type := .int, accessFlags := 18, slot := 2, constantValue := 0 }]
  methods := #[k2m0, k2m1]
  instanceTypes := #[(.array .byte), .int, .int]
  staticTypes := #[]
  resolved := Array.replicate 72 none
  statics := none }

def pool3 : Array CpInfo := pool [(1, u "java/lang/Cloneable"), (0, .class_ 1), (0, u "java/lang/Object"), (0, .class_ 3)] 3

/-- java/lang/Cloneable -/
def k3 : Class := { plain "java/lang/Cloneable" (some 0) with
  accessFlags := 1537
  interfaces := #[]
  cf := some (fileOf pool3 2 #[] #[] 1537 4 #[] #[])
  fields := #[]
  methods := #[]
  instanceTypes := #[]
  staticTypes := #[]
  resolved := Array.replicate 8 none
  statics := none }

def pool4 : Array CpInfo := pool [(1, u "java/io/Serializable"), (0, .class_ 1), (0, u "java/lang/Object"), (0, .class_ 3)] 3

/-- java/io/Serializable -/
def k4 : Class := { plain "java/io/Serializable" (some 0) with
  accessFlags := 1537
  interfaces := #[]
  cf := some (fileOf pool4 2 #[] #[] 1537 4 #[] #[])
  fields := #[]
  methods := #[]
  instanceTypes := #[]
  staticTypes := #[]
  resolved := Array.replicate 8 none
  statics := none }

/-- the primitive byte -/
def k5 : Class := { plain "byte" none with kind := .primitive 'B', accessFlags := 0x411 }
/-- [B -/
def k6 : Class := { plain "[B" (some 0) with kind := .array 5 .byte, interfaces := #[3, 4], accessFlags := 1041 }

/-- the primitive int -/
def k7 : Class := { plain "int" none with kind := .primitive 'I', accessFlags := 0x411 }
/-- [I -/
def k8 : Class := { plain "[I" (some 0) with kind := .array 7 .int, interfaces := #[3, 4], accessFlags := 1041 }

def heap : Heap := #[]
def classes : Array Class := #[k0, k1, k2, k3, k4, k5, k6, k7, k8]
def interned : List (Array UInt16 × Addr) := []
def slotsUsed : Nat := 0
def theMethod : MethodId := ⟨1, 1⟩
def args0 : Array Value := #[.long 1, .int 5, .int 3, .int 1, .int 1, .int 1]
def aboutOver (below : List Frame) : State where
  vm := { classes := classes, interned := interned.toArray }
  heap := heap
  slotsUsed := slotsUsed
  threads := #[{ frames := .invoking theMethod args0 :: below }]
def below0 : List Frame := [.native { method := ⟨0, 0⟩, args := #[] }]
def about1 : State := aboutOver below0
def p0 : Program := .bare "" "" ""
def e0 : Env := launch0.env 0 0 0
theorem w_frames : about1.frames = Frame.invoking theMethod args0 :: below0 := rfl
set_option maxRecDepth 65536 in
theorem w_args : argsFit about1.vm theMethod args0 = true := by decide +kernel
set_option maxRecDepth 65536 in
theorem w_heap : heapFits about1 = true := by decide +kernel
set_option maxRecDepth 65536 in
theorem w_runnable : about1.curStatus? = some .runnable := by decide +kernel
set_option maxRecDepth 65536 in
theorem w_alone : about1.alone = true := by decide +kernel
set_option maxRecDepth 65536 in
theorem w_named : about1.methodNamed? x = some theMethod := by decide +kernel
set_option maxRecDepth 65536 in
theorem w_hears : about1.hears theMethod below0 = true := by decide +kernel
set_option maxRecDepth 65536 in
theorem w_ripe : about1.ripe theMethod args0 below0 = true := by decide +kernel
theorem w_running : about1.status = .running := rfl
set_option maxRecDepth 65536 in
theorem w_room : about1.hasRoom e0.platform room_1 = true :=
  launch0.hasRoom_least _ room_1 (by decide +kernel) (by decide +kernel) (by decide +kernel) (by decide +kernel) (by decide +kernel) (by decide +kernel)
theorem allAtoms_all (ts : List Jvm.Cond) (a : Array Jvm.Value) (st : Jvm.State) : (allAtoms ts).before a st = ts.all (fun c => c.before a st) := by
  induction ts with
  | nil => rfl
  | cons c t ih =>
    show (Jvm.Cond.and c (allAtoms t)).before a st = _
    rw [Jvm.Cond.before_and, ih, List.all_cons]
def words1 : List Jvm.Cond := Jvm.Cond.code x code maxLocals ret :: tables_1
/-- a 'code' word, met by the world's own term for the bytes: nothing is compared byte by byte -/
theorem code_word {y : MethodName} {bytes : ByteArray} {mx : Nat} {rt : Option FieldType} {a : Array Value} {s : State} {m : MethodId} {meth : Method} {c : Code} (h1 : s.methodNamed? y = some m) (h2 : s.vm.method? m = some meth) (h3 : meth.code = some c) (h4 : c.code = bytes)
    (h5 : (c.maxLocals == mx && c.exceptionTable.isEmpty && decide (c.maxStack ≤ mostOperands) && decide (meth.sig.returnType = rt) && !meth.locks && decide (parseMethodDescriptor y.desc = some meth.sig)) = true) : (Jvm.Cond.code y bytes mx rt).before a s = true := by
  simp only [Bool.and_eq_true, beq_iff_eq, Bool.not_eq_true', decide_eq_true_eq] at h5
  obtain ⟨⟨⟨⟨⟨g1, g2⟩, g3⟩, g4⟩, g5⟩, g6⟩ := h5
  simp [Cond.before, Cond.holds, Cond.value, h1, h2, h3, h4, g1, g2, g3, g4, g5, g6]
def isCode : Jvm.Cond → Bool
  | .code _ _ _ _ => true
  | _ => false
theorem all_split {L : List Jvm.Cond} {P : Jvm.Cond → Bool} (h1 : L.all (fun c => isCode c || P c) = true) (h2 : ∀ c ∈ L.filter isCode, P c = true) : L.all P = true := by
  refine List.all_eq_true.mpr fun c hc => ?_
  have h := List.all_eq_true.mp h1 c hc
  rcases Bool.eq_false_or_eq_true (isCode c) with hi | hi
  · exact h2 c (List.mem_filter.mpr ⟨hc, hi⟩)
  · simpa [hi] using h
set_option maxRecDepth 65536 in
theorem w_c0 : (Jvm.Cond.code x code maxLocals ret).before args0 about1 = true := code_word (m := ⟨1, 1⟩) (meth := k1m1) (c := k1c1) (by decide +kernel) rfl rfl rfl (by decide +kernel)
set_option maxRecDepth 65536 in
theorem w_c1 : (Jvm.Cond.code ({ cls := "com/example/incipit/incipit/DataBytesIndexOfPinLaw", name := "pick", desc := "(JIBI)B" } : Jvm.MethodName) method_3_code (5 : Nat) (Option.some Jvm.ClassFile.FieldType.byte)).before args0 about1 = true := code_word (m := ⟨1, 2⟩) (meth := k1m2) (c := k1c2) (by decide +kernel) rfl rfl rfl (by decide +kernel)
set_option maxRecDepth 65536 in
theorem w_c2 : (Jvm.Cond.code ({ cls := "com/example/incipit/incipit/DataBytes", name := "<init>", desc := "([BII)V" } : Jvm.MethodName) prog_8_method_1_code (4 : Nat) (Option.none : Option Jvm.ClassFile.FieldType)).before args0 about1 = true := code_word (m := ⟨2, 0⟩) (meth := k2m0) (c := k2c0) (by decide +kernel) rfl rfl rfl (by decide +kernel)
set_option maxRecDepth 65536 in
theorem w_c3 : (Jvm.Cond.code ({ cls := "java/lang/Object", name := "<init>", desc := "()V" } : Jvm.MethodName) object_method_1_code (1 : Nat) (Option.none : Option Jvm.ClassFile.FieldType)).before args0 about1 = true := code_word (m := ⟨0, 0⟩) (meth := k0m0) (c := k0c0) (by decide +kernel) rfl rfl rfl (by decide +kernel)
set_option maxRecDepth 65536 in
theorem w_c4 : (Jvm.Cond.code ({ cls := "com/example/incipit/incipit/DataBytes", name := "indexOf", desc := "(BI)I" } : Jvm.MethodName) prog_8_method_5_code (4 : Nat) (Option.some Jvm.ClassFile.FieldType.int)).before args0 about1 = true := code_word (m := ⟨2, 1⟩) (meth := k2m1) (c := k2c1) (by decide +kernel) rfl rfl rfl (by decide +kernel)
set_option maxRecDepth 65536 in
theorem w_c5 : (Jvm.Cond.code ({ cls := "com/example/incipit/incipit/DataBytesIndexOfPinLaw", name := "hit", desc := "([BIIIBI)Z" } : Jvm.MethodName) method_4_code (6 : Nat) (Option.some Jvm.ClassFile.FieldType.boolean)).before args0 about1 = true := code_word (m := ⟨1, 3⟩) (meth := k1m3) (c := k1c3) (by decide +kernel) rfl rfl rfl (by decide +kernel)
def codes1 : List Jvm.Cond := [Jvm.Cond.code x code maxLocals ret, Jvm.Cond.code ({ cls := "com/example/incipit/incipit/DataBytesIndexOfPinLaw", name := "pick", desc := "(JIBI)B" } : Jvm.MethodName) method_3_code (5 : Nat) (Option.some Jvm.ClassFile.FieldType.byte), Jvm.Cond.code ({ cls := "com/example/incipit/incipit/DataBytes", name := "<init>", desc := "([BII)V" } : Jvm.MethodName) prog_8_method_1_code (4 : Nat) (Option.none : Option Jvm.ClassFile.FieldType), Jvm.Cond.code ({ cls := "java/lang/Object", name := "<init>", desc := "()V" } : Jvm.MethodName) object_method_1_code (1 : Nat) (Option.none : Option Jvm.ClassFile.FieldType), Jvm.Cond.code ({ cls := "com/example/incipit/incipit/DataBytes", name := "indexOf", desc := "(BI)I" } : Jvm.MethodName) prog_8_method_5_code (4 : Nat) (Option.some Jvm.ClassFile.FieldType.int), Jvm.Cond.code ({ cls := "com/example/incipit/incipit/DataBytesIndexOfPinLaw", name := "hit", desc := "([BIIIBI)Z" } : Jvm.MethodName) method_4_code (6 : Nat) (Option.some Jvm.ClassFile.FieldType.boolean)]
set_option maxRecDepth 65536 in
theorem codes_eq : words1.filter isCode = codes1 := rfl
theorem w_codes : ∀ c ∈ words1.filter isCode, c.before args0 about1 = true := by
  rw [codes_eq]
  intro c hc
  simp only [codes1, List.mem_cons, List.not_mem_nil, or_false] at hc
  rcases hc with rfl | rfl | rfl | rfl | rfl | rfl
  · exact w_c0
  · exact w_c1
  · exact w_c2
  · exact w_c3
  · exact w_c4
  · exact w_c5
set_option maxRecDepth 65536 in
theorem w_t1 : (words1.take 24).all (fun c => isCode c || c.before args0 about1) = true := by decide +kernel
set_option maxRecDepth 65536 in
theorem w_t2 : (words1.drop 24).all (fun c => isCode c || c.before args0 about1) = true := by decide +kernel
theorem w_tables : (allAtoms (Jvm.Cond.code x code maxLocals ret :: tables_1)).before args0 about1 = true := by
  rw [allAtoms_all]
  show words1.all (fun c => c.before args0 about1) = true
  refine all_split ?_ w_codes
  rw [← List.take_append_drop 24 words1, List.all_append, w_t1, w_t2]
  rfl
set_option maxRecDepth 65536 in
theorem w_case : (Jvm.Cond.and given_1 narrow_1).before args0 about1 = true := by decide +kernel
theorem w_applies : (headSpec (Jvm.Cond.code x code maxLocals ret :: tables_1) room_1).applies x e0.platform about1 = true :=
  (Spec.applies_iff w_frames).mpr ⟨w_running, w_runnable, w_alone, w_named, w_hears, w_ripe, w_room, w_tables⟩
theorem atStart : AtStart classFile x code maxLocals ret World_1 tables_1 room_1 Calls_1 rest_1 Pre_1 launch0 p0 e0 about1 theMethod args0 below0 :=
  ⟨lists_1, trivial, launch0.admits_env _ _ _, launch0.least_env, fairChoices_fair.cas, fairChoices_fair.clock, w_frames, w_args, w_heap, w_applies, trivial, trivial, w_case⟩
end start1
theorem witness_1 : WitnessClaimed_1 := ⟨start1.p0, start1.e0, start1.about1, start1.theMethod, start1.args0, start1.below0, start1.atStart⟩
end Jvm.Pilot.@@N@@
