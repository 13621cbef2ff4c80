import JvmDerived
import JvmDerived.Pilot.@@N@@Statement
import JvmDerived.Pilot.@@N@@Code
set_option linter.unusedVariables false
set_option linter.unusedSimpArgs false
namespace Jvm.RoadKit
open Sem ClassFile Op Lib Jvm.Stand Jvm.Free Jvm.LawKit
section New
variable {p : Program} {l : Launch} {e : Env} {R : Room} {s : State} {m : MethodId} {args : Array Value} {below : List Frame} {meth : Method} {c : Code} {T : State} {locs : List Loc} {cells slots : Nat}
theorem retI (X : Stand p l e R s m args below meth c T locs cells slots) (hx : p.tables.exec = Jvm.exec) {pc : Nat} {Ls : Array Slot} {z : Int32} {rest : List Value} (hret : meth.sig.returnType = some .int) (hd : decode c.code pc = .ok (.ireturn, 1)) {fs : List Frame}
    (hl : ∀ (f : JFrame) (acts : List Action), f.method = m → f.locked = none → f.entered = [] → (doReturn e (T.setTop f) acts (some (.int z))).1 = T.setFrames fs) : Steps p.tables e below (T.setTop (mkF m pc Ls (.int z :: rest))) (T.setFrames fs) := by
  have hm' : T.vm.method? m = some meth := X.method'
  have hn : narrow .int (.int z) = .int z := rfl
  show Steps p.tables e below (T.setTop { method := m, pc := pc, locals := Ls, stack := _ :: rest, locked := none }) _
  jvm_step X.here [X.here.top, hx, hd, hm', hret, hn]
  first | (intro acts; rw [hl _ acts rfl rfl rfl]) | rw [hl _ _ rfl rfl rfl]
  exact Steps.refl _
end New
end Jvm.RoadKit
namespace Jvm.Pilot.@@N@@
open Jvm Jvm.ClassFile Sem Op Lib Jvm.Free Jvm.Stand Jvm.LawKit Jvm.RoadKit Bundle Jvm.Pilot.@@N@@.Jvm.D
def own_el4 (j e0 e1 e2 e3 : Int32) : Int32 := (if j = (0 : Int32) then e0 else (if j = (1 : Int32) then e1 else (if j = (2 : Int32) then e2 else e3)))
theorem own_in4 {j : Int32} (h : j = (0 : Int32) ∨ j = (1 : Int32) ∨ j = (2 : Int32) ∨ j = (3 : Int32)) : ¬ j < 0 ∧ j < (4 : Int32) := by rcases h with rfl | rfl | rfl | rfl <;> exact ⟨by decide, by decide⟩
theorem own_get4 (j e0 e1 e2 e3 : Int32) (h : j = (0 : Int32) ∨ j = (1 : Int32) ∨ j = (2 : Int32) ∨ j = (3 : Int32)) : [Value.int e0, Value.int e1, Value.int e2, Value.int e3].getD j.toNatClampNeg (.int (0 : Int32)) = .int (own_el4 j e0 e1 e2 e3) := by rcases h with rfl | rfl | rfl | rfl <;> rfl
theorem own_len4 {e0 e1 e2 e3 j : Int32} (h : j = (0 : Int32) ∨ j = (1 : Int32) ∨ j = (2 : Int32) ∨ j = (3 : Int32)) : j.toNatClampNeg < [Value.int e0, Value.int e1, Value.int e2, Value.int e3].length := by rcases h with rfl | rfl | rfl | rfl <;> (show (_ : Nat) < 4; decide)
theorem own_set4 (j v e0 e1 e2 e3 : Int32) (h : j = (0 : Int32) ∨ j = (1 : Int32) ∨ j = (2 : Int32) ∨ j = (3 : Int32)) : [Value.int e0, Value.int e1, Value.int e2, Value.int e3].set j.toNatClampNeg (.int v) = [Value.int (if j = (0 : Int32) then v else e0), Value.int (if j = (1 : Int32) then v else e1), Value.int (if j = (2 : Int32) then v else e2), Value.int (if j = (3 : Int32) then v else e3)] := by rcases h with rfl | rfl | rfl | rfl <;> rfl

def own_sc (e0 e1 e2 e3 : Int32) : Nat → Int32 → Int32
  | 0, _ => 1
  | k + 1, i => if own_el4 i e0 e1 e2 e3 < (0 : Int32) then 0 else own_sc e0 e1 e2 e3 k (i + (1 : Int32))
theorem own_scs (e0 e1 e2 e3 : Int32) (k : Nat) (i : Int32) : own_sc e0 e1 e2 e3 (k + 1) i = if own_el4 i e0 e1 e2 e3 < (0 : Int32) then 0 else own_sc e0 e1 e2 e3 k (i + (1 : Int32)) := rfl
def own_inv (s i : Int32) (k : Nat) : Prop := 0 ≤ i.toInt ∧ i.toInt + (k : Int) = s.toInt ∧ s.toInt ≤ 4
theorem own_lz {s i : Int32} (h : own_inv s i 0) : ¬ i < s := by
  have e := h.2.1
  rw [Int32.lt_iff_toInt_lt]; omega
theorem own_ls {s i : Int32} {k : Nat} (h : own_inv s i (k + 1)) : i < s := by
  have e := h.2.1
  rw [Int32.lt_iff_toInt_lt]; omega
theorem own_li {s i : Int32} {k : Nat} (h : own_inv s i (k + 1)) : i = (0 : Int32) ∨ i = (1 : Int32) ∨ i = (2 : Int32) ∨ i = (3 : Int32) := by
  obtain ⟨a, b, c⟩ := h
  have : i.toInt = 0 ∨ i.toInt = 1 ∨ i.toInt = 2 ∨ i.toInt = 3 := by omega
  rcases this with q | q | q | q
  · exact Or.inl (Int32.toInt_inj.mp q)
  · exact Or.inr (Or.inl (Int32.toInt_inj.mp q))
  · exact Or.inr (Or.inr (Or.inl (Int32.toInt_inj.mp q)))
  · exact Or.inr (Or.inr (Or.inr (Int32.toInt_inj.mp q)))
theorem own_ln {s i : Int32} {k : Nat} (h : own_inv s i (k + 1)) : own_inv s (i + (1 : Int32)) k := by
  obtain ⟨a, b, c⟩ := h
  have d := c_iadd i 1
  have e : (1 : Int32).toInt = 1 := by decide
  have f := rng32 (i + 1)
  exact ⟨by omega, by omega, c⟩

theorem pn_0 : plainName "com/example/incipit/incipit/DataBytes" = true := by first | (simp [plainName, overriddenIn]; done) | decide +kernel
theorem d1_0 : decode prog_8_method_1_code 0 = .ok (.aload_n 0, 1) := by decide +kernel
theorem d1_1 : decode prog_8_method_1_code 1 = .ok (.invokespecial 1, 3) := by decide +kernel
theorem d1_4 : decode prog_8_method_1_code 4 = .ok (.aload_n 0, 1) := by decide +kernel
theorem d1_5 : decode prog_8_method_1_code 5 = .ok (.aload_n 1, 1) := by decide +kernel
theorem d1_6 : decode prog_8_method_1_code 6 = .ok (.putfield 7, 3) := by decide +kernel
theorem d1_9 : decode prog_8_method_1_code 9 = .ok (.aload_n 0, 1) := by decide +kernel
theorem d1_10 : decode prog_8_method_1_code 10 = .ok (.iload_n 2, 1) := by decide +kernel
theorem d1_11 : decode prog_8_method_1_code 11 = .ok (.putfield 13, 3) := by decide +kernel
theorem d1_14 : decode prog_8_method_1_code 14 = .ok (.aload_n 0, 1) := by decide +kernel
theorem d1_15 : decode prog_8_method_1_code 15 = .ok (.iload_n 3, 1) := by decide +kernel
theorem d1_16 : decode prog_8_method_1_code 16 = .ok (.putfield 17, 3) := by decide +kernel
theorem d1_19 : decode prog_8_method_1_code 19 = .ok (.return_, 1) := by decide +kernel
theorem ef_1 (m : MethodId) (x0 : Addr) (x1 : Addr) (x2 : Int32) (x3 : Int32) : entryFrame m #[(.ref x0), (.ref x1), (.int x2), (.int x3)] 4 = mkF m 0 #[.val (.ref x0), .val (.ref x1), .val (.int x2), .val (.int x3)] [] := by first | (simp [entryFrame, mkF, argsToLocals, Value.category]; done) | rfl
def Q1 (Z : State) (a : Addr) (x1 : Addr) (x2 : Int32) (x3 : Int32) (h0 : Heap) (n0 : Nat) (v : Option Value) (h : Heap) (L : List Loc) : Prop := v = none ∧ Fr n0 L ∧ Keep h0 h [a] ∧ Exa Z h a "com/example/incipit/incipit/DataBytes" ∧ Fld Z h a "com/example/incipit/incipit/DataBytes" "array" "[B" (.ref x1) ∧ Fld Z h a "com/example/incipit/incipit/DataBytes" "offset" "I" (.int x2) ∧ Fld Z h a "com/example/incipit/incipit/DataBytes" "length" "I" (.int x3)
set_option maxRecDepth 65536 in
set_option maxHeartbeats 40000000 in
theorem rm1 (l : Launch) (Z : State) (a0 : Array Value) (hw : ∀ d ∈ tables_1, d.before a0 Z = true) (ws : List Jvm.Cond) (a : Addr) (x1 : Addr) (x2 : Int32) (x3 : Int32) (h0 : Heap) (n0 : Nat) (Z0 : n0 ≤ h0.size) (Ea : Exa Z h0 a "com/example/incipit/incipit/DataBytes") (F_array : Fld Z h0 a "com/example/incipit/incipit/DataBytes" "array" "[B" .null) (F_offset : Fld Z h0 a "com/example/incipit/incipit/DataBytes" "offset" "I" (.int (0 : Int32))) (F_length : Fld Z h0 a "com/example/incipit/incipit/DataBytes" "length" "I" (.int (0 : Int32))) (ga : n0 ≤ a) :
    MetFree l (⟨"com/example/incipit/incipit/DataBytes", "<init>", "([BII)V"⟩ : MethodName) (head1 (Jvm.Cond.code (⟨"com/example/incipit/incipit/DataBytes", "<init>", "([BII)V"⟩ : MethodName) prog_8_method_1_code 4 none :: ws) ({ frames := 1, cells := 0, slots := 0, locals := 12 } : Room)) (fun aa U => aa = #[(.ref a), (.ref x1), (.int x2), (.int x3)] ∧ Z.Warmed39 U.vm ∧ U.heap = h0) (fun _ _ _ _ _ => True) (fun _ U o U' => ∃ v L, o = .returned v ∧ Q1 Z a x1 x2 x3 h0 n0 v U'.heap L ∧ FrameEnd U o U' L ({ frames := 1, cells := 0, slots := 0, locals := 12 } : Room).cells ({ frames := 1, cells := 0, slots := 0, locals := 12 } : Room).slots) := by
  refine MetFree.of_bodySF (plainFor_of_name pn_0) hisR ?_
  intro p e s m args below meth c s₁ Bd hml0 hP hK
  obtain ⟨rfl, hZ, hh⟩ := hP
  have hx := Bd.exec
  have hby := Bd.bytes
  have hml : c.maxLocals = 4 := hml0
  have hown : s.vm.findClass "com/example/incipit/incipit/DataBytes" = some m.cls := findClass_of_methodNamed Bd.named
  have hnm := (name_of_methodNamed Bd.named Bd.method).1
  have X0 : Stand p l e ({ frames := 1, cells := 0, slots := 0, locals := 12 } : Room) s m #[(.ref a), (.ref x1), (.int x2), (.int x3)] below meth c s₁ [] 0 0 := Stand.of_body Bd
  have e0 : s₁.heap = h0 := by rw [← hh, Bd.state]; rfl
  have N0 := Fr.nil n0
  have pre0 : ∀ t, Steps p.tables e below (s₁.setTop (mkF m 0 #[.val (.ref a), .val (.ref x1), .val (.int x2), .val (.int x3)] [])) t → Steps p.tables e below (s₁.setTop (entryFrame m #[(.ref a), (.ref x1), (.int x2), (.int x3)] 4)) t := fun t k => castTop (ef_1 m a x1 x2 x3) k
  have pre1 : ∀ t, Steps p.tables e below (s₁.setTop (mkF m 1 #[.val (.ref a), .val (.ref x1), .val (.int x2), .val (.int x3)] [(.ref a)])) t → Steps p.tables e below (s₁.setTop (entryFrame m #[(.ref a), (.ref x1), (.int x2), (.int x3)] 4)) t := fun t k => pre0 t (by
    show Steps p.tables e below (s₁.setTop (mkF m 0 #[.val (.ref a), .val (.ref x1), .val (.int x2), .val (.int x3)] [])) _
    refine XS.aloadN X0.here hx rfl (hb hby d1_0) rfl rfl ?_
    show Steps p.tables e below (s₁.setTop (mkF m 1 #[.val (.ref a), .val (.ref x1), .val (.int x2), .val (.int x3)] [(.ref a)])) _
    exact k)
  obtain ⟨T2, X2, e2, st2⟩ := initO X0 hx hZ hown (hw _ (List.mem_of_getElem? (i := 8) rfl)) (hw _ (List.mem_of_getElem? (i := 9) rfl)) (hw _ (List.mem_of_getElem? (i := 10) rfl)) e0 (g := (mkF m 1 #[.val (.ref a), .val (.ref x1), .val (.int x2), .val (.int x3)] [(.ref a)])) rfl (by rw [hml]; rfl) rfl (hb hby d1_1) (by decide) (W := 0) (by show 2 * 0 + _ ≤ _; exact Nat.le_of_eq rfl) (by decide)
  have pre3 : ∀ t, Steps p.tables e below (T2.setTop (mkF m 4 #[.val (.ref a), .val (.ref x1), .val (.int x2), .val (.int x3)] [])) t → Steps p.tables e below (s₁.setTop (entryFrame m #[(.ref a), (.ref x1), (.int x2), (.int x3)] 4)) t := fun t k => pre1 t (st2 _ k)
  have pre4 : ∀ t, Steps p.tables e below (T2.setTop (mkF m 6 #[.val (.ref a), .val (.ref x1), .val (.int x2), .val (.int x3)] [(.ref x1), (.ref a)])) t → Steps p.tables e below (s₁.setTop (entryFrame m #[(.ref a), (.ref x1), (.int x2), (.int x3)] 4)) t := fun t k => pre3 t (by
    show Steps p.tables e below (T2.setTop (mkF m 4 #[.val (.ref a), .val (.ref x1), .val (.int x2), .val (.int x3)] [])) _
    refine XS.aloadN X2.here hx rfl (hb hby d1_4) rfl rfl ?_
    show Steps p.tables e below (T2.setTop (mkF m 5 #[.val (.ref a), .val (.ref x1), .val (.int x2), .val (.int x3)] [(.ref a)])) _
    refine XS.aloadN X2.here hx rfl (hb hby d1_5) rfl rfl ?_
    show Steps p.tables e below (T2.setTop (mkF m 6 #[.val (.ref a), .val (.ref x1), .val (.int x2), .val (.int x3)] [(.ref x1), (.ref a)])) _
    exact k)
  obtain ⟨T5, h5, X5, e5, W5, st5⟩ := putF X2 hx hZ hown (host := "") (Or.inl (hw _ (List.mem_of_getElem? (i := 11) rfl))) Via.refl e2 F_array Ea (Or.inr ⟨(hw _ (List.mem_of_getElem? (i := 12) rfl)), rfl, hnm⟩) (hw _ (List.mem_of_getElem? (i := 3) rfl)) (ty := (.array .byte)) (by decide) rfl rfl (g := (mkF m 6 #[.val (.ref a), .val (.ref x1), .val (.int x2), .val (.int x3)] [(.ref x1), (.ref a)])) rfl rfl (hb hby d1_6)
  have Fw5 : Fld Z h5 a "com/example/incipit/incipit/DataBytes" "array" "[B" (.ref x1) := (F_array).same W5
  have c6 := (Ea).wr W5
  have c8 := (F_offset).other W5 (Or.inr (slot_ne (Or.inr (hw _ (List.mem_of_getElem? (i := 14) rfl))) (Or.inr (hw _ (List.mem_of_getElem? (i := 12) rfl))) (by decide) (t := .int) (t' := (.array .byte)) (by decide) (by decide)))
  have c9 := (F_length).other W5 (Or.inr (slot_ne (Or.inr (hw _ (List.mem_of_getElem? (i := 16) rfl))) (Or.inr (hw _ (List.mem_of_getElem? (i := 12) rfl))) (by decide) (t := .int) (t' := (.array .byte)) (by decide) (by decide)))
  have N5 := Fr.snoc X5 N0 ga
  have Zz5 : n0 ≤ h5.size := Nat.le_trans Z0 (Keep.of_wr W5).1
  have pre10 : ∀ t, Steps p.tables e below (T5.setTop (mkF m 9 #[.val (.ref a), .val (.ref x1), .val (.int x2), .val (.int x3)] [])) t → Steps p.tables e below (s₁.setTop (entryFrame m #[(.ref a), (.ref x1), (.int x2), (.int x3)] 4)) t := fun t k => pre4 t (st5 _ k)
  have Kp5 : Keep h0 h5 [a] := ((Keep.refl h0 [a])).wr W5 (Or.inl (List.mem_of_getElem? (i := 0) rfl))
  have pre11 : ∀ t, Steps p.tables e below (T5.setTop (mkF m 11 #[.val (.ref a), .val (.ref x1), .val (.int x2), .val (.int x3)] [(.int x2), (.ref a)])) t → Steps p.tables e below (s₁.setTop (entryFrame m #[(.ref a), (.ref x1), (.int x2), (.int x3)] 4)) t := fun t k => pre10 t (by
    show Steps p.tables e below (T5.setTop (mkF m 9 #[.val (.ref a), .val (.ref x1), .val (.int x2), .val (.int x3)] [])) _
    refine XS.aloadN X5.here hx rfl (hb hby d1_9) rfl rfl ?_
    show Steps p.tables e below (T5.setTop (mkF m 10 #[.val (.ref a), .val (.ref x1), .val (.int x2), .val (.int x3)] [(.ref a)])) _
    refine XS.iloadN X5.here hx rfl (hb hby d1_10) rfl ?_
    show Steps p.tables e below (T5.setTop (mkF m 11 #[.val (.ref a), .val (.ref x1), .val (.int x2), .val (.int x3)] [(.int x2), (.ref a)])) _
    exact k)
  obtain ⟨T12, h12, X12, e12, W12, st12⟩ := putF X5 hx hZ hown (host := "") (Or.inl (hw _ (List.mem_of_getElem? (i := 13) rfl))) Via.refl e5 c8 c6 (Or.inr ⟨(hw _ (List.mem_of_getElem? (i := 14) rfl)), rfl, hnm⟩) (hw _ (List.mem_of_getElem? (i := 3) rfl)) (ty := .int) (by decide) rfl rfl (g := (mkF m 11 #[.val (.ref a), .val (.ref x1), .val (.int x2), .val (.int x3)] [(.int x2), (.ref a)])) rfl rfl (hb hby d1_11)
  have Fw12 : Fld Z h12 a "com/example/incipit/incipit/DataBytes" "offset" "I" (.int x2) := (c8).same W12
  have c13 := (c6).wr W12
  have c15 := (c9).other W12 (Or.inr (slot_ne (Or.inr (hw _ (List.mem_of_getElem? (i := 16) rfl))) (Or.inr (hw _ (List.mem_of_getElem? (i := 14) rfl))) (by decide) (t := .int) (t' := .int) (by decide) (by decide)))
  have c16 := (Fw5).other W12 (Or.inr (slot_ne (Or.inr (hw _ (List.mem_of_getElem? (i := 12) rfl))) (Or.inr (hw _ (List.mem_of_getElem? (i := 14) rfl))) (by decide) (t := (.array .byte)) (t' := .int) (by decide) (by decide)))
  have N12 := Fr.snoc X12 N5 ga
  have Zz12 : n0 ≤ h12.size := Nat.le_trans Zz5 (Keep.of_wr W12).1
  have pre17 : ∀ t, Steps p.tables e below (T12.setTop (mkF m 14 #[.val (.ref a), .val (.ref x1), .val (.int x2), .val (.int x3)] [])) t → Steps p.tables e below (s₁.setTop (entryFrame m #[(.ref a), (.ref x1), (.int x2), (.int x3)] 4)) t := fun t k => pre11 t (st12 _ k)
  have Kp12 : Keep h0 h12 [a] := (Kp5).wr W12 (Or.inl (List.mem_of_getElem? (i := 0) rfl))
  have pre18 : ∀ t, Steps p.tables e below (T12.setTop (mkF m 16 #[.val (.ref a), .val (.ref x1), .val (.int x2), .val (.int x3)] [(.int x3), (.ref a)])) t → Steps p.tables e below (s₁.setTop (entryFrame m #[(.ref a), (.ref x1), (.int x2), (.int x3)] 4)) t := fun t k => pre17 t (by
    show Steps p.tables e below (T12.setTop (mkF m 14 #[.val (.ref a), .val (.ref x1), .val (.int x2), .val (.int x3)] [])) _
    refine XS.aloadN X12.here hx rfl (hb hby d1_14) rfl rfl ?_
    show Steps p.tables e below (T12.setTop (mkF m 15 #[.val (.ref a), .val (.ref x1), .val (.int x2), .val (.int x3)] [(.ref a)])) _
    refine XS.iloadN X12.here hx rfl (hb hby d1_15) rfl ?_
    show Steps p.tables e below (T12.setTop (mkF m 16 #[.val (.ref a), .val (.ref x1), .val (.int x2), .val (.int x3)] [(.int x3), (.ref a)])) _
    exact k)
  obtain ⟨T19, h19, X19, e19, W19, st19⟩ := putF X12 hx hZ hown (host := "") (Or.inl (hw _ (List.mem_of_getElem? (i := 15) rfl))) Via.refl e12 c15 c13 (Or.inr ⟨(hw _ (List.mem_of_getElem? (i := 16) rfl)), rfl, hnm⟩) (hw _ (List.mem_of_getElem? (i := 3) rfl)) (ty := .int) (by decide) rfl rfl (g := (mkF m 16 #[.val (.ref a), .val (.ref x1), .val (.int x2), .val (.int x3)] [(.int x3), (.ref a)])) rfl rfl (hb hby d1_16)
  have Fw19 : Fld Z h19 a "com/example/incipit/incipit/DataBytes" "length" "I" (.int x3) := (c15).same W19
  have c20 := (c13).wr W19
  have c22 := (c16).other W19 (Or.inr (slot_ne (Or.inr (hw _ (List.mem_of_getElem? (i := 12) rfl))) (Or.inr (hw _ (List.mem_of_getElem? (i := 16) rfl))) (by decide) (t := (.array .byte)) (t' := .int) (by decide) (by decide)))
  have c23 := (Fw12).other W19 (Or.inr (slot_ne (Or.inr (hw _ (List.mem_of_getElem? (i := 14) rfl))) (Or.inr (hw _ (List.mem_of_getElem? (i := 16) rfl))) (by decide) (t := .int) (t' := .int) (by decide) (by decide)))
  have N19 := Fr.snoc X19 N12 ga
  have Zz19 : n0 ≤ h19.size := Nat.le_trans Zz12 (Keep.of_wr W19).1
  have pre24 : ∀ t, Steps p.tables e below (T19.setTop (mkF m 19 #[.val (.ref a), .val (.ref x1), .val (.int x2), .val (.int x3)] [])) t → Steps p.tables e below (s₁.setTop (entryFrame m #[(.ref a), (.ref x1), (.int x2), (.int x3)] 4)) t := fun t k => pre18 t (st19 _ k)
  have Kp19 : Keep h0 h19 [a] := (Kp12).wr W19 (Or.inl (List.mem_of_getElem? (i := 0) rfl))
  obtain ⟨fs, hr, hrun, hended, hW, hsame⟩ := X19.leave (v := none) (fun _ => rfl)
  refine ⟨_, _, pre24 _ ?_, hrun, hended, _, _, rfl, ?_, ⟨_, rfl⟩, hW, hsame.mono (by decide) (by decide)⟩
  · show Steps p.tables e below (T19.setTop (mkF m 19 #[.val (.ref a), .val (.ref x1), .val (.int x2), .val (.int x3)] [])) _
    exact X19.returnOut hx Bd.returns (hb hby d1_19) hr
  · show Q1 Z a x1 x2 x3 h0 n0 _ T19.heap _
    rw [e19]
    exact ⟨rfl, N19, Kp19, c20, c22, c23, Fw19⟩
def F3 (x0 : Int32) (x1 : Int32) (x2 : Int32) (x3 : Int32) : Int32 := (nar .boolean (if x1 < x2 then (0 : Int32) else (if x1 < (x2 + x3) then (if x0 < (0 : Int32) then (1 : Int32) else (0 : Int32)) else (0 : Int32))))
theorem pn_1 : plainName "com/example/incipit/incipit/DataBytesIsAsciiPinLaw" = true := by first | (simp [plainName, overriddenIn]; done) | decide +kernel
theorem d3_0 : decode method_2_code 0 = .ok (.iload_n 2, 1) := by decide +kernel
theorem d3_1 : decode method_2_code 1 = .ok (.iload_n 1, 1) := by decide +kernel
theorem d3_2 : decode method_2_code 2 = .ok (.if_icmp .gt 18, 3) := by decide +kernel
theorem d3_5 : decode method_2_code 5 = .ok (.iload_n 1, 1) := by decide +kernel
theorem d3_6 : decode method_2_code 6 = .ok (.iload_n 2, 1) := by decide +kernel
theorem d3_7 : decode method_2_code 7 = .ok (.iload_n 3, 1) := by decide +kernel
theorem d3_8 : decode method_2_code 8 = .ok (.iadd, 1) := by decide +kernel
theorem d3_9 : decode method_2_code 9 = .ok (.if_icmp .ge 11, 3) := by decide +kernel
theorem d3_12 : decode method_2_code 12 = .ok (.iload_n 0, 1) := by decide +kernel
theorem d3_13 : decode method_2_code 13 = .ok (.ifCond .ge 7, 3) := by decide +kernel
theorem d3_16 : decode method_2_code 16 = .ok (.iconst 1, 1) := by decide +kernel
theorem d3_17 : decode method_2_code 17 = .ok (.goto 4, 3) := by decide +kernel
theorem d3_20 : decode method_2_code 20 = .ok (.iconst 0, 1) := by decide +kernel
theorem d3_21 : decode method_2_code 21 = .ok (.ireturn, 1) := by decide +kernel
theorem ef_3 (m : MethodId) (x0 : Int32) (x1 : Int32) (x2 : Int32) (x3 : Int32) : entryFrame m #[(.int x0), (.int x1), (.int x2), (.int x3)] 4 = mkF m 0 #[.val (.int x0), .val (.int x1), .val (.int x2), .val (.int x3)] [] := by first | (simp [entryFrame, mkF, argsToLocals, Value.category]; done) | rfl
def Q3 (Z : State) (x0 : Int32) (x1 : Int32) (x2 : Int32) (x3 : Int32) (h0 : Heap) (n0 : Nat) (v : Option Value) (h : Heap) (L : List Loc) : Prop := ∃ z : Int32, v = some (.int z) ∧ Fr n0 L ∧ h = h0 ∧ z = F3 x0 x1 x2 x3
set_option maxRecDepth 65536 in
set_option maxHeartbeats 40000000 in
theorem rm3 (l : Launch) (Z : State) (a0 : Array Value) (hw : ∀ d ∈ tables_1, d.before a0 Z = true) (ws : List Jvm.Cond) (x0 : Int32) (x1 : Int32) (x2 : Int32) (x3 : Int32) (h0 : Heap) (n0 : Nat) (Z0 : n0 ≤ h0.size) :
    MetFree l (⟨"com/example/incipit/incipit/DataBytesIsAsciiPinLaw", "bad", "(BIII)Z"⟩ : MethodName) (head1 (Jvm.Cond.code (⟨"com/example/incipit/incipit/DataBytesIsAsciiPinLaw", "bad", "(BIII)Z"⟩ : MethodName) method_2_code 4 (some .boolean) :: ws) ({ frames := 0, cells := 0, slots := 0, locals := 0 } : Room)) (fun aa U => aa = #[(.int x0), (.int x1), (.int x2), (.int x3)] ∧ Z.Warmed39 U.vm ∧ U.heap = h0) (fun _ _ _ _ _ => True) (fun _ U o U' => ∃ v L, o = .returned v ∧ Q3 Z x0 x1 x2 x3 h0 n0 v U'.heap L ∧ FrameEnd U o U' L ({ frames := 0, cells := 0, slots := 0, locals := 0 } : Room).cells ({ frames := 0, cells := 0, slots := 0, locals := 0 } : Room).slots) := by
  refine MetFree.of_bodySF (plainFor_of_name pn_1) hisR ?_
  intro p e s m args below meth c s₁ Bd hml0 hP hK
  obtain ⟨rfl, hZ, hh⟩ := hP
  have hx := Bd.exec
  have hby := Bd.bytes
  have hml : c.maxLocals = 4 := hml0
  have hown : s.vm.findClass "com/example/incipit/incipit/DataBytesIsAsciiPinLaw" = some m.cls := findClass_of_methodNamed Bd.named
  have hnm := (name_of_methodNamed Bd.named Bd.method).1
  have X0 : Stand p l e ({ frames := 0, cells := 0, slots := 0, locals := 0 } : Room) s m #[(.int x0), (.int x1), (.int x2), (.int x3)] below meth c s₁ [] 0 0 := Stand.of_body Bd
  have e0 : s₁.heap = h0 := by rw [← hh, Bd.state]; rfl
  have N0 := Fr.nil n0
  have pre0 : ∀ t, Steps p.tables e below (s₁.setTop (mkF m 0 #[.val (.int x0), .val (.int x1), .val (.int x2), .val (.int x3)] [])) t → Steps p.tables e below (s₁.setTop (entryFrame m #[(.int x0), (.int x1), (.int x2), (.int x3)] 4)) t := fun t k => castTop (ef_3 m x0 x1 x2 x3) k
  obtain ⟨v4, hv4⟩ : ∃ z : Int32, z = (if x1 < x2 then (0 : Int32) else (if x1 < (x2 + x3) then (if x0 < (0 : Int32) then (1 : Int32) else (0 : Int32)) else (0 : Int32))) := ⟨_, rfl⟩
  have pre5 : ∀ t, Steps p.tables e below (s₁.setTop (mkF m 21 #[.val (.int x0), .val (.int x1), .val (.int x2), .val (.int x3)] [(.int v4)])) t → Steps p.tables e below (s₁.setTop (entryFrame m #[(.int x0), (.int x1), (.int x2), (.int x3)] 4)) t := fun t k => pre0 t (by
    show Steps p.tables e below (s₁.setTop (mkF m 0 #[.val (.int x0), .val (.int x1), .val (.int x2), .val (.int x3)] [])) _
    refine XS.iloadN X0.here hx rfl (hb hby d3_0) rfl ?_
    show Steps p.tables e below (s₁.setTop (mkF m 1 #[.val (.int x0), .val (.int x1), .val (.int x2), .val (.int x3)] [(.int x2)])) _
    refine XS.iloadN X0.here hx rfl (hb hby d3_1) rfl ?_
    show Steps p.tables e below (s₁.setTop (mkF m 2 #[.val (.int x0), .val (.int x1), .val (.int x2), .val (.int x3)] [(.int x1), (.int x2)])) _
    by_cases hc1 : x1 < x2
    · skip
      refine XS.icmpYes X0.here hx rfl (pc0 := 2) (pc' := 20) rfl (hb hby d3_2) rfl (tlt hc1).2.2.1 (by decide) (by decide) ?_
      show Steps p.tables e below (s₁.setTop (mkF m 20 #[.val (.int x0), .val (.int x1), .val (.int x2), .val (.int x3)] [])) _
      refine XS.iconst X0.here hx rfl (hb hby d3_20) ?_
      show Steps p.tables e below (s₁.setTop (mkF m 21 #[.val (.int x0), .val (.int x1), .val (.int x2), .val (.int x3)] [(.int (0 : Int32))])) _
      rw [show v4 = (0 : Int32) from by rw [hv4, if_pos hc1]] at k
      exact k
    · skip
      refine XS.icmpNo X0.here hx rfl (hb hby d3_2) rfl (flt hc1).2.2.1 ?_
      show Steps p.tables e below (s₁.setTop (mkF m 5 #[.val (.int x0), .val (.int x1), .val (.int x2), .val (.int x3)] [])) _
      refine XS.iloadN X0.here hx rfl (hb hby d3_5) rfl ?_
      show Steps p.tables e below (s₁.setTop (mkF m 6 #[.val (.int x0), .val (.int x1), .val (.int x2), .val (.int x3)] [(.int x1)])) _
      refine XS.iloadN X0.here hx rfl (hb hby d3_6) rfl ?_
      show Steps p.tables e below (s₁.setTop (mkF m 7 #[.val (.int x0), .val (.int x1), .val (.int x2), .val (.int x3)] [(.int x2), (.int x1)])) _
      refine XS.iloadN X0.here hx rfl (hb hby d3_7) rfl ?_
      show Steps p.tables e below (s₁.setTop (mkF m 8 #[.val (.int x0), .val (.int x1), .val (.int x2), .val (.int x3)] [(.int x3), (.int x2), (.int x1)])) _
      refine XS.iadd X0.here hx rfl (hb hby d3_8) rfl ?_
      show Steps p.tables e below (s₁.setTop (mkF m 9 #[.val (.int x0), .val (.int x1), .val (.int x2), .val (.int x3)] [(.int (x2 + x3)), (.int x1)])) _
      by_cases hc2 : x1 < (x2 + x3)
      · skip
        refine XS.icmpNo X0.here hx rfl (hb hby d3_9) rfl (tlt hc2).2.1 ?_
        show Steps p.tables e below (s₁.setTop (mkF m 12 #[.val (.int x0), .val (.int x1), .val (.int x2), .val (.int x3)] [])) _
        refine XS.iloadN X0.here hx rfl (hb hby d3_12) rfl ?_
        show Steps p.tables e below (s₁.setTop (mkF m 13 #[.val (.int x0), .val (.int x1), .val (.int x2), .val (.int x3)] [(.int x0)])) _
        by_cases hc3 : x0 < (0 : Int32)
        · skip
          refine XS.ifNo X0.here hx rfl (hb hby d3_13) rfl ((if0 _ _).trans (tlt hc3).2.1) ?_
          show Steps p.tables e below (s₁.setTop (mkF m 16 #[.val (.int x0), .val (.int x1), .val (.int x2), .val (.int x3)] [])) _
          refine XS.iconst X0.here hx rfl (hb hby d3_16) ?_
          show Steps p.tables e below (s₁.setTop (mkF m 17 #[.val (.int x0), .val (.int x1), .val (.int x2), .val (.int x3)] [(.int (1 : Int32))])) _
          refine XS.goto X0.here hx rfl (pc0 := 17) (pc' := 21) rfl (hb hby d3_17) (by decide) (by decide) ?_
          show Steps p.tables e below (s₁.setTop (mkF m 21 #[.val (.int x0), .val (.int x1), .val (.int x2), .val (.int x3)] [(.int (1 : Int32))])) _
          rw [show v4 = (1 : Int32) from by rw [hv4, if_neg hc1, if_pos hc2, if_pos hc3]] at k
          exact k
        · skip
          refine XS.ifYes X0.here hx rfl (pc0 := 13) (pc' := 20) rfl (hb hby d3_13) rfl ((if0 _ _).trans (flt hc3).2.1) (by decide) (by decide) ?_
          show Steps p.tables e below (s₁.setTop (mkF m 20 #[.val (.int x0), .val (.int x1), .val (.int x2), .val (.int x3)] [])) _
          refine XS.iconst X0.here hx rfl (hb hby d3_20) ?_
          show Steps p.tables e below (s₁.setTop (mkF m 21 #[.val (.int x0), .val (.int x1), .val (.int x2), .val (.int x3)] [(.int (0 : Int32))])) _
          rw [show v4 = (0 : Int32) from by rw [hv4, if_neg hc1, if_pos hc2, if_neg hc3]] at k
          exact k
      · skip
        refine XS.icmpYes X0.here hx rfl (pc0 := 9) (pc' := 20) rfl (hb hby d3_9) rfl (flt hc2).2.1 (by decide) (by decide) ?_
        show Steps p.tables e below (s₁.setTop (mkF m 20 #[.val (.int x0), .val (.int x1), .val (.int x2), .val (.int x3)] [])) _
        refine XS.iconst X0.here hx rfl (hb hby d3_20) ?_
        show Steps p.tables e below (s₁.setTop (mkF m 21 #[.val (.int x0), .val (.int x1), .val (.int x2), .val (.int x3)] [(.int (0 : Int32))])) _
        rw [show v4 = (0 : Int32) from by rw [hv4, if_neg hc1, if_neg hc2]] at k
        exact k)
  obtain ⟨fs, hr, hrun, hended, hW, hsame⟩ := X0.leave (v := some (.int (nar .boolean v4))) (fun h => by rw [Bd.returns] at h; cases h)
  refine ⟨_, _, pre5 _ ?_, hrun, hended, _, _, rfl, ?_, ⟨_, rfl⟩, hW, hsame.mono (by decide) (by decide)⟩
  · show Steps p.tables e below (s₁.setTop (mkF m 21 #[.val (.int x0), .val (.int x1), .val (.int x2), .val (.int x3)] [(.int v4)])) _
    exact retN X0 hx (t := .boolean) Bd.returns (by simp) (hb hby d3_21) hr
  · show Q3 Z x0 x1 x2 x3 h0 n0 _ s₁.heap _
    rw [e0]
    exact ⟨_, rfl, N0, rfl, by subst hv4; rw [F3]⟩
theorem d4_0 : decode prog_8_method_6_code 0 = .ok (.aload_n 0, 1) := by decide +kernel
theorem d4_1 : decode prog_8_method_6_code 1 = .ok (.getfield 13, 3) := by decide +kernel
theorem d4_4 : decode prog_8_method_6_code 4 = .ok (.istore_n 1, 1) := by decide +kernel
theorem d4_5 : decode prog_8_method_6_code 5 = .ok (.iload_n 1, 1) := by decide +kernel
theorem d4_6 : decode prog_8_method_6_code 6 = .ok (.aload_n 0, 1) := by decide +kernel
theorem d4_7 : decode prog_8_method_6_code 7 = .ok (.getfield 13, 3) := by decide +kernel
theorem d4_10 : decode prog_8_method_6_code 10 = .ok (.aload_n 0, 1) := by decide +kernel
theorem d4_11 : decode prog_8_method_6_code 11 = .ok (.getfield 17, 3) := by decide +kernel
theorem d4_14 : decode prog_8_method_6_code 14 = .ok (.iadd, 1) := by decide +kernel
theorem d4_15 : decode prog_8_method_6_code 15 = .ok (.if_icmp .ge 20, 3) := by decide +kernel
theorem d4_18 : decode prog_8_method_6_code 18 = .ok (.aload_n 0, 1) := by decide +kernel
theorem d4_19 : decode prog_8_method_6_code 19 = .ok (.getfield 7, 3) := by decide +kernel
theorem d4_22 : decode prog_8_method_6_code 22 = .ok (.iload_n 1, 1) := by decide +kernel
theorem d4_23 : decode prog_8_method_6_code 23 = .ok (.baload, 1) := by decide +kernel
theorem d4_24 : decode prog_8_method_6_code 24 = .ok (.ifCond .ge 5, 3) := by decide +kernel
theorem d4_27 : decode prog_8_method_6_code 27 = .ok (.iconst 0, 1) := by decide +kernel
theorem d4_28 : decode prog_8_method_6_code 28 = .ok (.ireturn, 1) := by decide +kernel
theorem d4_29 : decode prog_8_method_6_code 29 = .ok (.iinc 1 1, 3) := by decide +kernel
theorem d4_32 : decode prog_8_method_6_code 32 = .ok (.goto (-27), 3) := by decide +kernel
theorem d4_35 : decode prog_8_method_6_code 35 = .ok (.iconst 1, 1) := by decide +kernel
theorem d4_36 : decode prog_8_method_6_code 36 = .ok (.ireturn, 1) := by decide +kernel
theorem ef_4 (m : MethodId) (x0 : Addr) : entryFrame m #[(.ref x0)] 2 = mkF m 0 #[.val (.ref x0), .unset] [] := by first | (simp [entryFrame, mkF, argsToLocals, Value.category]; done) | rfl
def Q4 (Z : State) (a : Addr) (ba : Addr) (kb : ClassId) (uo : Int32) (ul : Int32) (d0 : Int32) (d1 : Int32) (d2 : Int32) (d3 : Int32) (h0 : Heap) (n0 : Nat) (v : Option Value) (h : Heap) (L : List Loc) : Prop := ∃ z : Int32, v = some (.int z) ∧ Fr n0 L ∧ h = h0 ∧ z = own_sc d0 d1 d2 d3 ul.toInt.toNat uo
set_option maxRecDepth 65536 in
set_option maxHeartbeats 40000000 in
theorem rm4 (l : Launch) (Z : State) (a0 : Array Value) (hw : ∀ d ∈ tables_1, d.before a0 Z = true) (ws : List Jvm.Cond) (a : Addr) (ba : Addr) (kb : ClassId) (uo : Int32) (ul : Int32) (d0 : Int32) (d1 : Int32) (d2 : Int32) (d3 : Int32) (h0 : Heap) (n0 : Nat) (Z0 : n0 ≤ h0.size) (F_array : Fld Z h0 a "com/example/incipit/incipit/DataBytes" "array" "[B" (.ref ba)) (F_offset : Fld Z h0 a "com/example/incipit/incipit/DataBytes" "offset" "I" (.int uo)) (F_length : Fld Z h0 a "com/example/incipit/incipit/DataBytes" "length" "I" (.int ul)) (V_ba : Arv Z h0 ba kb .byte (4 : Int32) [(.int d0), (.int d1), (.int d2), (.int d3)] (.int (0 : Int32))) (qs : own_inv (uo + ul) uo ul.toInt.toNat) :
    MetFree l (⟨"com/example/incipit/incipit/DataBytes", "isAscii", "()Z"⟩ : MethodName) (head1 (Jvm.Cond.code (⟨"com/example/incipit/incipit/DataBytes", "isAscii", "()Z"⟩ : MethodName) prog_8_method_6_code 2 (some .boolean) :: ws) ({ frames := 0, cells := 0, slots := 0, locals := 0 } : Room)) (fun aa U => aa = #[(.ref a)] ∧ Z.Warmed39 U.vm ∧ U.heap = h0) (fun _ _ _ _ _ => True) (fun _ U o U' => ∃ v L, o = .returned v ∧ Q4 Z a ba kb uo ul d0 d1 d2 d3 h0 n0 v U'.heap L ∧ FrameEnd U o U' L ({ frames := 0, cells := 0, slots := 0, locals := 0 } : Room).cells ({ frames := 0, cells := 0, slots := 0, locals := 0 } : Room).slots) := by
  refine MetFree.of_bodySF (plainFor_of_name pn_0) hisR ?_
  intro p e s m args below meth c s₁ Bd hml0 hP hK
  obtain ⟨rfl, hZ, hh⟩ := hP
  have hx := Bd.exec
  have hby := Bd.bytes
  have hml : c.maxLocals = 2 := hml0
  have hown : s.vm.findClass "com/example/incipit/incipit/DataBytes" = some m.cls := findClass_of_methodNamed Bd.named
  have hnm := (name_of_methodNamed Bd.named Bd.method).1
  have X0 : Stand p l e ({ frames := 0, cells := 0, slots := 0, locals := 0 } : Room) s m #[(.ref a)] below meth c s₁ [] 0 0 := Stand.of_body Bd
  have e0 : s₁.heap = h0 := by rw [← hh, Bd.state]; rfl
  have N0 := Fr.nil n0
  have pre0 : ∀ t, Steps p.tables e below (s₁.setTop (mkF m 0 #[.val (.ref a), .unset] [])) t → Steps p.tables e below (s₁.setTop (entryFrame m #[(.ref a)] 2)) t := fun t k => castTop (ef_4 m a) k
  have pre1 : ∀ t, Steps p.tables e below (s₁.setTop (mkF m 1 #[.val (.ref a), .unset] [(.ref a)])) t → Steps p.tables e below (s₁.setTop (entryFrame m #[(.ref a)] 2)) t := fun t k => pre0 t (by
    show Steps p.tables e below (s₁.setTop (mkF m 0 #[.val (.ref a), .unset] [])) _
    refine XS.aloadN X0.here hx rfl (hb hby d4_0) rfl rfl ?_
    show Steps p.tables e below (s₁.setTop (mkF m 1 #[.val (.ref a), .unset] [(.ref a)])) _
    exact k)
  obtain ⟨T2, X2, e2, st2⟩ := getF X0 hx hZ hown (host := "") (Or.inl (hw _ (List.mem_of_getElem? (i := 13) rfl))) Via.refl e0 F_offset (g := (mkF m 1 #[.val (.ref a), .unset] [(.ref a)])) rfl rfl (hb hby d4_1)
  have pre3 : ∀ t, Steps p.tables e below (T2.setTop (mkF m 4 #[.val (.ref a), .unset] [(.int uo)])) t → Steps p.tables e below (s₁.setTop (entryFrame m #[(.ref a)] 2)) t := fun t k => pre1 t (st2 _ k)
  have pre4 : ∀ t, Steps p.tables e below (T2.setTop (mkF m 5 #[.val (.ref a), .val (.int uo)] [])) t → Steps p.tables e below (s₁.setTop (entryFrame m #[(.ref a)] 2)) t := fun t k => pre3 t (by
    show Steps p.tables e below (T2.setTop (mkF m 4 #[.val (.ref a), .unset] [(.int uo)])) _
    refine XS.istoreN X2.here hx rfl (hb hby d4_4) rfl (l' := #[.val (.ref a), .val (.int uo)]) rfl ?_
    show Steps p.tables e below (T2.setTop (mkF m 5 #[.val (.ref a), .val (.int uo)] [])) _
    exact k)
  obtain ⟨i, hi⟩ : ∃ z : Int32, z = uo := ⟨_, rfl⟩
  rw [← hi] at pre4
  obtain ⟨T5, X5, e5, pre5q⟩ : ∃ T : State, Stand p l e ({ frames := 0, cells := 0, slots := 0, locals := 0 } : Room) s m #[(.ref a)] below meth c T [] 0 0 ∧ T.heap = h0 ∧ ∀ t, Steps p.tables e below (T.setTop (mkF m 5 #[.val (.ref a), .val (.int i)] [])) t → Steps p.tables e below (s₁.setTop (entryFrame m #[(.ref a)] 2)) t := ⟨_, X2, e2, pre4⟩
  obtain ⟨k, hk, hR⟩ : ∃ k : Nat, (own_inv (uo + ul) i k) ∧ own_sc d0 d1 d2 d3 k i = own_sc d0 d1 d2 d3 ul.toInt.toNat uo := ⟨ul.toInt.toNat, by rw [hi]; exact qs, by rw [hi]⟩
  clear hi pre4
  induction k generalizing i T5 with
  | zero =>
    have pre6 : ∀ t, Steps p.tables e below (T5.setTop (mkF m 7 #[.val (.ref a), .val (.int i)] [(.ref a), (.int i)])) t → Steps p.tables e below (s₁.setTop (entryFrame m #[(.ref a)] 2)) t := fun t k => pre5q t (by
      show Steps p.tables e below (T5.setTop (mkF m 5 #[.val (.ref a), .val (.int i)] [])) _
      refine XS.iloadN X5.here hx rfl (hb hby d4_5) rfl ?_
      show Steps p.tables e below (T5.setTop (mkF m 6 #[.val (.ref a), .val (.int i)] [(.int i)])) _
      refine XS.aloadN X5.here hx rfl (hb hby d4_6) rfl rfl ?_
      show Steps p.tables e below (T5.setTop (mkF m 7 #[.val (.ref a), .val (.int i)] [(.ref a), (.int i)])) _
      exact k)
    obtain ⟨T7, X7, e7, st7⟩ := getF X5 hx hZ hown (host := "") (Or.inl (hw _ (List.mem_of_getElem? (i := 13) rfl))) Via.refl e5 F_offset (g := (mkF m 7 #[.val (.ref a), .val (.int i)] [(.ref a), (.int i)])) rfl rfl (hb hby d4_7)
    have pre8 : ∀ t, Steps p.tables e below (T7.setTop (mkF m 10 #[.val (.ref a), .val (.int i)] [(.int uo), (.int i)])) t → Steps p.tables e below (s₁.setTop (entryFrame m #[(.ref a)] 2)) t := fun t k => pre6 t (st7 _ k)
    have pre9 : ∀ t, Steps p.tables e below (T7.setTop (mkF m 11 #[.val (.ref a), .val (.int i)] [(.ref a), (.int uo), (.int i)])) t → Steps p.tables e below (s₁.setTop (entryFrame m #[(.ref a)] 2)) t := fun t k => pre8 t (by
      show Steps p.tables e below (T7.setTop (mkF m 10 #[.val (.ref a), .val (.int i)] [(.int uo), (.int i)])) _
      refine XS.aloadN X7.here hx rfl (hb hby d4_10) rfl rfl ?_
      show Steps p.tables e below (T7.setTop (mkF m 11 #[.val (.ref a), .val (.int i)] [(.ref a), (.int uo), (.int i)])) _
      exact k)
    obtain ⟨T10, X10, e10, st10⟩ := getF X7 hx hZ hown (host := "") (Or.inl (hw _ (List.mem_of_getElem? (i := 15) rfl))) Via.refl e7 F_length (g := (mkF m 11 #[.val (.ref a), .val (.int i)] [(.ref a), (.int uo), (.int i)])) rfl rfl (hb hby d4_11)
    have pre11 : ∀ t, Steps p.tables e below (T10.setTop (mkF m 14 #[.val (.ref a), .val (.int i)] [(.int ul), (.int uo), (.int i)])) t → Steps p.tables e below (s₁.setTop (entryFrame m #[(.ref a)] 2)) t := fun t k => pre9 t (st10 _ k)
    have pre12 : ∀ t, Steps p.tables e below (T10.setTop (mkF m 36 #[.val (.ref a), .val (.int i)] [(.int (1 : Int32))])) t → Steps p.tables e below (s₁.setTop (entryFrame m #[(.ref a)] 2)) t := fun t k => pre11 t (by
      show Steps p.tables e below (T10.setTop (mkF m 14 #[.val (.ref a), .val (.int i)] [(.int ul), (.int uo), (.int i)])) _
      refine XS.iadd X10.here hx rfl (hb hby d4_14) rfl ?_
      show Steps p.tables e below (T10.setTop (mkF m 15 #[.val (.ref a), .val (.int i)] [(.int (uo + ul)), (.int i)])) _
      refine XS.icmpYes X10.here hx rfl (pc0 := 15) (pc' := 35) rfl (hb hby d4_15) rfl (flt (own_lz hk)).2.1 (by decide) (by decide) ?_
      show Steps p.tables e below (T10.setTop (mkF m 35 #[.val (.ref a), .val (.int i)] [])) _
      refine XS.iconst X10.here hx rfl (hb hby d4_35) ?_
      show Steps p.tables e below (T10.setTop (mkF m 36 #[.val (.ref a), .val (.int i)] [(.int (1 : Int32))])) _
      exact k)
    obtain ⟨fs, hr, hrun, hended, hW, hsame⟩ := X10.leave (v := some (.int (1 : Int32))) (fun h => by rw [Bd.returns] at h; cases h)
    refine ⟨_, _, pre12 _ ?_, hrun, hended, _, _, rfl, ?_, ⟨_, rfl⟩, hW, hsame.mono (by decide) (by decide)⟩
    · show Steps p.tables e below (T10.setTop (mkF m 36 #[.val (.ref a), .val (.int i)] [(.int (1 : Int32))])) _
      exact retN X10 hx (t := .boolean) Bd.returns (by simp) (hb hby d4_36) hr
    · show Q4 Z a ba kb uo ul d0 d1 d2 d3 h0 n0 _ T10.heap _
      rw [e10]
      exact ⟨_, rfl, N0, rfl, hR⟩
  | succ k ih =>
    have pre13 : ∀ t, Steps p.tables e below (T5.setTop (mkF m 7 #[.val (.ref a), .val (.int i)] [(.ref a), (.int i)])) t → Steps p.tables e below (s₁.setTop (entryFrame m #[(.ref a)] 2)) t := fun t k => pre5q t (by
      show Steps p.tables e below (T5.setTop (mkF m 5 #[.val (.ref a), .val (.int i)] [])) _
      refine XS.iloadN X5.here hx rfl (hb hby d4_5) rfl ?_
      show Steps p.tables e below (T5.setTop (mkF m 6 #[.val (.ref a), .val (.int i)] [(.int i)])) _
      refine XS.aloadN X5.here hx rfl (hb hby d4_6) rfl rfl ?_
      show Steps p.tables e below (T5.setTop (mkF m 7 #[.val (.ref a), .val (.int i)] [(.ref a), (.int i)])) _
      exact k)
    obtain ⟨T14, X14, e14, st14⟩ := getF X5 hx hZ hown (host := "") (Or.inl (hw _ (List.mem_of_getElem? (i := 13) rfl))) Via.refl e5 F_offset (g := (mkF m 7 #[.val (.ref a), .val (.int i)] [(.ref a), (.int i)])) rfl rfl (hb hby d4_7)
    have pre15 : ∀ t, Steps p.tables e below (T14.setTop (mkF m 10 #[.val (.ref a), .val (.int i)] [(.int uo), (.int i)])) t → Steps p.tables e below (s₁.setTop (entryFrame m #[(.ref a)] 2)) t := fun t k => pre13 t (st14 _ k)
    have pre16 : ∀ t, Steps p.tables e below (T14.setTop (mkF m 11 #[.val (.ref a), .val (.int i)] [(.ref a), (.int uo), (.int i)])) t → Steps p.tables e below (s₁.setTop (entryFrame m #[(.ref a)] 2)) t := fun t k => pre15 t (by
      show Steps p.tables e below (T14.setTop (mkF m 10 #[.val (.ref a), .val (.int i)] [(.int uo), (.int i)])) _
      refine XS.aloadN X14.here hx rfl (hb hby d4_10) rfl rfl ?_
      show Steps p.tables e below (T14.setTop (mkF m 11 #[.val (.ref a), .val (.int i)] [(.ref a), (.int uo), (.int i)])) _
      exact k)
    obtain ⟨T17, X17, e17, st17⟩ := getF X14 hx hZ hown (host := "") (Or.inl (hw _ (List.mem_of_getElem? (i := 15) rfl))) Via.refl e14 F_length (g := (mkF m 11 #[.val (.ref a), .val (.int i)] [(.ref a), (.int uo), (.int i)])) rfl rfl (hb hby d4_11)
    have pre18 : ∀ t, Steps p.tables e below (T17.setTop (mkF m 14 #[.val (.ref a), .val (.int i)] [(.int ul), (.int uo), (.int i)])) t → Steps p.tables e below (s₁.setTop (entryFrame m #[(.ref a)] 2)) t := fun t k => pre16 t (st17 _ k)
    have pre19 : ∀ t, Steps p.tables e below (T17.setTop (mkF m 19 #[.val (.ref a), .val (.int i)] [(.ref a)])) t → Steps p.tables e below (s₁.setTop (entryFrame m #[(.ref a)] 2)) t := fun t k => pre18 t (by
      show Steps p.tables e below (T17.setTop (mkF m 14 #[.val (.ref a), .val (.int i)] [(.int ul), (.int uo), (.int i)])) _
      refine XS.iadd X17.here hx rfl (hb hby d4_14) rfl ?_
      show Steps p.tables e below (T17.setTop (mkF m 15 #[.val (.ref a), .val (.int i)] [(.int (uo + ul)), (.int i)])) _
      refine XS.icmpNo X17.here hx rfl (hb hby d4_15) rfl (tlt (own_ls hk)).2.1 ?_
      show Steps p.tables e below (T17.setTop (mkF m 18 #[.val (.ref a), .val (.int i)] [])) _
      refine XS.aloadN X17.here hx rfl (hb hby d4_18) rfl rfl ?_
      show Steps p.tables e below (T17.setTop (mkF m 19 #[.val (.ref a), .val (.int i)] [(.ref a)])) _
      exact k)
    obtain ⟨T20, X20, e20, st20⟩ := getF X17 hx hZ hown (host := "") (Or.inl (hw _ (List.mem_of_getElem? (i := 11) rfl))) Via.refl e17 F_array (g := (mkF m 19 #[.val (.ref a), .val (.int i)] [(.ref a)])) rfl rfl (hb hby d4_19)
    have pre21 : ∀ t, Steps p.tables e below (T20.setTop (mkF m 22 #[.val (.ref a), .val (.int i)] [(.ref ba)])) t → Steps p.tables e below (s₁.setTop (entryFrame m #[(.ref a)] 2)) t := fun t k => pre19 t (st20 _ k)
    have pre22 : ∀ t, Steps p.tables e below (T20.setTop (mkF m 23 #[.val (.ref a), .val (.int i)] [(.int i), (.ref ba)])) t → Steps p.tables e below (s₁.setTop (entryFrame m #[(.ref a)] 2)) t := fun t k => pre21 t (by
      show Steps p.tables e below (T20.setTop (mkF m 22 #[.val (.ref a), .val (.int i)] [(.ref ba)])) _
      refine XS.iloadN X20.here hx rfl (hb hby d4_22) rfl ?_
      show Steps p.tables e below (T20.setTop (mkF m 23 #[.val (.ref a), .val (.int i)] [(.int i), (.ref ba)])) _
      exact k)
    obtain ⟨cl23, Ar23, q23, S23, M23, H23, G23⟩ := id V_ba
    have hin23 : ¬ (i < 0 ∨ cl23.slots.size ≤ (i).toNatClampNeg) := inb_of S23 (own_in4 (own_li hk))
    have hat23 : cl23.slots[(i).toNatClampNeg]? = some (.int (own_el4 i d0 d1 d2 d3)) := H23.at hin23 (own_get4 _ _ _ _ _ (own_li hk))
    have st23 := X20.baloadBytes hx (j := i) (v := (.int (own_el4 i d0 d1 d2 d3))) (by rw [e20]; exact Ar23.1) (State.isArrayOf_alike hZ.alike Ar23.2.1) Ar23.2.2 hin23 hat23 (g := (mkF m 23 #[.val (.ref a), .val (.int i)] [(.int i), (.ref ba)])) rfl rfl (hb hby d4_23)
    have pre24 : ∀ t, Steps p.tables e below (T20.setTop (mkF m 24 #[.val (.ref a), .val (.int i)] [(.int (own_el4 i d0 d1 d2 d3))])) t → Steps p.tables e below (s₁.setTop (entryFrame m #[(.ref a)] 2)) t := fun t k => pre22 t (st23 _ k)
    by_cases hc25 : (own_el4 i d0 d1 d2 d3) < (0 : Int32)
    · skip
      have pre26 : ∀ t, Steps p.tables e below (T20.setTop (mkF m 28 #[.val (.ref a), .val (.int i)] [(.int (0 : Int32))])) t → Steps p.tables e below (s₁.setTop (entryFrame m #[(.ref a)] 2)) t := fun t k => pre24 t (by
        show Steps p.tables e below (T20.setTop (mkF m 24 #[.val (.ref a), .val (.int i)] [(.int (own_el4 i d0 d1 d2 d3))])) _
        refine XS.ifNo X20.here hx rfl (hb hby d4_24) rfl ((if0 _ _).trans (tlt hc25).2.1) ?_
        show Steps p.tables e below (T20.setTop (mkF m 27 #[.val (.ref a), .val (.int i)] [])) _
        refine XS.iconst X20.here hx rfl (hb hby d4_27) ?_
        show Steps p.tables e below (T20.setTop (mkF m 28 #[.val (.ref a), .val (.int i)] [(.int (0 : Int32))])) _
        exact k)
      obtain ⟨fs, hr, hrun, hended, hW, hsame⟩ := X20.leave (v := some (.int (0 : Int32))) (fun h => by rw [Bd.returns] at h; cases h)
      refine ⟨_, _, pre26 _ ?_, hrun, hended, _, _, rfl, ?_, ⟨_, rfl⟩, hW, hsame.mono (by decide) (by decide)⟩
      · show Steps p.tables e below (T20.setTop (mkF m 28 #[.val (.ref a), .val (.int i)] [(.int (0 : Int32))])) _
        exact retN X20 hx (t := .boolean) Bd.returns (by simp) (hb hby d4_28) hr
      · show Q4 Z a ba kb uo ul d0 d1 d2 d3 h0 n0 _ T20.heap _
        rw [e20]
        exact ⟨_, rfl, N0, rfl, by rw [← hR, own_scs, if_pos hc25]⟩
    · skip
      have pre27 : ∀ t, Steps p.tables e below (T20.setTop (mkF m 5 #[.val (.ref a), .val (.int (i + (1 : Int32)))] [])) t → Steps p.tables e below (s₁.setTop (entryFrame m #[(.ref a)] 2)) t := fun t k => pre24 t (by
        show Steps p.tables e below (T20.setTop (mkF m 24 #[.val (.ref a), .val (.int i)] [(.int (own_el4 i d0 d1 d2 d3))])) _
        refine XS.ifYes X20.here hx rfl (pc0 := 24) (pc' := 29) rfl (hb hby d4_24) rfl ((if0 _ _).trans (flt hc25).2.1) (by decide) (by decide) ?_
        show Steps p.tables e below (T20.setTop (mkF m 29 #[.val (.ref a), .val (.int i)] [])) _
        refine XS.iinc X20.here hx rfl (hb hby d4_29) rfl (l' := #[.val (.ref a), .val (.int (i + (1 : Int32)))]) rfl ?_
        show Steps p.tables e below (T20.setTop (mkF m 32 #[.val (.ref a), .val (.int (i + (1 : Int32)))] [])) _
        refine XS.goto X20.here hx rfl (pc0 := 32) (pc' := 5) rfl (hb hby d4_32) (by decide) (by decide) ?_
        show Steps p.tables e below (T20.setTop (mkF m 5 #[.val (.ref a), .val (.int (i + (1 : Int32)))] [])) _
        exact k)
      exact ih _ _ X20 e20 pre27 (own_ln hk) (by rw [← hR, own_scs, if_neg hc25])
theorem own_off (x v : Int32) (h : v = ((x &&& (2147483647 : Int32)) % (5 : Int32))) : 0 ≤ v.toInt ∧ v.toInt ≤ 4 := by
  have a := c_mask x 2147483647 31 (by decide) (by decide)
  have b := c_irem (x &&& 2147483647) 5 5 (by decide)
  rw [← h] at b; omega
theorem own_nz (x v : Int32) (h : v = ((x &&& (2147483647 : Int32)) % (5 : Int32))) : ((5 : Int32) - v) ≠ (0 : Int32) := by
  have a := own_off x v h
  have b := c_isub 5 v
  have c := rng32 (5 - v)
  have e : (5 : Int32).toInt = 5 := by decide
  intro q
  rw [q] at b
  have e0 : (0 : Int32).toInt = 0 := by decide
  omega
theorem own_len (x y v w : Int32) (h : v = ((x &&& (2147483647 : Int32)) % (5 : Int32))) (h2 : w = ((y &&& (2147483647 : Int32)) % ((5 : Int32) - v))) : 0 ≤ v.toInt ∧ 0 ≤ w.toInt ∧ v.toInt + w.toInt ≤ 4 := by
  have a := own_off x v h
  have b := c_isub 5 v
  have c := rng32 (5 - v)
  have e : (5 : Int32).toInt = 5 := by decide
  have d := c_mask y 2147483647 31 (by decide) (by decide)
  have f := (c_iremV (y &&& 2147483647) (5 - v)).1 (by omega) (by omega)
  rw [← h2] at f
  omega
theorem own_inv0 (x y v w : Int32) (h : v = ((x &&& (2147483647 : Int32)) % (5 : Int32))) (h2 : w = ((y &&& (2147483647 : Int32)) % ((5 : Int32) - v))) : own_inv (v + w) v w.toInt.toNat := by
  have a := own_len x y v w h h2
  have b := c_iadd v w
  have c := rng32 (v + w)
  exact ⟨a.1, by omega, by omega⟩
theorem own_c5 {v : Int32} (h0 : 0 ≤ v.toInt) (h1 : v.toInt ≤ 4) : v = 0 ∨ v = 1 ∨ v = 2 ∨ v = 3 ∨ v = 4 := by
  have : v.toInt = 0 ∨ v.toInt = 1 ∨ v.toInt = 2 ∨ v.toInt = 3 ∨ v.toInt = 4 := by omega
  rcases this with q | q | q | q | q
  · exact Or.inl (Int32.toInt_inj.mp q)
  · exact Or.inr (Or.inl (Int32.toInt_inj.mp q))
  · exact Or.inr (Or.inr (Or.inl (Int32.toInt_inj.mp q)))
  · exact Or.inr (Or.inr (Or.inr (Or.inl (Int32.toInt_inj.mp q))))
  · exact Or.inr (Or.inr (Or.inr (Or.inr (Int32.toInt_inj.mp q))))

set_option maxHeartbeats 8000000 in
theorem own_core (e0 e1 e2 e3 o l r41 v80 r84 v88 : Int32) (h : 0 ≤ o.toInt ∧ 0 ≤ l.toInt ∧ o.toInt + l.toInt ≤ 4) (P41 : r41 = F3 e0 (0 : Int32) o l) (hv80 : v80 = (if r41 = (0 : Int32) then (if F3 e1 (1 : Int32) o l = (0 : Int32) then (if F3 e2 (2 : Int32) o l = (0 : Int32) then (if F3 e3 (3 : Int32) o l = (0 : Int32) then (1 : Int32) else (0 : Int32)) else (0 : Int32)) else (0 : Int32)) else (0 : Int32))) (P84 : r84 = own_sc e0 e1 e2 e3 l.toInt.toNat o) (hv88 : v88 = (if r84 = v80 then (1 : Int32) else (0 : Int32))) : v88 = (1 : Int32) := by
  have z1 : nar .boolean 1 = 1 := by decide
  have z0 : nar .boolean 0 = 0 := by decide
  have z01 : ¬ ((1 : Int32) = 0) := by decide
  have ho := own_c5 h.1 (by omega)
  have hl := own_c5 h.2.1 (by omega)
  rw [hv88, if_pos]
  rw [P84, hv80, P41]
  clear hv88 P84 hv80 P41
  rcases ho with rfl | rfl | rfl | rfl | rfl <;> rcases hl with rfl | rfl | rfl | rfl | rfl <;> first | (exfalso; revert h; decide) | (by_cases h0 : e0 < 0 <;> by_cases h1 : e1 < 0 <;> by_cases h2 : e2 < 0 <;> by_cases h3 : e3 < 0 <;> simp +decide [F3, own_sc, own_el4, h0, h1, h2, h3, z1, z0])

set_option maxHeartbeats 8000000 in
theorem own_nz0_47 (x0 : Int32) (x1 : Int32) (x2 : Int32) (x3 : Int32) (x4 : Int32) (x5 : Int32) (v20 : Int32) (hv20 : v20 = ((x4 &&& (2147483647 : Int32)) % (5 : Int32))) : ((5 : Int32) - v20) ≠ (0 : Int32) := by
  exact own_nz x4 v20 hv20
theorem pd_0 : parseMethodDescriptor "([BII)V" = some ⟨[(.array .byte), .int, .int], none⟩ := by decide +kernel
theorem pd_1 : parseMethodDescriptor "(BIII)Z" = some ⟨[.byte, .int, .int, .int], some .boolean⟩ := by decide +kernel
set_option maxHeartbeats 8000000 in
theorem own_need0_85_0 (x0 : Int32) (x1 : Int32) (x2 : Int32) (x3 : Int32) (x4 : Int32) (x5 : Int32) (v20 : Int32) (v22 : Int32) (r41 : Int32) (v80 : Int32) (hv20 : v20 = ((x4 &&& (2147483647 : Int32)) % (5 : Int32))) (hv22 : v22 = ((x5 &&& (2147483647 : Int32)) % ((5 : Int32) - v20))) (P41 : r41 = F3 (nar .byte (x0.toInt8.toInt32)) (0 : Int32) v20 v22) (hv80 : v80 = (if r41 = (0 : Int32) then (if F3 (nar .byte (x1.toInt8.toInt32)) (1 : Int32) v20 v22 = (0 : Int32) then (if F3 (nar .byte (x2.toInt8.toInt32)) (2 : Int32) v20 v22 = (0 : Int32) then (if F3 (nar .byte (x3.toInt8.toInt32)) (3 : Int32) v20 v22 = (0 : Int32) then (1 : Int32) else (0 : Int32)) else (0 : Int32)) else (0 : Int32)) else (0 : Int32))) : own_inv (v20 + v22) v20 v22.toInt.toNat := by
  exact own_inv0 x4 x5 v20 v22 hv20 hv22
theorem pd_2 : parseMethodDescriptor "()Z" = some ⟨[], some .boolean⟩ := by decide +kernel
set_option maxHeartbeats 8000000 in
theorem own_fin (x0 : Int32) (x1 : Int32) (x2 : Int32) (x3 : Int32) (x4 : Int32) (x5 : Int32) (v20 : Int32) (v22 : Int32) (r41 : Int32) (v80 : Int32) (r84 : Int32) (v88 : Int32) (hv20 : v20 = ((x4 &&& (2147483647 : Int32)) % (5 : Int32))) (hv22 : v22 = ((x5 &&& (2147483647 : Int32)) % ((5 : Int32) - v20))) (P41 : r41 = F3 (nar .byte (x0.toInt8.toInt32)) (0 : Int32) v20 v22) (hv80 : v80 = (if r41 = (0 : Int32) then (if F3 (nar .byte (x1.toInt8.toInt32)) (1 : Int32) v20 v22 = (0 : Int32) then (if F3 (nar .byte (x2.toInt8.toInt32)) (2 : Int32) v20 v22 = (0 : Int32) then (if F3 (nar .byte (x3.toInt8.toInt32)) (3 : Int32) v20 v22 = (0 : Int32) then (1 : Int32) else (0 : Int32)) else (0 : Int32)) else (0 : Int32)) else (0 : Int32))) (P84 : r84 = own_sc (nar .byte (x0.toInt8.toInt32)) (nar .byte (x1.toInt8.toInt32)) (nar .byte (x2.toInt8.toInt32)) (nar .byte (x3.toInt8.toInt32)) v22.toInt.toNat v20) (hv88 : v88 = (if r84 = v80 then (1 : Int32) else (0 : Int32))) : v88 = (1 : Int32) := by
  exact own_core _ _ _ _ v20 v22 r41 v80 r84 v88 (own_len x4 x5 v20 v22 hv20 hv22) P41 hv80 P84 hv88
theorem ef_0 (m : MethodId) (x0 : Int32) (x1 : Int32) (x2 : Int32) (x3 : Int32) (x4 : Int32) (x5 : Int32) : entryFrame m #[(.int x0), (.int x1), (.int x2), (.int x3), (.int x4), (.int x5)] maxLocals = mkF m 0 #[.val (.int x0), .val (.int x1), .val (.int x2), .val (.int x3), .val (.int x4), .val (.int x5), .unset, .unset, .unset, .unset, .unset] [] := by first | (simp [entryFrame, mkF, argsToLocals, Value.category, maxLocals]; done) | rfl
def Q0 (Z : State) (x0 : Int32) (x1 : Int32) (x2 : Int32) (x3 : Int32) (x4 : Int32) (x5 : Int32) (h0 : Heap) (n0 : Nat) (v : Option Value) (h : Heap) (L : List Loc) : Prop := v = some (.int 1) ∧ Fr n0 L
set_option maxRecDepth 65536 in
set_option maxHeartbeats 40000000 in
theorem rm0 (l : Launch) (Z : State) (a0 : Array Value) (hw : ∀ d ∈ tables_1, d.before a0 Z = true) (ws : List Jvm.Cond) (x0 : Int32) (x1 : Int32) (x2 : Int32) (x3 : Int32) (x4 : Int32) (x5 : Int32) (h0 : Heap) (n0 : Nat) (Z0 : n0 ≤ h0.size) :
    MetFree l x (head1 (Jvm.Cond.code x code maxLocals ret :: ws) room_1) (fun aa U => aa = #[(.int x0), (.int x1), (.int x2), (.int x3), (.int x4), (.int x5)] ∧ Z.Warmed39 U.vm ∧ U.heap = h0) (fun _ _ _ _ _ => True) (fun _ U o U' => ∃ v L, o = .returned v ∧ Q0 Z x0 x1 x2 x3 x4 x5 h0 n0 v U'.heap L ∧ FrameEnd U o U' L room_1.cells room_1.slots) := by
  refine MetFree.of_bodySF (plainFor_of_name pn_1) hisR ?_
  intro p e s m args below meth c s₁ Bd hml0 hP hK
  obtain ⟨rfl, hZ, hh⟩ := hP
  have hx := Bd.exec
  have hby := Bd.bytes
  have hml : c.maxLocals = 11 := hml0
  have hown : s.vm.findClass "com/example/incipit/incipit/DataBytesIsAsciiPinLaw" = some m.cls := findClass_of_methodNamed Bd.named
  have hnm := (name_of_methodNamed Bd.named Bd.method).1
  have X0 : Stand p l e room_1 s m #[(.int x0), (.int x1), (.int x2), (.int x3), (.int x4), (.int x5)] below meth c s₁ [] 0 0 := Stand.of_body Bd
  have e0 : s₁.heap = h0 := by rw [← hh, Bd.state]; rfl
  have N0 := Fr.nil n0
  have pre0 : ∀ t, Steps p.tables e below (s₁.setTop (mkF m 0 #[.val (.int x0), .val (.int x1), .val (.int x2), .val (.int x3), .val (.int x4), .val (.int x5), .unset, .unset, .unset, .unset, .unset] [])) t → Steps p.tables e below (s₁.setTop (entryFrame m #[(.int x0), (.int x1), (.int x2), (.int x3), (.int x4), (.int x5)] maxLocals)) t := fun t k => castTop (ef_0 m x0 x1 x2 x3 x4 x5) k
  have pre1 : ∀ t, Steps p.tables e below (s₁.setTop (mkF m 1 #[.val (.int x0), .val (.int x1), .val (.int x2), .val (.int x3), .val (.int x4), .val (.int x5), .unset, .unset, .unset, .unset, .unset] [(.int (4 : Int32))])) t → Steps p.tables e below (s₁.setTop (entryFrame m #[(.int x0), (.int x1), (.int x2), (.int x3), (.int x4), (.int x5)] maxLocals)) t := fun t k => pre0 t (by
    show Steps p.tables e below (s₁.setTop (mkF m 0 #[.val (.int x0), .val (.int x1), .val (.int x2), .val (.int x3), .val (.int x4), .val (.int x5), .unset, .unset, .unset, .unset, .unset] [])) _
    refine XS.iconst X0.here hx rfl (hb hby at_0) ?_
    show Steps p.tables e below (s₁.setTop (mkF m 1 #[.val (.int x0), .val (.int x1), .val (.int x2), .val (.int x3), .val (.int x4), .val (.int x5), .unset, .unset, .unset, .unset, .unset] [(.int (4 : Int32))])) _
    exact k)
  obtain ⟨T2, h2, k2, X2, e2, E2, A2, st2⟩ := newP X0 hx hZ (hw _ (List.mem_of_getElem? (i := 0) rfl)) e0 (g := (mkF m 1 #[.val (.int x0), .val (.int x1), .val (.int x2), .val (.int x3), .val (.int x4), .val (.int x5), .unset, .unset, .unset, .unset, .unset] [(.int (4 : Int32))])) rfl (hb hby at_1) rfl (by decide) (cap := 4) (by decide) (by decide) (by decide) (by decide)
  obtain ⟨b2, g2⟩ : ∃ z, z = h0.size := ⟨_, rfl⟩
  rw [← g2] at A2 st2
  have g_b2 : n0 ≤ b2 := Nat.le_trans Z0 (Nat.le_of_eq g2.symm)
  have Zz2 : n0 ≤ h2.size := Nat.le_trans Z0 E2.1
  have V_b2 : Arv Z h2 b2 k2 .byte (4 : Int32) [(.int (0 : Int32)), (.int (0 : Int32)), (.int (0 : Int32)), (.int (0 : Int32))] (.int (0 : Int32)) := (Arv.new A2 (by decide)).pad (pad_rep [] (.int (0 : Int32)) 4)
  have pre3 : ∀ t, Steps p.tables e below (T2.setTop (mkF m 3 #[.val (.int x0), .val (.int x1), .val (.int x2), .val (.int x3), .val (.int x4), .val (.int x5), .unset, .unset, .unset, .unset, .unset] [(.ref b2)])) t → Steps p.tables e below (s₁.setTop (entryFrame m #[(.int x0), (.int x1), (.int x2), (.int x3), (.int x4), (.int x5)] maxLocals)) t := fun t k => pre1 t (st2 _ k)
  have pre4 : ∀ t, Steps p.tables e below (T2.setTop (mkF m 10 #[.val (.int x0), .val (.int x1), .val (.int x2), .val (.int x3), .val (.int x4), .val (.int x5), .val (.ref b2), .unset, .unset, .unset, .unset] [(.int (x0.toInt8.toInt32)), (.int (0 : Int32)), (.ref b2)])) t → Steps p.tables e below (s₁.setTop (entryFrame m #[(.int x0), (.int x1), (.int x2), (.int x3), (.int x4), (.int x5)] maxLocals)) t := fun t k => pre3 t (by
    show Steps p.tables e below (T2.setTop (mkF m 3 #[.val (.int x0), .val (.int x1), .val (.int x2), .val (.int x3), .val (.int x4), .val (.int x5), .unset, .unset, .unset, .unset, .unset] [(.ref b2)])) _
    refine XS.astore X2.here hx rfl (hb hby at_3) rfl rfl (l' := #[.val (.int x0), .val (.int x1), .val (.int x2), .val (.int x3), .val (.int x4), .val (.int x5), .val (.ref b2), .unset, .unset, .unset, .unset]) rfl ?_
    show Steps p.tables e below (T2.setTop (mkF m 5 #[.val (.int x0), .val (.int x1), .val (.int x2), .val (.int x3), .val (.int x4), .val (.int x5), .val (.ref b2), .unset, .unset, .unset, .unset] [])) _
    refine XS.aload X2.here hx rfl (hb hby at_5) rfl rfl ?_
    show Steps p.tables e below (T2.setTop (mkF m 7 #[.val (.int x0), .val (.int x1), .val (.int x2), .val (.int x3), .val (.int x4), .val (.int x5), .val (.ref b2), .unset, .unset, .unset, .unset] [(.ref b2)])) _
    refine XS.iconst X2.here hx rfl (hb hby at_7) ?_
    show Steps p.tables e below (T2.setTop (mkF m 8 #[.val (.int x0), .val (.int x1), .val (.int x2), .val (.int x3), .val (.int x4), .val (.int x5), .val (.ref b2), .unset, .unset, .unset, .unset] [(.int (0 : Int32)), (.ref b2)])) _
    refine XS.iloadN X2.here hx rfl (hb hby at_8) rfl ?_
    show Steps p.tables e below (T2.setTop (mkF m 9 #[.val (.int x0), .val (.int x1), .val (.int x2), .val (.int x3), .val (.int x4), .val (.int x5), .val (.ref b2), .unset, .unset, .unset, .unset] [(.int x0), (.int (0 : Int32)), (.ref b2)])) _
    refine XS.i2b X2.here hx rfl (hb hby at_9) rfl ?_
    show Steps p.tables e below (T2.setTop (mkF m 10 #[.val (.int x0), .val (.int x1), .val (.int x2), .val (.int x3), .val (.int x4), .val (.int x5), .val (.ref b2), .unset, .unset, .unset, .unset] [(.int (x0.toInt8.toInt32)), (.int (0 : Int32)), (.ref b2)])) _
    exact k)
  obtain ⟨cl5, Ar5, q5, S5, M5, H5, G5⟩ := id V_b2
  have hin5 : ¬ ((0 : Int32) < 0 ∨ cl5.slots.size ≤ ((0 : Int32)).toNatClampNeg) := inb_of S5 ⟨by decide, by decide⟩
  obtain ⟨T5, h5, X5, e5, W5, st5⟩ := stB X2 hx hZ e2 Ar5 (j := (0 : Int32)) hin5 (g := (mkF m 10 #[.val (.int x0), .val (.int x1), .val (.int x2), .val (.int x3), .val (.int x4), .val (.int x5), .val (.ref b2), .unset, .unset, .unset, .unset] [(.int (x0.toInt8.toInt32)), (.int (0 : Int32)), (.ref b2)])) rfl rfl (hb hby at_10)
  have V5 : Arv Z h5 b2 k2 .byte (4 : Int32) [(.int (nar .byte (x0.toInt8.toInt32))), (.int (0 : Int32)), (.int (0 : Int32)), (.int (0 : Int32))] (.int (0 : Int32)) := Arv.set Ar5 q5 S5 M5 H5 G5 (fits_nar_byte _) W5 0 rfl (Nat.le_of_ble_eq_true rfl)
  have N5 := Fr.snoc X5 N0 g_b2
  have Zz5 : n0 ≤ h5.size := Nat.le_trans Zz2 (Keep.of_wr W5).1
  have pre7 : ∀ t, Steps p.tables e below (T5.setTop (mkF m 11 #[.val (.int x0), .val (.int x1), .val (.int x2), .val (.int x3), .val (.int x4), .val (.int x5), .val (.ref b2), .unset, .unset, .unset, .unset] [])) t → Steps p.tables e below (s₁.setTop (entryFrame m #[(.int x0), (.int x1), (.int x2), (.int x3), (.int x4), (.int x5)] maxLocals)) t := fun t k => pre4 t (st5 _ k)
  have pre8 : ∀ t, Steps p.tables e below (T5.setTop (mkF m 16 #[.val (.int x0), .val (.int x1), .val (.int x2), .val (.int x3), .val (.int x4), .val (.int x5), .val (.ref b2), .unset, .unset, .unset, .unset] [(.int (x1.toInt8.toInt32)), (.int (1 : Int32)), (.ref b2)])) t → Steps p.tables e below (s₁.setTop (entryFrame m #[(.int x0), (.int x1), (.int x2), (.int x3), (.int x4), (.int x5)] maxLocals)) t := fun t k => pre7 t (by
    show Steps p.tables e below (T5.setTop (mkF m 11 #[.val (.int x0), .val (.int x1), .val (.int x2), .val (.int x3), .val (.int x4), .val (.int x5), .val (.ref b2), .unset, .unset, .unset, .unset] [])) _
    refine XS.aload X5.here hx rfl (hb hby at_11) rfl rfl ?_
    show Steps p.tables e below (T5.setTop (mkF m 13 #[.val (.int x0), .val (.int x1), .val (.int x2), .val (.int x3), .val (.int x4), .val (.int x5), .val (.ref b2), .unset, .unset, .unset, .unset] [(.ref b2)])) _
    refine XS.iconst X5.here hx rfl (hb hby at_13) ?_
    show Steps p.tables e below (T5.setTop (mkF m 14 #[.val (.int x0), .val (.int x1), .val (.int x2), .val (.int x3), .val (.int x4), .val (.int x5), .val (.ref b2), .unset, .unset, .unset, .unset] [(.int (1 : Int32)), (.ref b2)])) _
    refine XS.iloadN X5.here hx rfl (hb hby at_14) rfl ?_
    show Steps p.tables e below (T5.setTop (mkF m 15 #[.val (.int x0), .val (.int x1), .val (.int x2), .val (.int x3), .val (.int x4), .val (.int x5), .val (.ref b2), .unset, .unset, .unset, .unset] [(.int x1), (.int (1 : Int32)), (.ref b2)])) _
    refine XS.i2b X5.here hx rfl (hb hby at_15) rfl ?_
    show Steps p.tables e below (T5.setTop (mkF m 16 #[.val (.int x0), .val (.int x1), .val (.int x2), .val (.int x3), .val (.int x4), .val (.int x5), .val (.ref b2), .unset, .unset, .unset, .unset] [(.int (x1.toInt8.toInt32)), (.int (1 : Int32)), (.ref b2)])) _
    exact k)
  obtain ⟨cl9, Ar9, q9, S9, M9, H9, G9⟩ := id V5
  have hin9 : ¬ ((1 : Int32) < 0 ∨ cl9.slots.size ≤ ((1 : Int32)).toNatClampNeg) := inb_of S9 ⟨by decide, by decide⟩
  obtain ⟨T9, h9, X9, e9, W9, st9⟩ := stB X5 hx hZ e5 Ar9 (j := (1 : Int32)) hin9 (g := (mkF m 16 #[.val (.int x0), .val (.int x1), .val (.int x2), .val (.int x3), .val (.int x4), .val (.int x5), .val (.ref b2), .unset, .unset, .unset, .unset] [(.int (x1.toInt8.toInt32)), (.int (1 : Int32)), (.ref b2)])) rfl rfl (hb hby at_16)
  have V9 : Arv Z h9 b2 k2 .byte (4 : Int32) [(.int (nar .byte (x0.toInt8.toInt32))), (.int (nar .byte (x1.toInt8.toInt32))), (.int (0 : Int32)), (.int (0 : Int32))] (.int (0 : Int32)) := Arv.set Ar9 q9 S9 M9 H9 G9 (fits_nar_byte _) W9 1 rfl (Nat.le_of_ble_eq_true rfl)
  have N9 := Fr.snoc X9 N5 g_b2
  have Zz9 : n0 ≤ h9.size := Nat.le_trans Zz5 (Keep.of_wr W9).1
  have pre11 : ∀ t, Steps p.tables e below (T9.setTop (mkF m 17 #[.val (.int x0), .val (.int x1), .val (.int x2), .val (.int x3), .val (.int x4), .val (.int x5), .val (.ref b2), .unset, .unset, .unset, .unset] [])) t → Steps p.tables e below (s₁.setTop (entryFrame m #[(.int x0), (.int x1), (.int x2), (.int x3), (.int x4), (.int x5)] maxLocals)) t := fun t k => pre8 t (st9 _ k)
  have pre12 : ∀ t, Steps p.tables e below (T9.setTop (mkF m 22 #[.val (.int x0), .val (.int x1), .val (.int x2), .val (.int x3), .val (.int x4), .val (.int x5), .val (.ref b2), .unset, .unset, .unset, .unset] [(.int (x2.toInt8.toInt32)), (.int (2 : Int32)), (.ref b2)])) t → Steps p.tables e below (s₁.setTop (entryFrame m #[(.int x0), (.int x1), (.int x2), (.int x3), (.int x4), (.int x5)] maxLocals)) t := fun t k => pre11 t (by
    show Steps p.tables e below (T9.setTop (mkF m 17 #[.val (.int x0), .val (.int x1), .val (.int x2), .val (.int x3), .val (.int x4), .val (.int x5), .val (.ref b2), .unset, .unset, .unset, .unset] [])) _
    refine XS.aload X9.here hx rfl (hb hby at_17) rfl rfl ?_
    show Steps p.tables e below (T9.setTop (mkF m 19 #[.val (.int x0), .val (.int x1), .val (.int x2), .val (.int x3), .val (.int x4), .val (.int x5), .val (.ref b2), .unset, .unset, .unset, .unset] [(.ref b2)])) _
    refine XS.iconst X9.here hx rfl (hb hby at_19) ?_
    show Steps p.tables e below (T9.setTop (mkF m 20 #[.val (.int x0), .val (.int x1), .val (.int x2), .val (.int x3), .val (.int x4), .val (.int x5), .val (.ref b2), .unset, .unset, .unset, .unset] [(.int (2 : Int32)), (.ref b2)])) _
    refine XS.iloadN X9.here hx rfl (hb hby at_20) rfl ?_
    show Steps p.tables e below (T9.setTop (mkF m 21 #[.val (.int x0), .val (.int x1), .val (.int x2), .val (.int x3), .val (.int x4), .val (.int x5), .val (.ref b2), .unset, .unset, .unset, .unset] [(.int x2), (.int (2 : Int32)), (.ref b2)])) _
    refine XS.i2b X9.here hx rfl (hb hby at_21) rfl ?_
    show Steps p.tables e below (T9.setTop (mkF m 22 #[.val (.int x0), .val (.int x1), .val (.int x2), .val (.int x3), .val (.int x4), .val (.int x5), .val (.ref b2), .unset, .unset, .unset, .unset] [(.int (x2.toInt8.toInt32)), (.int (2 : Int32)), (.ref b2)])) _
    exact k)
  obtain ⟨cl13, Ar13, q13, S13, M13, H13, G13⟩ := id V9
  have hin13 : ¬ ((2 : Int32) < 0 ∨ cl13.slots.size ≤ ((2 : Int32)).toNatClampNeg) := inb_of S13 ⟨by decide, by decide⟩
  obtain ⟨T13, h13, X13, e13, W13, st13⟩ := stB X9 hx hZ e9 Ar13 (j := (2 : Int32)) hin13 (g := (mkF m 22 #[.val (.int x0), .val (.int x1), .val (.int x2), .val (.int x3), .val (.int x4), .val (.int x5), .val (.ref b2), .unset, .unset, .unset, .unset] [(.int (x2.toInt8.toInt32)), (.int (2 : Int32)), (.ref b2)])) rfl rfl (hb hby at_22)
  have V13 : Arv Z h13 b2 k2 .byte (4 : Int32) [(.int (nar .byte (x0.toInt8.toInt32))), (.int (nar .byte (x1.toInt8.toInt32))), (.int (nar .byte (x2.toInt8.toInt32))), (.int (0 : Int32))] (.int (0 : Int32)) := Arv.set Ar13 q13 S13 M13 H13 G13 (fits_nar_byte _) W13 2 rfl (Nat.le_of_ble_eq_true rfl)
  have N13 := Fr.snoc X13 N9 g_b2
  have Zz13 : n0 ≤ h13.size := Nat.le_trans Zz9 (Keep.of_wr W13).1
  have pre15 : ∀ t, Steps p.tables e below (T13.setTop (mkF m 23 #[.val (.int x0), .val (.int x1), .val (.int x2), .val (.int x3), .val (.int x4), .val (.int x5), .val (.ref b2), .unset, .unset, .unset, .unset] [])) t → Steps p.tables e below (s₁.setTop (entryFrame m #[(.int x0), (.int x1), (.int x2), (.int x3), (.int x4), (.int x5)] maxLocals)) t := fun t k => pre12 t (st13 _ k)
  have pre16 : ∀ t, Steps p.tables e below (T13.setTop (mkF m 28 #[.val (.int x0), .val (.int x1), .val (.int x2), .val (.int x3), .val (.int x4), .val (.int x5), .val (.ref b2), .unset, .unset, .unset, .unset] [(.int (x3.toInt8.toInt32)), (.int (3 : Int32)), (.ref b2)])) t → Steps p.tables e below (s₁.setTop (entryFrame m #[(.int x0), (.int x1), (.int x2), (.int x3), (.int x4), (.int x5)] maxLocals)) t := fun t k => pre15 t (by
    show Steps p.tables e below (T13.setTop (mkF m 23 #[.val (.int x0), .val (.int x1), .val (.int x2), .val (.int x3), .val (.int x4), .val (.int x5), .val (.ref b2), .unset, .unset, .unset, .unset] [])) _
    refine XS.aload X13.here hx rfl (hb hby at_23) rfl rfl ?_
    show Steps p.tables e below (T13.setTop (mkF m 25 #[.val (.int x0), .val (.int x1), .val (.int x2), .val (.int x3), .val (.int x4), .val (.int x5), .val (.ref b2), .unset, .unset, .unset, .unset] [(.ref b2)])) _
    refine XS.iconst X13.here hx rfl (hb hby at_25) ?_
    show Steps p.tables e below (T13.setTop (mkF m 26 #[.val (.int x0), .val (.int x1), .val (.int x2), .val (.int x3), .val (.int x4), .val (.int x5), .val (.ref b2), .unset, .unset, .unset, .unset] [(.int (3 : Int32)), (.ref b2)])) _
    refine XS.iloadN X13.here hx rfl (hb hby at_26) rfl ?_
    show Steps p.tables e below (T13.setTop (mkF m 27 #[.val (.int x0), .val (.int x1), .val (.int x2), .val (.int x3), .val (.int x4), .val (.int x5), .val (.ref b2), .unset, .unset, .unset, .unset] [(.int x3), (.int (3 : Int32)), (.ref b2)])) _
    refine XS.i2b X13.here hx rfl (hb hby at_27) rfl ?_
    show Steps p.tables e below (T13.setTop (mkF m 28 #[.val (.int x0), .val (.int x1), .val (.int x2), .val (.int x3), .val (.int x4), .val (.int x5), .val (.ref b2), .unset, .unset, .unset, .unset] [(.int (x3.toInt8.toInt32)), (.int (3 : Int32)), (.ref b2)])) _
    exact k)
  obtain ⟨cl17, Ar17, q17, S17, M17, H17, G17⟩ := id V13
  have hin17 : ¬ ((3 : Int32) < 0 ∨ cl17.slots.size ≤ ((3 : Int32)).toNatClampNeg) := inb_of S17 ⟨by decide, by decide⟩
  obtain ⟨T17, h17, X17, e17, W17, st17⟩ := stB X13 hx hZ e13 Ar17 (j := (3 : Int32)) hin17 (g := (mkF m 28 #[.val (.int x0), .val (.int x1), .val (.int x2), .val (.int x3), .val (.int x4), .val (.int x5), .val (.ref b2), .unset, .unset, .unset, .unset] [(.int (x3.toInt8.toInt32)), (.int (3 : Int32)), (.ref b2)])) rfl rfl (hb hby at_28)
  have V17 : Arv Z h17 b2 k2 .byte (4 : Int32) [(.int (nar .byte (x0.toInt8.toInt32))), (.int (nar .byte (x1.toInt8.toInt32))), (.int (nar .byte (x2.toInt8.toInt32))), (.int (nar .byte (x3.toInt8.toInt32)))] (.int (0 : Int32)) := Arv.set Ar17 q17 S17 M17 H17 G17 (fits_nar_byte _) W17 3 rfl (Nat.le_of_ble_eq_true rfl)
  have N17 := Fr.snoc X17 N13 g_b2
  have Zz17 : n0 ≤ h17.size := Nat.le_trans Zz13 (Keep.of_wr W17).1
  have pre19 : ∀ t, Steps p.tables e below (T17.setTop (mkF m 29 #[.val (.int x0), .val (.int x1), .val (.int x2), .val (.int x3), .val (.int x4), .val (.int x5), .val (.ref b2), .unset, .unset, .unset, .unset] [])) t → Steps p.tables e below (s₁.setTop (entryFrame m #[(.int x0), (.int x1), (.int x2), (.int x3), (.int x4), (.int x5)] maxLocals)) t := fun t k => pre16 t (st17 _ k)
  obtain ⟨v20, hv20⟩ : ∃ z : Int32, z = ((x4 &&& (2147483647 : Int32)) % (5 : Int32)) := ⟨_, rfl⟩
  have pre21 : ∀ t, Steps p.tables e below (T17.setTop (mkF m 47 #[.val (.int x0), .val (.int x1), .val (.int x2), .val (.int x3), .val (.int x4), .val (.int x5), .val (.ref b2), .val (.int v20), .unset, .unset, .unset] [(.int ((5 : Int32) - v20)), (.int (x5 &&& (2147483647 : Int32)))])) t → Steps p.tables e below (s₁.setTop (entryFrame m #[(.int x0), (.int x1), (.int x2), (.int x3), (.int x4), (.int x5)] maxLocals)) t := fun t k => pre19 t (by
    subst hv20
    show Steps p.tables e below (T17.setTop (mkF m 29 #[.val (.int x0), .val (.int x1), .val (.int x2), .val (.int x3), .val (.int x4), .val (.int x5), .val (.ref b2), .unset, .unset, .unset, .unset] [])) _
    refine XS.iload X17.here hx rfl (hb hby at_29) rfl ?_
    show Steps p.tables e below (T17.setTop (mkF m 31 #[.val (.int x0), .val (.int x1), .val (.int x2), .val (.int x3), .val (.int x4), .val (.int x5), .val (.ref b2), .unset, .unset, .unset, .unset] [(.int x4)])) _
    refine X17.ldcInt hx hown (mvT hZ (hw _ (List.mem_of_getElem? (i := 1) rfl))) (g := (mkF m 31 #[.val (.int x0), .val (.int x1), .val (.int x2), .val (.int x3), .val (.int x4), .val (.int x5), .val (.ref b2), .unset, .unset, .unset, .unset] [(.int x4)])) rfl (hb hby at_31) _ ?_
    show Steps p.tables e below (T17.setTop (mkF m 33 #[.val (.int x0), .val (.int x1), .val (.int x2), .val (.int x3), .val (.int x4), .val (.int x5), .val (.ref b2), .unset, .unset, .unset, .unset] [(.int (2147483647 : Int32)), (.int x4)])) _
    refine XS.iand X17.here hx rfl (hb hby at_33) rfl ?_
    show Steps p.tables e below (T17.setTop (mkF m 34 #[.val (.int x0), .val (.int x1), .val (.int x2), .val (.int x3), .val (.int x4), .val (.int x5), .val (.ref b2), .unset, .unset, .unset, .unset] [(.int (x4 &&& (2147483647 : Int32)))])) _
    refine XS.iconst X17.here hx rfl (hb hby at_34) ?_
    show Steps p.tables e below (T17.setTop (mkF m 35 #[.val (.int x0), .val (.int x1), .val (.int x2), .val (.int x3), .val (.int x4), .val (.int x5), .val (.ref b2), .unset, .unset, .unset, .unset] [(.int (5 : Int32)), (.int (x4 &&& (2147483647 : Int32)))])) _
    refine iremM X17 hx rfl (hb hby at_35) rfl (by decide) ?_
    show Steps p.tables e below (T17.setTop (mkF m 36 #[.val (.int x0), .val (.int x1), .val (.int x2), .val (.int x3), .val (.int x4), .val (.int x5), .val (.ref b2), .unset, .unset, .unset, .unset] [(.int ((x4 &&& (2147483647 : Int32)) % (5 : Int32)))])) _
    refine XS.istore X17.here hx rfl (hb hby at_36) rfl (l' := #[.val (.int x0), .val (.int x1), .val (.int x2), .val (.int x3), .val (.int x4), .val (.int x5), .val (.ref b2), .val (.int ((x4 &&& (2147483647 : Int32)) % (5 : Int32))), .unset, .unset, .unset]) rfl ?_
    show Steps p.tables e below (T17.setTop (mkF m 38 #[.val (.int x0), .val (.int x1), .val (.int x2), .val (.int x3), .val (.int x4), .val (.int x5), .val (.ref b2), .val (.int ((x4 &&& (2147483647 : Int32)) % (5 : Int32))), .unset, .unset, .unset] [])) _
    refine XS.iload X17.here hx rfl (hb hby at_38) rfl ?_
    show Steps p.tables e below (T17.setTop (mkF m 40 #[.val (.int x0), .val (.int x1), .val (.int x2), .val (.int x3), .val (.int x4), .val (.int x5), .val (.ref b2), .val (.int ((x4 &&& (2147483647 : Int32)) % (5 : Int32))), .unset, .unset, .unset] [(.int x5)])) _
    refine X17.ldcInt hx hown (mvT hZ (hw _ (List.mem_of_getElem? (i := 1) rfl))) (g := (mkF m 40 #[.val (.int x0), .val (.int x1), .val (.int x2), .val (.int x3), .val (.int x4), .val (.int x5), .val (.ref b2), .val (.int ((x4 &&& (2147483647 : Int32)) % (5 : Int32))), .unset, .unset, .unset] [(.int x5)])) rfl (hb hby at_40) _ ?_
    show Steps p.tables e below (T17.setTop (mkF m 42 #[.val (.int x0), .val (.int x1), .val (.int x2), .val (.int x3), .val (.int x4), .val (.int x5), .val (.ref b2), .val (.int ((x4 &&& (2147483647 : Int32)) % (5 : Int32))), .unset, .unset, .unset] [(.int (2147483647 : Int32)), (.int x5)])) _
    refine XS.iand X17.here hx rfl (hb hby at_42) rfl ?_
    show Steps p.tables e below (T17.setTop (mkF m 43 #[.val (.int x0), .val (.int x1), .val (.int x2), .val (.int x3), .val (.int x4), .val (.int x5), .val (.ref b2), .val (.int ((x4 &&& (2147483647 : Int32)) % (5 : Int32))), .unset, .unset, .unset] [(.int (x5 &&& (2147483647 : Int32)))])) _
    refine XS.iconst X17.here hx rfl (hb hby at_43) ?_
    show Steps p.tables e below (T17.setTop (mkF m 44 #[.val (.int x0), .val (.int x1), .val (.int x2), .val (.int x3), .val (.int x4), .val (.int x5), .val (.ref b2), .val (.int ((x4 &&& (2147483647 : Int32)) % (5 : Int32))), .unset, .unset, .unset] [(.int (5 : Int32)), (.int (x5 &&& (2147483647 : Int32)))])) _
    refine XS.iload X17.here hx rfl (hb hby at_44) rfl ?_
    show Steps p.tables e below (T17.setTop (mkF m 46 #[.val (.int x0), .val (.int x1), .val (.int x2), .val (.int x3), .val (.int x4), .val (.int x5), .val (.ref b2), .val (.int ((x4 &&& (2147483647 : Int32)) % (5 : Int32))), .unset, .unset, .unset] [(.int ((x4 &&& (2147483647 : Int32)) % (5 : Int32))), (.int (5 : Int32)), (.int (x5 &&& (2147483647 : Int32)))])) _
    refine XS.isub X17.here hx rfl (hb hby at_46) rfl ?_
    show Steps p.tables e below (T17.setTop (mkF m 47 #[.val (.int x0), .val (.int x1), .val (.int x2), .val (.int x3), .val (.int x4), .val (.int x5), .val (.ref b2), .val (.int ((x4 &&& (2147483647 : Int32)) % (5 : Int32))), .unset, .unset, .unset] [(.int ((5 : Int32) - ((x4 &&& (2147483647 : Int32)) % (5 : Int32)))), (.int (x5 &&& (2147483647 : Int32)))])) _
    exact k)
  obtain ⟨v22, hv22⟩ : ∃ z : Int32, z = ((x5 &&& (2147483647 : Int32)) % ((5 : Int32) - v20)) := ⟨_, rfl⟩
  have pre23 : ∀ t, Steps p.tables e below (T17.setTop (mkF m 50 #[.val (.int x0), .val (.int x1), .val (.int x2), .val (.int x3), .val (.int x4), .val (.int x5), .val (.ref b2), .val (.int v20), .val (.int v22), .unset, .unset] [])) t → Steps p.tables e below (s₁.setTop (entryFrame m #[(.int x0), (.int x1), (.int x2), (.int x3), (.int x4), (.int x5)] maxLocals)) t := fun t k => pre21 t (by
    subst hv22
    show Steps p.tables e below (T17.setTop (mkF m 47 #[.val (.int x0), .val (.int x1), .val (.int x2), .val (.int x3), .val (.int x4), .val (.int x5), .val (.ref b2), .val (.int v20), .unset, .unset, .unset] [(.int ((5 : Int32) - v20)), (.int (x5 &&& (2147483647 : Int32)))])) _
    refine iremM X17 hx rfl (hb hby at_47) rfl (own_nz0_47 x0 x1 x2 x3 x4 x5 v20 hv20) ?_
    show Steps p.tables e below (T17.setTop (mkF m 48 #[.val (.int x0), .val (.int x1), .val (.int x2), .val (.int x3), .val (.int x4), .val (.int x5), .val (.ref b2), .val (.int v20), .unset, .unset, .unset] [(.int ((x5 &&& (2147483647 : Int32)) % ((5 : Int32) - v20)))])) _
    refine XS.istore X17.here hx rfl (hb hby at_48) rfl (l' := #[.val (.int x0), .val (.int x1), .val (.int x2), .val (.int x3), .val (.int x4), .val (.int x5), .val (.ref b2), .val (.int v20), .val (.int ((x5 &&& (2147483647 : Int32)) % ((5 : Int32) - v20))), .unset, .unset]) rfl ?_
    show Steps p.tables e below (T17.setTop (mkF m 50 #[.val (.int x0), .val (.int x1), .val (.int x2), .val (.int x3), .val (.int x4), .val (.int x5), .val (.ref b2), .val (.int v20), .val (.int ((x5 &&& (2147483647 : Int32)) % ((5 : Int32) - v20))), .unset, .unset] [])) _
    exact k)
  obtain ⟨T24, h24, X24, e24, E24, A24, D24, -, st24⟩ := newO X17 hx hZ hown (hw _ (List.mem_of_getElem? (i := 2) rfl)) (hw _ (List.mem_of_getElem? (i := 3) rfl)) (hw _ (List.mem_of_getElem? (i := 4) rfl)) e17 (g := (mkF m 50 #[.val (.int x0), .val (.int x1), .val (.int x2), .val (.int x3), .val (.int x4), .val (.int x5), .val (.ref b2), .val (.int v20), .val (.int v22), .unset, .unset] [])) rfl (hb hby at_50) (by decide) (by decide)
  obtain ⟨b24, g24⟩ : ∃ z, z = h17.size := ⟨_, rfl⟩
  rw [← g24] at A24 D24 st24
  have ne_b2_b24 : b2 ≠ b24 := Nat.ne_of_lt (Nat.lt_of_lt_of_le (V17).lt (Nat.le_of_eq g24.symm))
  have g_b24 : n0 ≤ b24 := Nat.le_trans Zz17 (Nat.le_of_eq g24.symm)
  have c25 := (V17).ext E24
  have Zz24 : n0 ≤ h24.size := Nat.le_trans Zz17 E24.1
  have F_array_b24 : Fld Z h24 b24 "com/example/incipit/incipit/DataBytes" "array" "[B" .null := D24 (Or.inr (hw _ (List.mem_of_getElem? (i := 12) rfl))) (ty := (.array .byte)) (by decide)
  have F_offset_b24 : Fld Z h24 b24 "com/example/incipit/incipit/DataBytes" "offset" "I" (.int (0 : Int32)) := D24 (Or.inr (hw _ (List.mem_of_getElem? (i := 14) rfl))) (ty := .int) (by decide)
  have F_length_b24 : Fld Z h24 b24 "com/example/incipit/incipit/DataBytes" "length" "I" (.int (0 : Int32)) := D24 (Or.inr (hw _ (List.mem_of_getElem? (i := 16) rfl))) (ty := .int) (by decide)
  have pre26 : ∀ t, Steps p.tables e below (T24.setTop (mkF m 53 #[.val (.int x0), .val (.int x1), .val (.int x2), .val (.int x3), .val (.int x4), .val (.int x5), .val (.ref b2), .val (.int v20), .val (.int v22), .unset, .unset] [(.ref b24)])) t → Steps p.tables e below (s₁.setTop (entryFrame m #[(.int x0), (.int x1), (.int x2), (.int x3), (.int x4), (.int x5)] maxLocals)) t := fun t k => pre23 t (st24 _ k)
  have pre27 : ∀ t, Steps p.tables e below (T24.setTop (mkF m 60 #[.val (.int x0), .val (.int x1), .val (.int x2), .val (.int x3), .val (.int x4), .val (.int x5), .val (.ref b2), .val (.int v20), .val (.int v22), .unset, .unset] [(.int v22), (.int v20), (.ref b2), (.ref b24), (.ref b24)])) t → Steps p.tables e below (s₁.setTop (entryFrame m #[(.int x0), (.int x1), (.int x2), (.int x3), (.int x4), (.int x5)] maxLocals)) t := fun t k => pre26 t (by
    show Steps p.tables e below (T24.setTop (mkF m 53 #[.val (.int x0), .val (.int x1), .val (.int x2), .val (.int x3), .val (.int x4), .val (.int x5), .val (.ref b2), .val (.int v20), .val (.int v22), .unset, .unset] [(.ref b24)])) _
    refine XS.dup X24.here hx rfl (hb hby at_53) rfl rfl ?_
    show Steps p.tables e below (T24.setTop (mkF m 54 #[.val (.int x0), .val (.int x1), .val (.int x2), .val (.int x3), .val (.int x4), .val (.int x5), .val (.ref b2), .val (.int v20), .val (.int v22), .unset, .unset] [(.ref b24), (.ref b24)])) _
    refine XS.aload X24.here hx rfl (hb hby at_54) rfl rfl ?_
    show Steps p.tables e below (T24.setTop (mkF m 56 #[.val (.int x0), .val (.int x1), .val (.int x2), .val (.int x3), .val (.int x4), .val (.int x5), .val (.ref b2), .val (.int v20), .val (.int v22), .unset, .unset] [(.ref b2), (.ref b24), (.ref b24)])) _
    refine XS.iload X24.here hx rfl (hb hby at_56) rfl ?_
    show Steps p.tables e below (T24.setTop (mkF m 58 #[.val (.int x0), .val (.int x1), .val (.int x2), .val (.int x3), .val (.int x4), .val (.int x5), .val (.ref b2), .val (.int v20), .val (.int v22), .unset, .unset] [(.int v20), (.ref b2), (.ref b24), (.ref b24)])) _
    refine XS.iload X24.here hx rfl (hb hby at_58) rfl ?_
    show Steps p.tables e below (T24.setTop (mkF m 60 #[.val (.int x0), .val (.int x1), .val (.int x2), .val (.int x3), .val (.int x4), .val (.int x5), .val (.ref b2), .val (.int v20), .val (.int v22), .unset, .unset] [(.int v22), (.int v20), (.ref b2), (.ref b24), (.ref b24)])) _
    exact k)
  obtain ⟨_, _, ⟨T29, L29, k29, n29⟩, -, X29, ⟨Lc29, hQ29, l29, y29, z29⟩, st29⟩ := X24.specialBack hx (y := (⟨"com/example/incipit/incipit/DataBytes", "<init>", "([BII)V"⟩ : MethodName)) rfl hown (mvT hZ (hw _ (List.mem_of_getElem? (i := 5) rfl))) (mvT hZ (hw _ (List.mem_of_getElem? (i := 6) rfl))) (mvT hZ (hw _ (List.mem_of_getElem? (i := 7) rfl))) (by decide) (backOf (W := 1) (rm1 l Z a0 hw [] b24 b2 v20 v22   h24 n0 Zz24 A24 F_array_b24 F_offset_b24 F_length_b24 g_b24) hZ (hw _ (List.mem_of_getElem? (i := 7) rfl)) (hw _ (List.mem_of_getElem? (i := 4) rfl)) (by decide) (by decide)) (g := (mkF m 60 #[.val (.int x0), .val (.int x1), .val (.int x2), .val (.int x3), .val (.int x4), .val (.int x5), .val (.ref b2), .val (.int v20), .val (.int v22), .unset, .unset] [(.int v22), (.int v20), (.ref b2), (.ref b24), (.ref b24)])) rfl (by rw [hml]; rfl) (Steps.refl _) (a := b24) (argsL := [(.ref b2), (.int v20), (.int v22)]) (rest := [(.ref b24)]) (lenOf pd_0 rfl) rfl (by show 2 * 0 + _ ≤ _; exact Nat.le_of_eq rfl) (hb hby at_60) (fun _ _ => ⟨rfl, e24, (by decide : 2 + 0 ≤ _), (by decide : 7 + 0 ≤ _)⟩)
  dsimp only [Pt.U, Pt.locs, Pt.cells, Pt.slots] at X29 l29 y29 z29 st29 hQ29
  subst l29 y29 z29
  obtain ⟨rfl, N29q, K29, Ec29, Fc29_array, Fc29_offset, Fc29_length⟩ := hQ29
  have N29 := Fr.app N17 N29q
  have pre30 : ∀ t, Steps p.tables e below (T29.setTop (mkF m 63 #[.val (.int x0), .val (.int x1), .val (.int x2), .val (.int x3), .val (.int x4), .val (.int x5), .val (.ref b2), .val (.int v20), .val (.int v22), .unset, .unset] [(.ref b24)])) t → Steps p.tables e below (s₁.setTop (entryFrame m #[(.int x0), (.int x1), (.int x2), (.int x3), (.int x4), (.int x5)] maxLocals)) t := fun t k => pre27 t (st29.trans k)
  have Zz29 : n0 ≤ T29.heap.size := Nat.le_trans Zz24 K29.1
  have c31 := (c25).keep K29 (ninS ne_b2_b24 (nin0))
  have c32 := (A24).keep K29
  have pre36 : ∀ t, Steps p.tables e below (T29.setTop (mkF m 68 #[.val (.int x0), .val (.int x1), .val (.int x2), .val (.int x3), .val (.int x4), .val (.int x5), .val (.ref b2), .val (.int v20), .val (.int v22), .val (.ref b24), .unset] [(.int (0 : Int32)), (.ref b2)])) t → Steps p.tables e below (s₁.setTop (entryFrame m #[(.int x0), (.int x1), (.int x2), (.int x3), (.int x4), (.int x5)] maxLocals)) t := fun t k => pre30 t (by
    show Steps p.tables e below (T29.setTop (mkF m 63 #[.val (.int x0), .val (.int x1), .val (.int x2), .val (.int x3), .val (.int x4), .val (.int x5), .val (.ref b2), .val (.int v20), .val (.int v22), .unset, .unset] [(.ref b24)])) _
    refine XS.astore X29.here hx rfl (hb hby at_63) rfl rfl (l' := #[.val (.int x0), .val (.int x1), .val (.int x2), .val (.int x3), .val (.int x4), .val (.int x5), .val (.ref b2), .val (.int v20), .val (.int v22), .val (.ref b24), .unset]) rfl ?_
    show Steps p.tables e below (T29.setTop (mkF m 65 #[.val (.int x0), .val (.int x1), .val (.int x2), .val (.int x3), .val (.int x4), .val (.int x5), .val (.ref b2), .val (.int v20), .val (.int v22), .val (.ref b24), .unset] [])) _
    refine XS.aload X29.here hx rfl (hb hby at_65) rfl rfl ?_
    show Steps p.tables e below (T29.setTop (mkF m 67 #[.val (.int x0), .val (.int x1), .val (.int x2), .val (.int x3), .val (.int x4), .val (.int x5), .val (.ref b2), .val (.int v20), .val (.int v22), .val (.ref b24), .unset] [(.ref b2)])) _
    refine XS.iconst X29.here hx rfl (hb hby at_67) ?_
    show Steps p.tables e below (T29.setTop (mkF m 68 #[.val (.int x0), .val (.int x1), .val (.int x2), .val (.int x3), .val (.int x4), .val (.int x5), .val (.ref b2), .val (.int v20), .val (.int v22), .val (.ref b24), .unset] [(.int (0 : Int32)), (.ref b2)])) _
    exact k)
  obtain ⟨cl37, Ar37, q37, S37, M37, H37, G37⟩ := id c31
  have hin37 : ¬ ((0 : Int32) < 0 ∨ cl37.slots.size ≤ ((0 : Int32)).toNatClampNeg) := inb_of S37 ⟨by decide, by decide⟩
  have hat37 : cl37.slots[((0 : Int32)).toNatClampNeg]? = some (.int (nar .byte (x0.toInt8.toInt32))) := H37.at hin37 rfl
  have st37 := X29.baloadBytes hx (j := (0 : Int32)) (v := (.int (nar .byte (x0.toInt8.toInt32)))) Ar37.1 (State.isArrayOf_alike hZ.alike Ar37.2.1) Ar37.2.2 hin37 hat37 (g := (mkF m 68 #[.val (.int x0), .val (.int x1), .val (.int x2), .val (.int x3), .val (.int x4), .val (.int x5), .val (.ref b2), .val (.int v20), .val (.int v22), .val (.ref b24), .unset] [(.int (0 : Int32)), (.ref b2)])) rfl rfl (hb hby at_68)
  have pre38 : ∀ t, Steps p.tables e below (T29.setTop (mkF m 69 #[.val (.int x0), .val (.int x1), .val (.int x2), .val (.int x3), .val (.int x4), .val (.int x5), .val (.ref b2), .val (.int v20), .val (.int v22), .val (.ref b24), .unset] [(.int (nar .byte (x0.toInt8.toInt32)))])) t → Steps p.tables e below (s₁.setTop (entryFrame m #[(.int x0), (.int x1), (.int x2), (.int x3), (.int x4), (.int x5)] maxLocals)) t := fun t k => pre36 t (st37 _ k)
  have pre39 : ∀ t, Steps p.tables e below (T29.setTop (mkF m 74 #[.val (.int x0), .val (.int x1), .val (.int x2), .val (.int x3), .val (.int x4), .val (.int x5), .val (.ref b2), .val (.int v20), .val (.int v22), .val (.ref b24), .unset] [(.int v22), (.int v20), (.int (0 : Int32)), (.int (nar .byte (x0.toInt8.toInt32)))])) t → Steps p.tables e below (s₁.setTop (entryFrame m #[(.int x0), (.int x1), (.int x2), (.int x3), (.int x4), (.int x5)] maxLocals)) t := fun t k => pre38 t (by
    show Steps p.tables e below (T29.setTop (mkF m 69 #[.val (.int x0), .val (.int x1), .val (.int x2), .val (.int x3), .val (.int x4), .val (.int x5), .val (.ref b2), .val (.int v20), .val (.int v22), .val (.ref b24), .unset] [(.int (nar .byte (x0.toInt8.toInt32)))])) _
    refine XS.iconst X29.here hx rfl (hb hby at_69) ?_
    show Steps p.tables e below (T29.setTop (mkF m 70 #[.val (.int x0), .val (.int x1), .val (.int x2), .val (.int x3), .val (.int x4), .val (.int x5), .val (.ref b2), .val (.int v20), .val (.int v22), .val (.ref b24), .unset] [(.int (0 : Int32)), (.int (nar .byte (x0.toInt8.toInt32)))])) _
    refine XS.iload X29.here hx rfl (hb hby at_70) rfl ?_
    show Steps p.tables e below (T29.setTop (mkF m 72 #[.val (.int x0), .val (.int x1), .val (.int x2), .val (.int x3), .val (.int x4), .val (.int x5), .val (.ref b2), .val (.int v20), .val (.int v22), .val (.ref b24), .unset] [(.int v20), (.int (0 : Int32)), (.int (nar .byte (x0.toInt8.toInt32)))])) _
    refine XS.iload X29.here hx rfl (hb hby at_72) rfl ?_
    show Steps p.tables e below (T29.setTop (mkF m 74 #[.val (.int x0), .val (.int x1), .val (.int x2), .val (.int x3), .val (.int x4), .val (.int x5), .val (.ref b2), .val (.int v20), .val (.int v22), .val (.ref b24), .unset] [(.int v22), (.int v20), (.int (0 : Int32)), (.int (nar .byte (x0.toInt8.toInt32)))])) _
    exact k)
  obtain ⟨_, _, ⟨T41, L41, k41, n41⟩, -, X41, ⟨Lc41, hQ41, l41, y41, z41⟩, st41⟩ := Jvm.LawKit.callS X29 hx (y := (⟨"com/example/incipit/incipit/DataBytesIsAsciiPinLaw", "bad", "(BIII)Z"⟩ : MethodName)) hown (mvT hZ (hw _ (List.mem_of_getElem? (i := 17) rfl))) (mvT hZ (hw _ (List.mem_of_getElem? (i := 18) rfl))) (mvT hZ (hw _ (List.mem_of_getElem? (i := 19) rfl))) (mvT hZ (hw _ (List.mem_of_getElem? (i := 20) rfl))) (by decide) (backOf (W := 0) (rm3 l Z a0 hw [] (nar .byte (x0.toInt8.toInt32)) (0 : Int32) v20 v22  T29.heap n0 Zz29 ) hZ (hw _ (List.mem_of_getElem? (i := 20) rfl)) (hw _ (List.mem_of_getElem? (i := 19) rfl)) (by decide) (by decide)) (g := (mkF m 74 #[.val (.int x0), .val (.int x1), .val (.int x2), .val (.int x3), .val (.int x4), .val (.int x5), .val (.ref b2), .val (.int v20), .val (.int v22), .val (.ref b24), .unset] [(.int v22), (.int v20), (.int (0 : Int32)), (.int (nar .byte (x0.toInt8.toInt32)))])) rfl (by rw [hml]; rfl) (argsL := [(.int (nar .byte (x0.toInt8.toInt32))), (.int (0 : Int32)), (.int v20), (.int v22)]) (rest := []) (lenOf pd_1 rfl) rfl (by show 2 * 0 + _ ≤ _; exact Nat.le_of_eq rfl) (hb hby at_74) (fun _ _ => ⟨rfl, rfl, (by decide : 2 + 0 ≤ _), (by decide : 7 + 0 ≤ _)⟩)
  dsimp only [Pt.U, Pt.locs, Pt.cells, Pt.slots] at X41 l41 y41 z41 st41 hQ41
  subst l41 y41 z41
  obtain ⟨r41, rfl, N41q, e41, P41⟩ := hQ41
  have N41 := Fr.app N29 N41q
  have pre42 : ∀ t, Steps p.tables e below (T41.setTop (mkF m 77 #[.val (.int x0), .val (.int x1), .val (.int x2), .val (.int x3), .val (.int x4), .val (.int x5), .val (.ref b2), .val (.int v20), .val (.int v22), .val (.ref b24), .unset] [(.int r41)])) t → Steps p.tables e below (s₁.setTop (entryFrame m #[(.int x0), (.int x1), (.int x2), (.int x3), (.int x4), (.int x5)] maxLocals)) t := fun t k => pre39 t (st41 _ k)
  obtain ⟨v80, hv80⟩ : ∃ z : Int32, z = (if r41 = (0 : Int32) then (if F3 (nar .byte (x1.toInt8.toInt32)) (1 : Int32) v20 v22 = (0 : Int32) then (if F3 (nar .byte (x2.toInt8.toInt32)) (2 : Int32) v20 v22 = (0 : Int32) then (if F3 (nar .byte (x3.toInt8.toInt32)) (3 : Int32) v20 v22 = (0 : Int32) then (1 : Int32) else (0 : Int32)) else (0 : Int32)) else (0 : Int32)) else (0 : Int32)) := ⟨_, rfl⟩
  obtain ⟨T79, L79, X79, N79, Zz79, eh79, pre81⟩ : ∃ (T79 : State) (L79 : List Loc), Stand p l e room_1 s m #[(.int x0), (.int x1), (.int x2), (.int x3), (.int x4), (.int x5)] below meth c T79 L79 2 7 ∧ Fr n0 L79 ∧ n0 ≤ T79.heap.size ∧ (T79.heap = T29.heap) ∧ ∀ t, Steps p.tables e below (T79.setTop (mkF m 130 #[.val (.int x0), .val (.int x1), .val (.int x2), .val (.int x3), .val (.int x4), .val (.int x5), .val (.ref b2), .val (.int v20), .val (.int v22), .val (.ref b24), .unset] [(.int v80)])) t → Steps p.tables e below (s₁.setTop (entryFrame m #[(.int x0), (.int x1), (.int x2), (.int x3), (.int x4), (.int x5)] maxLocals)) t := by
    by_cases hc43 : r41 = (0 : Int32)
    · skip
      have pre44 : ∀ t, Steps p.tables e below (T41.setTop (mkF m 83 #[.val (.int x0), .val (.int x1), .val (.int x2), .val (.int x3), .val (.int x4), .val (.int x5), .val (.ref b2), .val (.int v20), .val (.int v22), .val (.ref b24), .unset] [(.int (1 : Int32)), (.ref b2)])) t → Steps p.tables e below (s₁.setTop (entryFrame m #[(.int x0), (.int x1), (.int x2), (.int x3), (.int x4), (.int x5)] maxLocals)) t := fun t k => pre42 t (by
        show Steps p.tables e below (T41.setTop (mkF m 77 #[.val (.int x0), .val (.int x1), .val (.int x2), .val (.int x3), .val (.int x4), .val (.int x5), .val (.ref b2), .val (.int v20), .val (.int v22), .val (.ref b24), .unset] [(.int r41)])) _
        refine XS.ifNo X41.here hx rfl (hb hby at_77) rfl ((if0 _ _).trans (teq hc43).2) ?_
        show Steps p.tables e below (T41.setTop (mkF m 80 #[.val (.int x0), .val (.int x1), .val (.int x2), .val (.int x3), .val (.int x4), .val (.int x5), .val (.ref b2), .val (.int v20), .val (.int v22), .val (.ref b24), .unset] [])) _
        refine XS.aload X41.here hx rfl (hb hby at_80) rfl rfl ?_
        show Steps p.tables e below (T41.setTop (mkF m 82 #[.val (.int x0), .val (.int x1), .val (.int x2), .val (.int x3), .val (.int x4), .val (.int x5), .val (.ref b2), .val (.int v20), .val (.int v22), .val (.ref b24), .unset] [(.ref b2)])) _
        refine XS.iconst X41.here hx rfl (hb hby at_82) ?_
        show Steps p.tables e below (T41.setTop (mkF m 83 #[.val (.int x0), .val (.int x1), .val (.int x2), .val (.int x3), .val (.int x4), .val (.int x5), .val (.ref b2), .val (.int v20), .val (.int v22), .val (.ref b24), .unset] [(.int (1 : Int32)), (.ref b2)])) _
        exact k)
      obtain ⟨cl45, Ar45, q45, S45, M45, H45, G45⟩ := id c31
      have hin45 : ¬ ((1 : Int32) < 0 ∨ cl45.slots.size ≤ ((1 : Int32)).toNatClampNeg) := inb_of S45 ⟨by decide, by decide⟩
      have hat45 : cl45.slots[((1 : Int32)).toNatClampNeg]? = some (.int (nar .byte (x1.toInt8.toInt32))) := H45.at hin45 rfl
      have st45 := X41.baloadBytes hx (j := (1 : Int32)) (v := (.int (nar .byte (x1.toInt8.toInt32)))) (by rw [e41]; exact Ar45.1) (State.isArrayOf_alike hZ.alike Ar45.2.1) Ar45.2.2 hin45 hat45 (g := (mkF m 83 #[.val (.int x0), .val (.int x1), .val (.int x2), .val (.int x3), .val (.int x4), .val (.int x5), .val (.ref b2), .val (.int v20), .val (.int v22), .val (.ref b24), .unset] [(.int (1 : Int32)), (.ref b2)])) rfl rfl (hb hby at_83)
      have pre46 : ∀ t, Steps p.tables e below (T41.setTop (mkF m 84 #[.val (.int x0), .val (.int x1), .val (.int x2), .val (.int x3), .val (.int x4), .val (.int x5), .val (.ref b2), .val (.int v20), .val (.int v22), .val (.ref b24), .unset] [(.int (nar .byte (x1.toInt8.toInt32)))])) t → Steps p.tables e below (s₁.setTop (entryFrame m #[(.int x0), (.int x1), (.int x2), (.int x3), (.int x4), (.int x5)] maxLocals)) t := fun t k => pre44 t (st45 _ k)
      have pre47 : ∀ t, Steps p.tables e below (T41.setTop (mkF m 89 #[.val (.int x0), .val (.int x1), .val (.int x2), .val (.int x3), .val (.int x4), .val (.int x5), .val (.ref b2), .val (.int v20), .val (.int v22), .val (.ref b24), .unset] [(.int v22), (.int v20), (.int (1 : Int32)), (.int (nar .byte (x1.toInt8.toInt32)))])) t → Steps p.tables e below (s₁.setTop (entryFrame m #[(.int x0), (.int x1), (.int x2), (.int x3), (.int x4), (.int x5)] maxLocals)) t := fun t k => pre46 t (by
        show Steps p.tables e below (T41.setTop (mkF m 84 #[.val (.int x0), .val (.int x1), .val (.int x2), .val (.int x3), .val (.int x4), .val (.int x5), .val (.ref b2), .val (.int v20), .val (.int v22), .val (.ref b24), .unset] [(.int (nar .byte (x1.toInt8.toInt32)))])) _
        refine XS.iconst X41.here hx rfl (hb hby at_84) ?_
        show Steps p.tables e below (T41.setTop (mkF m 85 #[.val (.int x0), .val (.int x1), .val (.int x2), .val (.int x3), .val (.int x4), .val (.int x5), .val (.ref b2), .val (.int v20), .val (.int v22), .val (.ref b24), .unset] [(.int (1 : Int32)), (.int (nar .byte (x1.toInt8.toInt32)))])) _
        refine XS.iload X41.here hx rfl (hb hby at_85) rfl ?_
        show Steps p.tables e below (T41.setTop (mkF m 87 #[.val (.int x0), .val (.int x1), .val (.int x2), .val (.int x3), .val (.int x4), .val (.int x5), .val (.ref b2), .val (.int v20), .val (.int v22), .val (.ref b24), .unset] [(.int v20), (.int (1 : Int32)), (.int (nar .byte (x1.toInt8.toInt32)))])) _
        refine XS.iload X41.here hx rfl (hb hby at_87) rfl ?_
        show Steps p.tables e below (T41.setTop (mkF m 89 #[.val (.int x0), .val (.int x1), .val (.int x2), .val (.int x3), .val (.int x4), .val (.int x5), .val (.ref b2), .val (.int v20), .val (.int v22), .val (.ref b24), .unset] [(.int v22), (.int v20), (.int (1 : Int32)), (.int (nar .byte (x1.toInt8.toInt32)))])) _
        exact k)
      obtain ⟨_, _, ⟨T49, L49, k49, n49⟩, -, X49, ⟨Lc49, hQ49, l49, y49, z49⟩, st49⟩ := Jvm.LawKit.callS X41 hx (y := (⟨"com/example/incipit/incipit/DataBytesIsAsciiPinLaw", "bad", "(BIII)Z"⟩ : MethodName)) hown (mvT hZ (hw _ (List.mem_of_getElem? (i := 17) rfl))) (mvT hZ (hw _ (List.mem_of_getElem? (i := 18) rfl))) (mvT hZ (hw _ (List.mem_of_getElem? (i := 19) rfl))) (mvT hZ (hw _ (List.mem_of_getElem? (i := 20) rfl))) (by decide) (backOf (W := 0) (rm3 l Z a0 hw [] (nar .byte (x1.toInt8.toInt32)) (1 : Int32) v20 v22  T29.heap n0 Zz29 ) hZ (hw _ (List.mem_of_getElem? (i := 20) rfl)) (hw _ (List.mem_of_getElem? (i := 19) rfl)) (by decide) (by decide)) (g := (mkF m 89 #[.val (.int x0), .val (.int x1), .val (.int x2), .val (.int x3), .val (.int x4), .val (.int x5), .val (.ref b2), .val (.int v20), .val (.int v22), .val (.ref b24), .unset] [(.int v22), (.int v20), (.int (1 : Int32)), (.int (nar .byte (x1.toInt8.toInt32)))])) rfl (by rw [hml]; rfl) (argsL := [(.int (nar .byte (x1.toInt8.toInt32))), (.int (1 : Int32)), (.int v20), (.int v22)]) (rest := []) (lenOf pd_1 rfl) rfl (by show 2 * 0 + _ ≤ _; exact Nat.le_of_eq rfl) (hb hby at_89) (fun _ _ => ⟨rfl, e41, (by decide : 2 + 0 ≤ _), (by decide : 7 + 0 ≤ _)⟩)
      dsimp only [Pt.U, Pt.locs, Pt.cells, Pt.slots] at X49 l49 y49 z49 st49 hQ49
      subst l49 y49 z49
      obtain ⟨r49, rfl, N49q, e49, P49⟩ := hQ49
      have N49 := Fr.app N41 N49q
      have pre50 : ∀ t, Steps p.tables e below (T49.setTop (mkF m 92 #[.val (.int x0), .val (.int x1), .val (.int x2), .val (.int x3), .val (.int x4), .val (.int x5), .val (.ref b2), .val (.int v20), .val (.int v22), .val (.ref b24), .unset] [(.int r49)])) t → Steps p.tables e below (s₁.setTop (entryFrame m #[(.int x0), (.int x1), (.int x2), (.int x3), (.int x4), (.int x5)] maxLocals)) t := fun t k => pre47 t (st49 _ k)
      obtain ⟨v76, hv76⟩ : ∃ z : Int32, z = (if r49 = (0 : Int32) then (if F3 (nar .byte (x2.toInt8.toInt32)) (2 : Int32) v20 v22 = (0 : Int32) then (if F3 (nar .byte (x3.toInt8.toInt32)) (3 : Int32) v20 v22 = (0 : Int32) then (1 : Int32) else (0 : Int32)) else (0 : Int32)) else (0 : Int32)) := ⟨_, rfl⟩
      obtain ⟨T75, L75, X75, N75, Zz75, eh75, pre77⟩ : ∃ (T75 : State) (L75 : List Loc), Stand p l e room_1 s m #[(.int x0), (.int x1), (.int x2), (.int x3), (.int x4), (.int x5)] below meth c T75 L75 2 7 ∧ Fr n0 L75 ∧ n0 ≤ T75.heap.size ∧ (T75.heap = T29.heap) ∧ ∀ t, Steps p.tables e below (T75.setTop (mkF m 130 #[.val (.int x0), .val (.int x1), .val (.int x2), .val (.int x3), .val (.int x4), .val (.int x5), .val (.ref b2), .val (.int v20), .val (.int v22), .val (.ref b24), .unset] [(.int v76)])) t → Steps p.tables e below (s₁.setTop (entryFrame m #[(.int x0), (.int x1), (.int x2), (.int x3), (.int x4), (.int x5)] maxLocals)) t := by
        by_cases hc51 : r49 = (0 : Int32)
        · skip
          have pre52 : ∀ t, Steps p.tables e below (T49.setTop (mkF m 98 #[.val (.int x0), .val (.int x1), .val (.int x2), .val (.int x3), .val (.int x4), .val (.int x5), .val (.ref b2), .val (.int v20), .val (.int v22), .val (.ref b24), .unset] [(.int (2 : Int32)), (.ref b2)])) t → Steps p.tables e below (s₁.setTop (entryFrame m #[(.int x0), (.int x1), (.int x2), (.int x3), (.int x4), (.int x5)] maxLocals)) t := fun t k => pre50 t (by
            show Steps p.tables e below (T49.setTop (mkF m 92 #[.val (.int x0), .val (.int x1), .val (.int x2), .val (.int x3), .val (.int x4), .val (.int x5), .val (.ref b2), .val (.int v20), .val (.int v22), .val (.ref b24), .unset] [(.int r49)])) _
            refine XS.ifNo X49.here hx rfl (hb hby at_92) rfl ((if0 _ _).trans (teq hc51).2) ?_
            show Steps p.tables e below (T49.setTop (mkF m 95 #[.val (.int x0), .val (.int x1), .val (.int x2), .val (.int x3), .val (.int x4), .val (.int x5), .val (.ref b2), .val (.int v20), .val (.int v22), .val (.ref b24), .unset] [])) _
            refine XS.aload X49.here hx rfl (hb hby at_95) rfl rfl ?_
            show Steps p.tables e below (T49.setTop (mkF m 97 #[.val (.int x0), .val (.int x1), .val (.int x2), .val (.int x3), .val (.int x4), .val (.int x5), .val (.ref b2), .val (.int v20), .val (.int v22), .val (.ref b24), .unset] [(.ref b2)])) _
            refine XS.iconst X49.here hx rfl (hb hby at_97) ?_
            show Steps p.tables e below (T49.setTop (mkF m 98 #[.val (.int x0), .val (.int x1), .val (.int x2), .val (.int x3), .val (.int x4), .val (.int x5), .val (.ref b2), .val (.int v20), .val (.int v22), .val (.ref b24), .unset] [(.int (2 : Int32)), (.ref b2)])) _
            exact k)
          obtain ⟨cl53, Ar53, q53, S53, M53, H53, G53⟩ := id c31
          have hin53 : ¬ ((2 : Int32) < 0 ∨ cl53.slots.size ≤ ((2 : Int32)).toNatClampNeg) := inb_of S53 ⟨by decide, by decide⟩
          have hat53 : cl53.slots[((2 : Int32)).toNatClampNeg]? = some (.int (nar .byte (x2.toInt8.toInt32))) := H53.at hin53 rfl
          have st53 := X49.baloadBytes hx (j := (2 : Int32)) (v := (.int (nar .byte (x2.toInt8.toInt32)))) (by rw [e49]; exact Ar53.1) (State.isArrayOf_alike hZ.alike Ar53.2.1) Ar53.2.2 hin53 hat53 (g := (mkF m 98 #[.val (.int x0), .val (.int x1), .val (.int x2), .val (.int x3), .val (.int x4), .val (.int x5), .val (.ref b2), .val (.int v20), .val (.int v22), .val (.ref b24), .unset] [(.int (2 : Int32)), (.ref b2)])) rfl rfl (hb hby at_98)
          have pre54 : ∀ t, Steps p.tables e below (T49.setTop (mkF m 99 #[.val (.int x0), .val (.int x1), .val (.int x2), .val (.int x3), .val (.int x4), .val (.int x5), .val (.ref b2), .val (.int v20), .val (.int v22), .val (.ref b24), .unset] [(.int (nar .byte (x2.toInt8.toInt32)))])) t → Steps p.tables e below (s₁.setTop (entryFrame m #[(.int x0), (.int x1), (.int x2), (.int x3), (.int x4), (.int x5)] maxLocals)) t := fun t k => pre52 t (st53 _ k)
          have pre55 : ∀ t, Steps p.tables e below (T49.setTop (mkF m 104 #[.val (.int x0), .val (.int x1), .val (.int x2), .val (.int x3), .val (.int x4), .val (.int x5), .val (.ref b2), .val (.int v20), .val (.int v22), .val (.ref b24), .unset] [(.int v22), (.int v20), (.int (2 : Int32)), (.int (nar .byte (x2.toInt8.toInt32)))])) t → Steps p.tables e below (s₁.setTop (entryFrame m #[(.int x0), (.int x1), (.int x2), (.int x3), (.int x4), (.int x5)] maxLocals)) t := fun t k => pre54 t (by
            show Steps p.tables e below (T49.setTop (mkF m 99 #[.val (.int x0), .val (.int x1), .val (.int x2), .val (.int x3), .val (.int x4), .val (.int x5), .val (.ref b2), .val (.int v20), .val (.int v22), .val (.ref b24), .unset] [(.int (nar .byte (x2.toInt8.toInt32)))])) _
            refine XS.iconst X49.here hx rfl (hb hby at_99) ?_
            show Steps p.tables e below (T49.setTop (mkF m 100 #[.val (.int x0), .val (.int x1), .val (.int x2), .val (.int x3), .val (.int x4), .val (.int x5), .val (.ref b2), .val (.int v20), .val (.int v22), .val (.ref b24), .unset] [(.int (2 : Int32)), (.int (nar .byte (x2.toInt8.toInt32)))])) _
            refine XS.iload X49.here hx rfl (hb hby at_100) rfl ?_
            show Steps p.tables e below (T49.setTop (mkF m 102 #[.val (.int x0), .val (.int x1), .val (.int x2), .val (.int x3), .val (.int x4), .val (.int x5), .val (.ref b2), .val (.int v20), .val (.int v22), .val (.ref b24), .unset] [(.int v20), (.int (2 : Int32)), (.int (nar .byte (x2.toInt8.toInt32)))])) _
            refine XS.iload X49.here hx rfl (hb hby at_102) rfl ?_
            show Steps p.tables e below (T49.setTop (mkF m 104 #[.val (.int x0), .val (.int x1), .val (.int x2), .val (.int x3), .val (.int x4), .val (.int x5), .val (.ref b2), .val (.int v20), .val (.int v22), .val (.ref b24), .unset] [(.int v22), (.int v20), (.int (2 : Int32)), (.int (nar .byte (x2.toInt8.toInt32)))])) _
            exact k)
          obtain ⟨_, _, ⟨T57, L57, k57, n57⟩, -, X57, ⟨Lc57, hQ57, l57, y57, z57⟩, st57⟩ := Jvm.LawKit.callS X49 hx (y := (⟨"com/example/incipit/incipit/DataBytesIsAsciiPinLaw", "bad", "(BIII)Z"⟩ : MethodName)) hown (mvT hZ (hw _ (List.mem_of_getElem? (i := 17) rfl))) (mvT hZ (hw _ (List.mem_of_getElem? (i := 18) rfl))) (mvT hZ (hw _ (List.mem_of_getElem? (i := 19) rfl))) (mvT hZ (hw _ (List.mem_of_getElem? (i := 20) rfl))) (by decide) (backOf (W := 0) (rm3 l Z a0 hw [] (nar .byte (x2.toInt8.toInt32)) (2 : Int32) v20 v22  T29.heap n0 Zz29 ) hZ (hw _ (List.mem_of_getElem? (i := 20) rfl)) (hw _ (List.mem_of_getElem? (i := 19) rfl)) (by decide) (by decide)) (g := (mkF m 104 #[.val (.int x0), .val (.int x1), .val (.int x2), .val (.int x3), .val (.int x4), .val (.int x5), .val (.ref b2), .val (.int v20), .val (.int v22), .val (.ref b24), .unset] [(.int v22), (.int v20), (.int (2 : Int32)), (.int (nar .byte (x2.toInt8.toInt32)))])) rfl (by rw [hml]; rfl) (argsL := [(.int (nar .byte (x2.toInt8.toInt32))), (.int (2 : Int32)), (.int v20), (.int v22)]) (rest := []) (lenOf pd_1 rfl) rfl (by show 2 * 0 + _ ≤ _; exact Nat.le_of_eq rfl) (hb hby at_104) (fun _ _ => ⟨rfl, e49, (by decide : 2 + 0 ≤ _), (by decide : 7 + 0 ≤ _)⟩)
          dsimp only [Pt.U, Pt.locs, Pt.cells, Pt.slots] at X57 l57 y57 z57 st57 hQ57
          subst l57 y57 z57
          obtain ⟨r57, rfl, N57q, e57, P57⟩ := hQ57
          have N57 := Fr.app N49 N57q
          have pre58 : ∀ t, Steps p.tables e below (T57.setTop (mkF m 107 #[.val (.int x0), .val (.int x1), .val (.int x2), .val (.int x3), .val (.int x4), .val (.int x5), .val (.ref b2), .val (.int v20), .val (.int v22), .val (.ref b24), .unset] [(.int r57)])) t → Steps p.tables e below (s₁.setTop (entryFrame m #[(.int x0), (.int x1), (.int x2), (.int x3), (.int x4), (.int x5)] maxLocals)) t := fun t k => pre55 t (st57 _ k)
          obtain ⟨v72, hv72⟩ : ∃ z : Int32, z = (if r57 = (0 : Int32) then (if F3 (nar .byte (x3.toInt8.toInt32)) (3 : Int32) v20 v22 = (0 : Int32) then (1 : Int32) else (0 : Int32)) else (0 : Int32)) := ⟨_, rfl⟩
          obtain ⟨T71, L71, X71, N71, Zz71, eh71, pre73⟩ : ∃ (T71 : State) (L71 : List Loc), Stand p l e room_1 s m #[(.int x0), (.int x1), (.int x2), (.int x3), (.int x4), (.int x5)] below meth c T71 L71 2 7 ∧ Fr n0 L71 ∧ n0 ≤ T71.heap.size ∧ (T71.heap = T29.heap) ∧ ∀ t, Steps p.tables e below (T71.setTop (mkF m 130 #[.val (.int x0), .val (.int x1), .val (.int x2), .val (.int x3), .val (.int x4), .val (.int x5), .val (.ref b2), .val (.int v20), .val (.int v22), .val (.ref b24), .unset] [(.int v72)])) t → Steps p.tables e below (s₁.setTop (entryFrame m #[(.int x0), (.int x1), (.int x2), (.int x3), (.int x4), (.int x5)] maxLocals)) t := by
            by_cases hc59 : r57 = (0 : Int32)
            · skip
              have pre60 : ∀ t, Steps p.tables e below (T57.setTop (mkF m 113 #[.val (.int x0), .val (.int x1), .val (.int x2), .val (.int x3), .val (.int x4), .val (.int x5), .val (.ref b2), .val (.int v20), .val (.int v22), .val (.ref b24), .unset] [(.int (3 : Int32)), (.ref b2)])) t → Steps p.tables e below (s₁.setTop (entryFrame m #[(.int x0), (.int x1), (.int x2), (.int x3), (.int x4), (.int x5)] maxLocals)) t := fun t k => pre58 t (by
                show Steps p.tables e below (T57.setTop (mkF m 107 #[.val (.int x0), .val (.int x1), .val (.int x2), .val (.int x3), .val (.int x4), .val (.int x5), .val (.ref b2), .val (.int v20), .val (.int v22), .val (.ref b24), .unset] [(.int r57)])) _
                refine XS.ifNo X57.here hx rfl (hb hby at_107) rfl ((if0 _ _).trans (teq hc59).2) ?_
                show Steps p.tables e below (T57.setTop (mkF m 110 #[.val (.int x0), .val (.int x1), .val (.int x2), .val (.int x3), .val (.int x4), .val (.int x5), .val (.ref b2), .val (.int v20), .val (.int v22), .val (.ref b24), .unset] [])) _
                refine XS.aload X57.here hx rfl (hb hby at_110) rfl rfl ?_
                show Steps p.tables e below (T57.setTop (mkF m 112 #[.val (.int x0), .val (.int x1), .val (.int x2), .val (.int x3), .val (.int x4), .val (.int x5), .val (.ref b2), .val (.int v20), .val (.int v22), .val (.ref b24), .unset] [(.ref b2)])) _
                refine XS.iconst X57.here hx rfl (hb hby at_112) ?_
                show Steps p.tables e below (T57.setTop (mkF m 113 #[.val (.int x0), .val (.int x1), .val (.int x2), .val (.int x3), .val (.int x4), .val (.int x5), .val (.ref b2), .val (.int v20), .val (.int v22), .val (.ref b24), .unset] [(.int (3 : Int32)), (.ref b2)])) _
                exact k)
              obtain ⟨cl61, Ar61, q61, S61, M61, H61, G61⟩ := id c31
              have hin61 : ¬ ((3 : Int32) < 0 ∨ cl61.slots.size ≤ ((3 : Int32)).toNatClampNeg) := inb_of S61 ⟨by decide, by decide⟩
              have hat61 : cl61.slots[((3 : Int32)).toNatClampNeg]? = some (.int (nar .byte (x3.toInt8.toInt32))) := H61.at hin61 rfl
              have st61 := X57.baloadBytes hx (j := (3 : Int32)) (v := (.int (nar .byte (x3.toInt8.toInt32)))) (by rw [e57]; exact Ar61.1) (State.isArrayOf_alike hZ.alike Ar61.2.1) Ar61.2.2 hin61 hat61 (g := (mkF m 113 #[.val (.int x0), .val (.int x1), .val (.int x2), .val (.int x3), .val (.int x4), .val (.int x5), .val (.ref b2), .val (.int v20), .val (.int v22), .val (.ref b24), .unset] [(.int (3 : Int32)), (.ref b2)])) rfl rfl (hb hby at_113)
              have pre62 : ∀ t, Steps p.tables e below (T57.setTop (mkF m 114 #[.val (.int x0), .val (.int x1), .val (.int x2), .val (.int x3), .val (.int x4), .val (.int x5), .val (.ref b2), .val (.int v20), .val (.int v22), .val (.ref b24), .unset] [(.int (nar .byte (x3.toInt8.toInt32)))])) t → Steps p.tables e below (s₁.setTop (entryFrame m #[(.int x0), (.int x1), (.int x2), (.int x3), (.int x4), (.int x5)] maxLocals)) t := fun t k => pre60 t (st61 _ k)
              have pre63 : ∀ t, Steps p.tables e below (T57.setTop (mkF m 119 #[.val (.int x0), .val (.int x1), .val (.int x2), .val (.int x3), .val (.int x4), .val (.int x5), .val (.ref b2), .val (.int v20), .val (.int v22), .val (.ref b24), .unset] [(.int v22), (.int v20), (.int (3 : Int32)), (.int (nar .byte (x3.toInt8.toInt32)))])) t → Steps p.tables e below (s₁.setTop (entryFrame m #[(.int x0), (.int x1), (.int x2), (.int x3), (.int x4), (.int x5)] maxLocals)) t := fun t k => pre62 t (by
                show Steps p.tables e below (T57.setTop (mkF m 114 #[.val (.int x0), .val (.int x1), .val (.int x2), .val (.int x3), .val (.int x4), .val (.int x5), .val (.ref b2), .val (.int v20), .val (.int v22), .val (.ref b24), .unset] [(.int (nar .byte (x3.toInt8.toInt32)))])) _
                refine XS.iconst X57.here hx rfl (hb hby at_114) ?_
                show Steps p.tables e below (T57.setTop (mkF m 115 #[.val (.int x0), .val (.int x1), .val (.int x2), .val (.int x3), .val (.int x4), .val (.int x5), .val (.ref b2), .val (.int v20), .val (.int v22), .val (.ref b24), .unset] [(.int (3 : Int32)), (.int (nar .byte (x3.toInt8.toInt32)))])) _
                refine XS.iload X57.here hx rfl (hb hby at_115) rfl ?_
                show Steps p.tables e below (T57.setTop (mkF m 117 #[.val (.int x0), .val (.int x1), .val (.int x2), .val (.int x3), .val (.int x4), .val (.int x5), .val (.ref b2), .val (.int v20), .val (.int v22), .val (.ref b24), .unset] [(.int v20), (.int (3 : Int32)), (.int (nar .byte (x3.toInt8.toInt32)))])) _
                refine XS.iload X57.here hx rfl (hb hby at_117) rfl ?_
                show Steps p.tables e below (T57.setTop (mkF m 119 #[.val (.int x0), .val (.int x1), .val (.int x2), .val (.int x3), .val (.int x4), .val (.int x5), .val (.ref b2), .val (.int v20), .val (.int v22), .val (.ref b24), .unset] [(.int v22), (.int v20), (.int (3 : Int32)), (.int (nar .byte (x3.toInt8.toInt32)))])) _
                exact k)
              obtain ⟨_, _, ⟨T65, L65, k65, n65⟩, -, X65, ⟨Lc65, hQ65, l65, y65, z65⟩, st65⟩ := Jvm.LawKit.callS X57 hx (y := (⟨"com/example/incipit/incipit/DataBytesIsAsciiPinLaw", "bad", "(BIII)Z"⟩ : MethodName)) hown (mvT hZ (hw _ (List.mem_of_getElem? (i := 17) rfl))) (mvT hZ (hw _ (List.mem_of_getElem? (i := 18) rfl))) (mvT hZ (hw _ (List.mem_of_getElem? (i := 19) rfl))) (mvT hZ (hw _ (List.mem_of_getElem? (i := 20) rfl))) (by decide) (backOf (W := 0) (rm3 l Z a0 hw [] (nar .byte (x3.toInt8.toInt32)) (3 : Int32) v20 v22  T29.heap n0 Zz29 ) hZ (hw _ (List.mem_of_getElem? (i := 20) rfl)) (hw _ (List.mem_of_getElem? (i := 19) rfl)) (by decide) (by decide)) (g := (mkF m 119 #[.val (.int x0), .val (.int x1), .val (.int x2), .val (.int x3), .val (.int x4), .val (.int x5), .val (.ref b2), .val (.int v20), .val (.int v22), .val (.ref b24), .unset] [(.int v22), (.int v20), (.int (3 : Int32)), (.int (nar .byte (x3.toInt8.toInt32)))])) rfl (by rw [hml]; rfl) (argsL := [(.int (nar .byte (x3.toInt8.toInt32))), (.int (3 : Int32)), (.int v20), (.int v22)]) (rest := []) (lenOf pd_1 rfl) rfl (by show 2 * 0 + _ ≤ _; exact Nat.le_of_eq rfl) (hb hby at_119) (fun _ _ => ⟨rfl, e57, (by decide : 2 + 0 ≤ _), (by decide : 7 + 0 ≤ _)⟩)
              dsimp only [Pt.U, Pt.locs, Pt.cells, Pt.slots] at X65 l65 y65 z65 st65 hQ65
              subst l65 y65 z65
              obtain ⟨r65, rfl, N65q, e65, P65⟩ := hQ65
              have N65 := Fr.app N57 N65q
              have pre66 : ∀ t, Steps p.tables e below (T65.setTop (mkF m 122 #[.val (.int x0), .val (.int x1), .val (.int x2), .val (.int x3), .val (.int x4), .val (.int x5), .val (.ref b2), .val (.int v20), .val (.int v22), .val (.ref b24), .unset] [(.int r65)])) t → Steps p.tables e below (s₁.setTop (entryFrame m #[(.int x0), (.int x1), (.int x2), (.int x3), (.int x4), (.int x5)] maxLocals)) t := fun t k => pre63 t (st65 _ k)
              obtain ⟨v68, hv68⟩ : ∃ z : Int32, z = (if r65 = (0 : Int32) then (1 : Int32) else (0 : Int32)) := ⟨_, rfl⟩
              have pre69 : ∀ t, Steps p.tables e below (T65.setTop (mkF m 130 #[.val (.int x0), .val (.int x1), .val (.int x2), .val (.int x3), .val (.int x4), .val (.int x5), .val (.ref b2), .val (.int v20), .val (.int v22), .val (.ref b24), .unset] [(.int v68)])) t → Steps p.tables e below (s₁.setTop (entryFrame m #[(.int x0), (.int x1), (.int x2), (.int x3), (.int x4), (.int x5)] maxLocals)) t := fun t k => pre66 t (by
                show Steps p.tables e below (T65.setTop (mkF m 122 #[.val (.int x0), .val (.int x1), .val (.int x2), .val (.int x3), .val (.int x4), .val (.int x5), .val (.ref b2), .val (.int v20), .val (.int v22), .val (.ref b24), .unset] [(.int r65)])) _
                by_cases hc67 : r65 = (0 : Int32)
                · skip
                  refine XS.ifNo X65.here hx rfl (hb hby at_122) rfl ((if0 _ _).trans (teq hc67).2) ?_
                  show Steps p.tables e below (T65.setTop (mkF m 125 #[.val (.int x0), .val (.int x1), .val (.int x2), .val (.int x3), .val (.int x4), .val (.int x5), .val (.ref b2), .val (.int v20), .val (.int v22), .val (.ref b24), .unset] [])) _
                  refine XS.iconst X65.here hx rfl (hb hby at_125) ?_
                  show Steps p.tables e below (T65.setTop (mkF m 126 #[.val (.int x0), .val (.int x1), .val (.int x2), .val (.int x3), .val (.int x4), .val (.int x5), .val (.ref b2), .val (.int v20), .val (.int v22), .val (.ref b24), .unset] [(.int (1 : Int32))])) _
                  refine XS.goto X65.here hx rfl (pc0 := 126) (pc' := 130) rfl (hb hby at_126) (by decide) (by decide) ?_
                  show Steps p.tables e below (T65.setTop (mkF m 130 #[.val (.int x0), .val (.int x1), .val (.int x2), .val (.int x3), .val (.int x4), .val (.int x5), .val (.ref b2), .val (.int v20), .val (.int v22), .val (.ref b24), .unset] [(.int (1 : Int32))])) _
                  rw [show v68 = (1 : Int32) from by rw [hv68, if_pos hc67]] at k
                  exact k
                · skip
                  refine XS.ifYes X65.here hx rfl (pc0 := 122) (pc' := 129) rfl (hb hby at_122) rfl ((if0 _ _).trans (feq hc67).2) (by decide) (by decide) ?_
                  show Steps p.tables e below (T65.setTop (mkF m 129 #[.val (.int x0), .val (.int x1), .val (.int x2), .val (.int x3), .val (.int x4), .val (.int x5), .val (.ref b2), .val (.int v20), .val (.int v22), .val (.ref b24), .unset] [])) _
                  refine XS.iconst X65.here hx rfl (hb hby at_129) ?_
                  show Steps p.tables e below (T65.setTop (mkF m 130 #[.val (.int x0), .val (.int x1), .val (.int x2), .val (.int x3), .val (.int x4), .val (.int x5), .val (.ref b2), .val (.int v20), .val (.int v22), .val (.ref b24), .unset] [(.int (0 : Int32))])) _
                  rw [show v68 = (0 : Int32) from by rw [hv68, if_neg hc67]] at k
                  exact k)
              rw [if_pos hc59] at hv72
              subst hv68
              subst P65
              subst hv72
              exact ⟨_, _, X65, N65, by rw [e65]; exact Zz29, e65, pre69⟩
            · skip
              have pre70 : ∀ t, Steps p.tables e below (T57.setTop (mkF m 130 #[.val (.int x0), .val (.int x1), .val (.int x2), .val (.int x3), .val (.int x4), .val (.int x5), .val (.ref b2), .val (.int v20), .val (.int v22), .val (.ref b24), .unset] [(.int (0 : Int32))])) t → Steps p.tables e below (s₁.setTop (entryFrame m #[(.int x0), (.int x1), (.int x2), (.int x3), (.int x4), (.int x5)] maxLocals)) t := fun t k => pre58 t (by
                show Steps p.tables e below (T57.setTop (mkF m 107 #[.val (.int x0), .val (.int x1), .val (.int x2), .val (.int x3), .val (.int x4), .val (.int x5), .val (.ref b2), .val (.int v20), .val (.int v22), .val (.ref b24), .unset] [(.int r57)])) _
                refine XS.ifYes X57.here hx rfl (pc0 := 107) (pc' := 129) rfl (hb hby at_107) rfl ((if0 _ _).trans (feq hc59).2) (by decide) (by decide) ?_
                show Steps p.tables e below (T57.setTop (mkF m 129 #[.val (.int x0), .val (.int x1), .val (.int x2), .val (.int x3), .val (.int x4), .val (.int x5), .val (.ref b2), .val (.int v20), .val (.int v22), .val (.ref b24), .unset] [])) _
                refine XS.iconst X57.here hx rfl (hb hby at_129) ?_
                show Steps p.tables e below (T57.setTop (mkF m 130 #[.val (.int x0), .val (.int x1), .val (.int x2), .val (.int x3), .val (.int x4), .val (.int x5), .val (.ref b2), .val (.int v20), .val (.int v22), .val (.ref b24), .unset] [(.int (0 : Int32))])) _
                exact k)
              rw [if_neg hc59] at hv72
              subst hv72
              exact ⟨_, _, X57, N57, by rw [e57]; exact Zz29, e57, pre70⟩
          rw [if_pos hc51] at hv76
          subst hv72
          subst P57
          subst hv76
          exact ⟨_, _, X71, N71, by rw [eh71]; exact Zz29, eh71, pre73⟩
        · skip
          have pre74 : ∀ t, Steps p.tables e below (T49.setTop (mkF m 130 #[.val (.int x0), .val (.int x1), .val (.int x2), .val (.int x3), .val (.int x4), .val (.int x5), .val (.ref b2), .val (.int v20), .val (.int v22), .val (.ref b24), .unset] [(.int (0 : Int32))])) t → Steps p.tables e below (s₁.setTop (entryFrame m #[(.int x0), (.int x1), (.int x2), (.int x3), (.int x4), (.int x5)] maxLocals)) t := fun t k => pre50 t (by
            show Steps p.tables e below (T49.setTop (mkF m 92 #[.val (.int x0), .val (.int x1), .val (.int x2), .val (.int x3), .val (.int x4), .val (.int x5), .val (.ref b2), .val (.int v20), .val (.int v22), .val (.ref b24), .unset] [(.int r49)])) _
            refine XS.ifYes X49.here hx rfl (pc0 := 92) (pc' := 129) rfl (hb hby at_92) rfl ((if0 _ _).trans (feq hc51).2) (by decide) (by decide) ?_
            show Steps p.tables e below (T49.setTop (mkF m 129 #[.val (.int x0), .val (.int x1), .val (.int x2), .val (.int x3), .val (.int x4), .val (.int x5), .val (.ref b2), .val (.int v20), .val (.int v22), .val (.ref b24), .unset] [])) _
            refine XS.iconst X49.here hx rfl (hb hby at_129) ?_
            show Steps p.tables e below (T49.setTop (mkF m 130 #[.val (.int x0), .val (.int x1), .val (.int x2), .val (.int x3), .val (.int x4), .val (.int x5), .val (.ref b2), .val (.int v20), .val (.int v22), .val (.ref b24), .unset] [(.int (0 : Int32))])) _
            exact k)
          rw [if_neg hc51] at hv76
          subst hv76
          exact ⟨_, _, X49, N49, by rw [e49]; exact Zz29, e49, pre74⟩
      rw [if_pos hc43] at hv80
      subst hv76
      subst P49
      subst hv80
      exact ⟨_, _, X75, N75, by rw [eh75]; exact Zz29, eh75, pre77⟩
    · skip
      have pre78 : ∀ t, Steps p.tables e below (T41.setTop (mkF m 130 #[.val (.int x0), .val (.int x1), .val (.int x2), .val (.int x3), .val (.int x4), .val (.int x5), .val (.ref b2), .val (.int v20), .val (.int v22), .val (.ref b24), .unset] [(.int (0 : Int32))])) t → Steps p.tables e below (s₁.setTop (entryFrame m #[(.int x0), (.int x1), (.int x2), (.int x3), (.int x4), (.int x5)] maxLocals)) t := fun t k => pre42 t (by
        show Steps p.tables e below (T41.setTop (mkF m 77 #[.val (.int x0), .val (.int x1), .val (.int x2), .val (.int x3), .val (.int x4), .val (.int x5), .val (.ref b2), .val (.int v20), .val (.int v22), .val (.ref b24), .unset] [(.int r41)])) _
        refine XS.ifYes X41.here hx rfl (pc0 := 77) (pc' := 129) rfl (hb hby at_77) rfl ((if0 _ _).trans (feq hc43).2) (by decide) (by decide) ?_
        show Steps p.tables e below (T41.setTop (mkF m 129 #[.val (.int x0), .val (.int x1), .val (.int x2), .val (.int x3), .val (.int x4), .val (.int x5), .val (.ref b2), .val (.int v20), .val (.int v22), .val (.ref b24), .unset] [])) _
        refine XS.iconst X41.here hx rfl (hb hby at_129) ?_
        show Steps p.tables e below (T41.setTop (mkF m 130 #[.val (.int x0), .val (.int x1), .val (.int x2), .val (.int x3), .val (.int x4), .val (.int x5), .val (.ref b2), .val (.int v20), .val (.int v22), .val (.ref b24), .unset] [(.int (0 : Int32))])) _
        exact k)
      rw [if_neg hc43] at hv80
      subst hv80
      exact ⟨_, _, X41, N41, by rw [e41]; exact Zz29, e41, pre78⟩
  have pre82 : ∀ t, Steps p.tables e below (T79.setTop (mkF m 134 #[.val (.int x0), .val (.int x1), .val (.int x2), .val (.int x3), .val (.int x4), .val (.int x5), .val (.ref b2), .val (.int v20), .val (.int v22), .val (.ref b24), .val (.int v80)] [(.ref b24)])) t → Steps p.tables e below (s₁.setTop (entryFrame m #[(.int x0), (.int x1), (.int x2), (.int x3), (.int x4), (.int x5)] maxLocals)) t := fun t k => pre81 t (by
    show Steps p.tables e below (T79.setTop (mkF m 130 #[.val (.int x0), .val (.int x1), .val (.int x2), .val (.int x3), .val (.int x4), .val (.int x5), .val (.ref b2), .val (.int v20), .val (.int v22), .val (.ref b24), .unset] [(.int v80)])) _
    refine XS.istore X79.here hx rfl (hb hby at_130) rfl (l' := #[.val (.int x0), .val (.int x1), .val (.int x2), .val (.int x3), .val (.int x4), .val (.int x5), .val (.ref b2), .val (.int v20), .val (.int v22), .val (.ref b24), .val (.int v80)]) rfl ?_
    show Steps p.tables e below (T79.setTop (mkF m 132 #[.val (.int x0), .val (.int x1), .val (.int x2), .val (.int x3), .val (.int x4), .val (.int x5), .val (.ref b2), .val (.int v20), .val (.int v22), .val (.ref b24), .val (.int v80)] [])) _
    refine XS.aload X79.here hx rfl (hb hby at_132) rfl rfl ?_
    show Steps p.tables e below (T79.setTop (mkF m 134 #[.val (.int x0), .val (.int x1), .val (.int x2), .val (.int x3), .val (.int x4), .val (.int x5), .val (.ref b2), .val (.int v20), .val (.int v22), .val (.ref b24), .val (.int v80)] [(.ref b24)])) _
    exact k)
  obtain ⟨cq84, kq84, q84a, q84b, q84c⟩ := isOf hZ eh79 Ec29
  obtain ⟨_, _, ⟨T84, L84, k84, n84⟩, -, X84, ⟨Lc84, hQ84, l84, y84, z84⟩, st84⟩ := X79.virtualBack hx (y := (⟨"com/example/incipit/incipit/DataBytes", "isAscii", "()Z"⟩ : MethodName)) (z := (⟨"com/example/incipit/incipit/DataBytes", "isAscii", "()Z"⟩ : MethodName)) hown (mvT hZ (hw _ (List.mem_of_getElem? (i := 21) rfl))) (mvT hZ (hw _ (List.mem_of_getElem? (i := 22) rfl))) (notFace_of_selects (args := #[]) (mvT hZ (hw _ (List.mem_of_getElem? (i := 24) rfl)))) (mvT hZ (hw _ (List.mem_of_getElem? (i := 24) rfl))) (mvT hZ (hw _ (List.mem_of_getElem? (i := 23) rfl))) (by decide) (backOf (W := 0) (rm4 l Z a0 hw [] b24 b2 k2 v20 v22 (nar .byte (x0.toInt8.toInt32)) (nar .byte (x1.toInt8.toInt32)) (nar .byte (x2.toInt8.toInt32)) (nar .byte (x3.toInt8.toInt32)) T29.heap n0 Zz29 Fc29_array Fc29_offset Fc29_length c31 (own_need0_85_0 x0 x1 x2 x3 x4 x5 v20 v22 r41 v80 hv20 hv22 P41 hv80)) hZ (hw _ (List.mem_of_getElem? (i := 25) rfl)) (hw _ (List.mem_of_getElem? (i := 4) rfl)) (by decide) (by decide)) q84a q84c (g := (mkF m 134 #[.val (.int x0), .val (.int x1), .val (.int x2), .val (.int x3), .val (.int x4), .val (.int x5), .val (.ref b2), .val (.int v20), .val (.int v22), .val (.ref b24), .val (.int v80)] [(.ref b24)])) rfl (by rw [hml]; rfl) (Steps.refl _) (argsL := []) (rest := []) (lenOf pd_2 rfl) rfl (by show 2 * 0 + _ ≤ _; exact Nat.le_of_eq rfl) (hb hby at_134) (fun _ _ => ⟨rfl, eh79, (by decide : 2 + 0 ≤ _), (by decide : 7 + 0 ≤ _)⟩)
  dsimp only [Pt.U, Pt.locs, Pt.cells, Pt.slots] at X84 l84 y84 z84 st84 hQ84
  subst l84 y84 z84
  obtain ⟨r84, rfl, N84q, e84, P84⟩ := hQ84
  have N84 := Fr.app N79 N84q
  have pre86 : ∀ t, Steps p.tables e below (T84.setTop (mkF m 137 #[.val (.int x0), .val (.int x1), .val (.int x2), .val (.int x3), .val (.int x4), .val (.int x5), .val (.ref b2), .val (.int v20), .val (.int v22), .val (.ref b24), .val (.int v80)] [(.int r84)])) t → Steps p.tables e below (s₁.setTop (entryFrame m #[(.int x0), (.int x1), (.int x2), (.int x3), (.int x4), (.int x5)] maxLocals)) t := fun t k => pre82 t (st84.trans k)
  obtain ⟨v88, hv88⟩ : ∃ z : Int32, z = (if r84 = v80 then (1 : Int32) else (0 : Int32)) := ⟨_, rfl⟩
  have pre89 : ∀ t, Steps p.tables e below (T84.setTop (mkF m 147 #[.val (.int x0), .val (.int x1), .val (.int x2), .val (.int x3), .val (.int x4), .val (.int x5), .val (.ref b2), .val (.int v20), .val (.int v22), .val (.ref b24), .val (.int v80)] [(.int v88)])) t → Steps p.tables e below (s₁.setTop (entryFrame m #[(.int x0), (.int x1), (.int x2), (.int x3), (.int x4), (.int x5)] maxLocals)) t := fun t k => pre86 t (by
    show Steps p.tables e below (T84.setTop (mkF m 137 #[.val (.int x0), .val (.int x1), .val (.int x2), .val (.int x3), .val (.int x4), .val (.int x5), .val (.ref b2), .val (.int v20), .val (.int v22), .val (.ref b24), .val (.int v80)] [(.int r84)])) _
    refine XS.iload X84.here hx rfl (hb hby at_137) rfl ?_
    show Steps p.tables e below (T84.setTop (mkF m 139 #[.val (.int x0), .val (.int x1), .val (.int x2), .val (.int x3), .val (.int x4), .val (.int x5), .val (.ref b2), .val (.int v20), .val (.int v22), .val (.ref b24), .val (.int v80)] [(.int v80), (.int r84)])) _
    by_cases hc87 : r84 = v80
    · skip
      refine XS.icmpNo X84.here hx rfl (hb hby at_139) rfl (teq hc87).2 ?_
      show Steps p.tables e below (T84.setTop (mkF m 142 #[.val (.int x0), .val (.int x1), .val (.int x2), .val (.int x3), .val (.int x4), .val (.int x5), .val (.ref b2), .val (.int v20), .val (.int v22), .val (.ref b24), .val (.int v80)] [])) _
      refine XS.iconst X84.here hx rfl (hb hby at_142) ?_
      show Steps p.tables e below (T84.setTop (mkF m 143 #[.val (.int x0), .val (.int x1), .val (.int x2), .val (.int x3), .val (.int x4), .val (.int x5), .val (.ref b2), .val (.int v20), .val (.int v22), .val (.ref b24), .val (.int v80)] [(.int (1 : Int32))])) _
      refine XS.goto X84.here hx rfl (pc0 := 143) (pc' := 147) rfl (hb hby at_143) (by decide) (by decide) ?_
      show Steps p.tables e below (T84.setTop (mkF m 147 #[.val (.int x0), .val (.int x1), .val (.int x2), .val (.int x3), .val (.int x4), .val (.int x5), .val (.ref b2), .val (.int v20), .val (.int v22), .val (.ref b24), .val (.int v80)] [(.int (1 : Int32))])) _
      rw [show v88 = (1 : Int32) from by rw [hv88, if_pos hc87]] at k
      exact k
    · skip
      refine XS.icmpYes X84.here hx rfl (pc0 := 139) (pc' := 146) rfl (hb hby at_139) rfl (feq hc87).2 (by decide) (by decide) ?_
      show Steps p.tables e below (T84.setTop (mkF m 146 #[.val (.int x0), .val (.int x1), .val (.int x2), .val (.int x3), .val (.int x4), .val (.int x5), .val (.ref b2), .val (.int v20), .val (.int v22), .val (.ref b24), .val (.int v80)] [])) _
      refine XS.iconst X84.here hx rfl (hb hby at_146) ?_
      show Steps p.tables e below (T84.setTop (mkF m 147 #[.val (.int x0), .val (.int x1), .val (.int x2), .val (.int x3), .val (.int x4), .val (.int x5), .val (.ref b2), .val (.int v20), .val (.int v22), .val (.ref b24), .val (.int v80)] [(.int (0 : Int32))])) _
      rw [show v88 = (0 : Int32) from by rw [hv88, if_neg hc87]] at k
      exact k)
  obtain rfl : v88 = (1 : Int32) := by exact own_fin x0 x1 x2 x3 x4 x5 v20 v22 r41 v80 r84 v88 hv20 hv22 P41 hv80 P84 hv88
  obtain ⟨fs, hr, hrun, hended, hW, hsame⟩ := X84.leave (v := some (.int (1 : Int32))) (fun h => by rw [Bd.returns] at h; cases h)
  refine ⟨_, _, pre89 _ ?_, hrun, hended, _, _, rfl, ?_, ⟨_, rfl⟩, hW, hsame.mono (by decide) (by decide)⟩
  · show Steps p.tables e below (T84.setTop (mkF m 147 #[.val (.int x0), .val (.int x1), .val (.int x2), .val (.int x3), .val (.int x4), .val (.int x5), .val (.ref b2), .val (.int v20), .val (.int v22), .val (.ref b24), .val (.int v80)] [(.int (1 : Int32))])) _
    exact retN X84 hx (t := .boolean) Bd.returns (by simp) (hb hby at_147) hr
  · show Q0 Z x0 x1 x2 x3 x4 x5 h0 n0 _ T84.heap _
    rw [e84]
    exact ⟨rfl, N84⟩
set_option maxRecDepth 65536 in
set_option maxHeartbeats 40000000 in
theorem comes_1 {Post : Tables → Env → Array Value → State → Outcome → State → Prop} (hpost : ∀ tb e args s v u, (limb_1_1.after args s (.returned v) u = true ∧ limb_1_2.after args s (.returned v) u = true ∧ True) → FrameEnd s (.returned v) u (Jvm.fieldLocs frame_1_writes args s ++ Jvm.arrayLocs frame_1_arrays args s ++ Jvm.staticLocs frame_1_statics s) 16 128 → Post tb e args s (.returned v) u) :
    ArmFor flags0 classFile x code maxLocals ret World_1 tables_1 room_1 Calls_1 rest_1 Pre_1 Post := by
  intro l hfl _ _ p e ha hc hk s m args below hf hA hF happ hP
  obtain ⟨hcalls, hrest, hpre⟩ := hP
  obtain ⟨-, -, -, hnamed, -, -, -, hat⟩ := (Spec.applies_iff hf).mp happ
  obtain ⟨hg, hn⟩ := and_e (Cond.before_iff.mp (show (Jvm.Cond.and given_1 narrow_1).before args s = true from hpre))
  obtain ⟨hcount, hg0⟩ := and_e hg
  obtain ⟨ha0, hg1⟩ := and_e hg0
  obtain ⟨ha1, hg2⟩ := and_e hg1
  obtain ⟨ha2, hg3⟩ := and_e hg2
  obtain ⟨ha3, hg4⟩ := and_e hg3
  obtain ⟨ha4, hg5⟩ := and_e hg4
  have ha5 := hg5
  obtain ⟨w0, w1, w2, w3, w4, w5, rfl⟩ : ∃ w0 w1 w2 w3 w4 w5 : Value, args = #[w0, w1, w2, w3, w4, w5] := by
    have hs : args.size = 6 := by simpa [Cond.value, given_1] using hcount
    obtain ⟨L⟩ := args
    match L, hs with
    | [w0, w1, w2, w3, w4, w5], _ => exact ⟨w0, w1, w2, w3, w4, w5, rfl⟩
  have hw := fun d (hd : d ∈ tables_1) => atoms_spec (ws := Jvm.Cond.code x code maxLocals ret :: tables_1) hat d (List.mem_cons_of_mem _ hd)
  obtain ⟨i0, ei0⟩ := is_v ha0
  obtain rfl : w0 = (.int i0) := Option.some.inj ei0
  obtain ⟨i1, ei1⟩ := is_v ha1
  obtain rfl : w1 = (.int i1) := Option.some.inj ei1
  obtain ⟨i2, ei2⟩ := is_v ha2
  obtain rfl : w2 = (.int i2) := Option.some.inj ei2
  obtain ⟨i3, ei3⟩ := is_v ha3
  obtain rfl : w3 = (.int i3) := Option.some.inj ei3
  obtain ⟨i4, ei4⟩ := is_v ha4
  obtain rfl : w4 = (.int i4) := Option.some.inj ei4
  obtain ⟨i5, ei5⟩ := is_v ha5
  obtain rfl : w5 = (.int i5) := Option.some.inj ei5
  obtain ⟨n, o, h1, h2, h3, _, L, rfl, ⟨rfl, N⟩, hq⟩ := rm0 l s _ hw tables_1 i0 i1 i2 i3 i4 i5  s.heap s.heap.size (Nat.le_refl _) p e ha hc hk s m _ below hf ((Spec.applies_iff_loose hf).mp happ).1 ⟨rfl, State.Warmed39.refl s, rfl⟩ trivial
  refine ⟨n, _, h1, h2, h3, hpost _ _ _ _ _ _ ⟨Cond.after_iff.mpr rfl, Cond.after_iff.mpr (eq_i res_at (Term.int_eval (1)) rfl), trivial⟩ ⟨hq.1, hq.2.1, (hq.2.2.sift fun y hy => Or.inr (N y hy)).mono (by decide) (by decide)⟩⟩
theorem main_1_1 : Claimed_1_1 := comes_1 fun _ _ _ _ _ _ h hF => ⟨h.1, hF⟩
theorem main_1_2 : Claimed_1_2 := comes_1 fun _ _ _ _ _ _ h hF => ⟨h.2.1, hF⟩
end Jvm.Pilot.@@N@@
namespace Jvm.Pilot.@@N@@
open Jvm Jvm.ClassFile Sem Op Lib Jvm.Free Jvm.Stand Jvm.Pilot.@@N@@.Jvm.D
/-! MADE BY PROGRAM (witnessworld.py) out of the Statement's table words and the real class files: 9 classes; the members and pool entries that the words name. The judged class is class 1, her method 2. -/
namespace start1
open Jvm.ClassFile
def u (s : String) : CpInfo := .utf8 (stringToUtf16 s)
/-- a pool by its gaps: so many unusable entries, then the entry; so many at the end -/
def gap : Nat → List CpInfo → List CpInfo
  | 0, r => r
  | n + 1, r => .unusable :: gap n r
def poolList (es : List (Nat × CpInfo)) (last : Nat) : List CpInfo := es.foldr (fun e r => gap e.1 (e.2 :: r)) (gap last [])
def pool (es : List (Nat × CpInfo)) (last : Nat) : Array CpInfo := ⟨poolList es last⟩
def fileOf (pool : Array CpInfo) (this : Nat) (attrs : Array Attribute := #[]) (ms : Array MethodInfo := #[]) (fl : Nat := 33) (sup : Nat := 0) (ifs : Array Nat := #[]) (fds : Array FieldInfo := #[]) : ClassFile where
  minorVersion := 0
  majorVersion := 65
  constantPool := pool
  accessFlags := fl
  thisClass := this
  superClass := sup
  interfaces := ifs
  fields := fds
  methods := ms
  attributes := attrs
def plain (name : String) (sup : Option ClassId) : Class where
  name := name
  kind := .ordinary
  loader := none
  accessFlags := 33
  super := sup
  interfaces := #[]
  cf := none
  fields := #[]
  methods := #[]
  instanceTypes := #[]
  staticTypes := #[]
  resolved := #[]
  callSites := []
  init := .initialized
  statics := none
  mirror := none

def pool0 : Array CpInfo := pool [(5, u "<init>"), (0, u "()V"), (1, .class_ 10), (1, u "java/lang/Object")] 113

def k0c0 : Code := { maxStack := 0, maxLocals := 1, code := object_method_1_code, exceptionTable := #[], attributes := #[] }
def k0m0 : Method := { name := "<init>", desc := "()V", sig := { parameters := [], returnType := none }, accessFlags := 1, code := some k0c0 }
/-- java/lang/Object -/
def k0 : Class := { plain "java/lang/Object" none with
  accessFlags := 33
  interfaces := #[]
  cf := some (fileOf pool0 8 #[] #[{ accessFlags := 1, nameIndex := 5, descriptorIndex := 6, attributes := #[] }] 33 0 #[] #[])
  fields := #[]
  methods := #[k0m0]
  instanceTypes := #[]
  staticTypes := #[]
  resolved := Array.replicate 124 none
  statics := none }

def pool1 : Array CpInfo := pool [(2, .class_ 4), (1, u "java/lang/Object"), (0, u "<init>"), (0, u "()V"), (0, .integer 2147483647), (0, .class_ 9), (0, u "com/example/incipit/incipit/DataBytes"), (0, .methodref 8 11), (0, .nameAndType 5 12), (0, u "([BII)V"), (0, .methodref 14 15), (0, .class_ 16), (0, .nameAndType 17 18), (0, u "com/example/incipit/incipit/DataBytesIsAsciiPinLaw"), (0, u "bad"), (0, u "(BIII)Z"), (0, .methodref 8 20), (0, .nameAndType 21 22), (0, u "isAscii"), (0, u "()Z"), (3, u "law"), (0, u "(IIIIII)Z")] 4

def k1m0 : Method := { name := "<init>", desc := "()V", sig := { parameters := [], returnType := none }, accessFlags := 1, code := none }
def k1c1 : Code := { maxStack := 3, maxLocals := 4, code := method_2_code, exceptionTable := #[], attributes := #[] }
def k1m1 : Method := { name := "bad", desc := "(BIII)Z", sig := { parameters := [.byte, .int, .int, .int], returnType := some .boolean }, accessFlags := 10, code := some k1c1 }
def k1c2 : Code := { maxStack := 5, maxLocals := 11, code := code, exceptionTable := #[], attributes := #[] }
def k1m2 : Method := { name := "law", desc := "(IIIIII)Z", sig := { parameters := [.int, .int, .int, .int, .int, .int], returnType := some .boolean }, accessFlags := 9, code := some k1c2 }
/-- com/example/incipit/incipit/DataBytesIsAsciiPinLaw -/
def k1 : Class := { plain "com/example/incipit/incipit/DataBytesIsAsciiPinLaw" (some 0) with
  accessFlags := 49
  interfaces := #[]
  cf := some (fileOf pool1 14 #[] #[{ accessFlags := 1, nameIndex := 5, descriptorIndex := 6, attributes := #[] }, { accessFlags := 10, nameIndex := 17, descriptorIndex := 18, attributes := #[] }, { accessFlags := 9, nameIndex := 26, descriptorIndex := 27, attributes := #[] }] 49 2 #[] #[])
  fields := #[]
  methods := #[k1m0, k1m1, k1m2]
  instanceTypes := #[]
  staticTypes := #[]
  resolved := Array.replicate 32 none
  statics := none }

def pool2 : Array CpInfo := pool [(1, .methodref 2 3), (0, .class_ 4), (0, .nameAndType 5 6), (0, u "java/lang/Object"), (0, u "<init>"), (0, u "()V"), (0, .fieldref 8 9), (0, .class_ 10), (0, .nameAndType 11 12), (0, u "com/example/incipit/incipit/DataBytes"), (0, u "array"), (0, u "[B"), (0, .fieldref 8 14), (0, .nameAndType 15 16), (0, u "offset"), (0, u "I"), (0, .fieldref 8 18), (0, .nameAndType 19 16), (0, u "length"), (7, u "([BII)V"), (31, u "isAscii"), (0, u "()Z")] 11

def k2c0 : Code := { maxStack := 2, maxLocals := 4, code := prog_8_method_1_code, exceptionTable := #[], attributes := #[] }
def k2m0 : Method := { name := "<init>", desc := "([BII)V", sig := { parameters := [(.array .byte), .int, .int], returnType := none }, accessFlags := 0, code := some k2c0 }
def k2c1 : Code := { maxStack := 3, maxLocals := 2, code := prog_8_method_6_code, exceptionTable := #[], attributes := #[] }
def k2m1 : Method := { name := "isAscii", desc := "()Z", sig := { parameters := [], returnType := some .boolean }, accessFlags := 0, code := some k2c1 }
/-- com/example/incipit/incipit/DataBytes -/
def k2 : Class := { plain "com/example/incipit/incipit/DataBytes" (some 0) with
  accessFlags := 48
  interfaces := #[]
  cf := some (fileOf pool2 8 #[] #[{ accessFlags := 0, nameIndex := 5, descriptorIndex := 27, attributes := #[] }, { accessFlags := 0, nameIndex := 59, descriptorIndex := 60, attributes := #[] }] 48 2 #[] #[{ accessFlags := 18, nameIndex := 11, descriptorIndex := 12, attributes := #[] }, { accessFlags := 18, nameIndex := 15, descriptorIndex := 16, attributes := #[] }, { accessFlags := 18, nameIndex := 19, descriptorIndex := 16, attributes := #[] }])
  fields := #[{ name := "array", type := (.array .byte), accessFlags := 18, slot := 0, constantValue := 0 }, { name := "offset", type := .int, accessFlags := 18, slot := 1, constantValue := 0 }, { name := "length", type := .int, accessFlags := 18, slot := 2, constantValue := 0 }]
  methods := #[k2m0, k2m1]
  instanceTypes := #[(.array .byte), .int, .int]
  staticTypes := #[]
  resolved := Array.replicate 72 none
  statics := none }

def pool3 : Array CpInfo := pool [(1, u "java/lang/Cloneable"), (0, .class_ 1), (0, u "java/lang/Object"), (0, .class_ 3)] 3

/-- java/lang/Cloneable -/
def k3 : Class := { plain "java/lang/Cloneable" (some 0) with
  accessFlags := 1537
  interfaces := #[]
  cf := some (fileOf pool3 2 #[] #[] 1537 4 #[] #[])
  fields := #[]
  methods := #[]
  instanceTypes := #[]
  staticTypes := #[]
  resolved := Array.replicate 8 none
  statics := none }

def pool4 : Array CpInfo := pool [(1, u "java/io/Serializable"), (0, .class_ 1), (0, u "java/lang/Object"), (0, .class_ 3)] 3

/-- java/io/Serializable -/
def k4 : Class := { plain "java/io/Serializable" (some 0) with
  accessFlags := 1537
  interfaces := #[]
  cf := some (fileOf pool4 2 #[] #[] 1537 4 #[] #[])
  fields := #[]
  methods := #[]
  instanceTypes := #[]
  staticTypes := #[]
  resolved := Array.replicate 8 none
  statics := none }

/-- the primitive byte -/
def k5 : Class := { plain "byte" none with kind := .primitive 'B', accessFlags := 0x411 }
/-- [B -/
def k6 : Class := { plain "[B" (some 0) with kind := .array 5 .byte, interfaces := #[3, 4], accessFlags := 1041 }

/-- the primitive int -/
def k7 : Class := { plain "int" none with kind := .primitive 'I', accessFlags := 0x411 }
/-- [I -/
def k8 : Class := { plain "[I" (some 0) with kind := .array 7 .int, interfaces := #[3, 4], accessFlags := 1041 }

def heap : Heap := #[]
def classes : Array Class := #[k0, k1, k2, k3, k4, k5, k6, k7, k8]
def interned : List (Array UInt16 × Addr) := []
def slotsUsed : Nat := 0
def theMethod : MethodId := ⟨1, 2⟩
def args0 : Array Value := #[.int 1, .int 5, .int 3, .int 1, .int 1, .int 1]
def aboutOver (below : List Frame) : State where
  vm := { classes := classes, interned := interned.toArray }
  heap := heap
  slotsUsed := slotsUsed
  threads := #[{ frames := .invoking theMethod args0 :: below }]
def below0 : List Frame := [.native { method := ⟨0, 0⟩, args := #[] }]
def about1 : State := aboutOver below0
def p0 : Program := .bare "" "" ""
def e0 : Env := launch0.env 0 0 0
theorem w_frames : about1.frames = Frame.invoking theMethod args0 :: below0 := rfl
set_option maxRecDepth 65536 in
theorem w_args : argsFit about1.vm theMethod args0 = true := by decide +kernel
set_option maxRecDepth 65536 in
theorem w_heap : heapFits about1 = true := by decide +kernel
set_option maxRecDepth 65536 in
theorem w_runnable : about1.curStatus? = some .runnable := by decide +kernel
set_option maxRecDepth 65536 in
theorem w_alone : about1.alone = true := by decide +kernel
set_option maxRecDepth 65536 in
theorem w_named : about1.methodNamed? x = some theMethod := by decide +kernel
set_option maxRecDepth 65536 in
theorem w_hears : about1.hears theMethod below0 = true := by decide +kernel
set_option maxRecDepth 65536 in
theorem w_ripe : about1.ripe theMethod args0 below0 = true := by decide +kernel
theorem w_running : about1.status = .running := rfl
set_option maxRecDepth 65536 in
theorem w_room : about1.hasRoom e0.platform room_1 = true :=
  launch0.hasRoom_least _ room_1 (by decide +kernel) (by decide +kernel) (by decide +kernel) (by decide +kernel) (by decide +kernel) (by decide +kernel)
theorem allAtoms_all (ts : List Jvm.Cond) (a : Array Jvm.Value) (st : Jvm.State) : (allAtoms ts).before a st = ts.all (fun c => c.before a st) := by
  induction ts with
  | nil => rfl
  | cons c t ih =>
    show (Jvm.Cond.and c (allAtoms t)).before a st = _
    rw [Jvm.Cond.before_and, ih, List.all_cons]
def words1 : List Jvm.Cond := Jvm.Cond.code x code maxLocals ret :: tables_1
/-- a 'code' word, met by the world's own term for the bytes: nothing is compared byte by byte -/
theorem code_word {y : MethodName} {bytes : ByteArray} {mx : Nat} {rt : Option FieldType} {a : Array Value} {s : State} {m : MethodId} {meth : Method} {c : Code} (h1 : s.methodNamed? y = some m) (h2 : s.vm.method? m = some meth) (h3 : meth.code = some c) (h4 : c.code = bytes)
    (h5 : (c.maxLocals == mx && c.exceptionTable.isEmpty && decide (c.maxStack ≤ mostOperands) && decide (meth.sig.returnType = rt) && !meth.locks && decide (parseMethodDescriptor y.desc = some meth.sig)) = true) : (Jvm.Cond.code y bytes mx rt).before a s = true := by
  simp only [Bool.and_eq_true, beq_iff_eq, Bool.not_eq_true', decide_eq_true_eq] at h5
  obtain ⟨⟨⟨⟨⟨g1, g2⟩, g3⟩, g4⟩, g5⟩, g6⟩ := h5
  simp [Cond.before, Cond.holds, Cond.value, h1, h2, h3, h4, g1, g2, g3, g4, g5, g6]
def isCode : Jvm.Cond → Bool
  | .code _ _ _ _ => true
  | _ => false
theorem all_split {L : List Jvm.Cond} {P : Jvm.Cond → Bool} (h1 : L.all (fun c => isCode c || P c) = true) (h2 : ∀ c ∈ L.filter isCode, P c = true) : L.all P = true := by
  refine List.all_eq_true.mpr fun c hc => ?_
  have h := List.all_eq_true.mp h1 c hc
  rcases Bool.eq_false_or_eq_true (isCode c) with hi | hi
  · exact h2 c (List.mem_filter.mpr ⟨hc, hi⟩)
  · simpa [hi] using h
set_option maxRecDepth 65536 in
theorem w_c0 : (Jvm.Cond.code x code maxLocals ret).before args0 about1 = true := code_word (m := ⟨1, 2⟩) (meth := k1m2) (c := k1c2) (by decide +kernel) rfl rfl rfl (by decide +kernel)
set_option maxRecDepth 65536 in
theorem w_c1 : (Jvm.Cond.code ({ cls := "com/example/incipit/incipit/DataBytes", name := "<init>", desc := "([BII)V" } : Jvm.MethodName) prog_8_method_1_code (4 : Nat) (Option.none : Option Jvm.ClassFile.FieldType)).before args0 about1 = true := code_word (m := ⟨2, 0⟩) (meth := k2m0) (c := k2c0) (by decide +kernel) rfl rfl rfl (by decide +kernel)
set_option maxRecDepth 65536 in
theorem w_c2 : (Jvm.Cond.code ({ cls := "java/lang/Object", name := "<init>", desc := "()V" } : Jvm.MethodName) object_method_1_code (1 : Nat) (Option.none : Option Jvm.ClassFile.FieldType)).before args0 about1 = true := code_word (m := ⟨0, 0⟩) (meth := k0m0) (c := k0c0) (by decide +kernel) rfl rfl rfl (by decide +kernel)
set_option maxRecDepth 65536 in
theorem w_c3 : (Jvm.Cond.code ({ cls := "com/example/incipit/incipit/DataBytesIsAsciiPinLaw", name := "bad", desc := "(BIII)Z" } : Jvm.MethodName) method_2_code (4 : Nat) (Option.some Jvm.ClassFile.FieldType.boolean)).before args0 about1 = true := code_word (m := ⟨1, 1⟩) (meth := k1m1) (c := k1c1) (by decide +kernel) rfl rfl rfl (by decide +kernel)
set_option maxRecDepth 65536 in
theorem w_c4 : (Jvm.Cond.code ({ cls := "com/example/incipit/incipit/DataBytes", name := "isAscii", desc := "()Z" } : Jvm.MethodName) prog_8_method_6_code (2 : Nat) (Option.some Jvm.ClassFile.FieldType.boolean)).before args0 about1 = true := code_word (m := ⟨2, 1⟩) (meth := k2m1) (c := k2c1) (by decide +kernel) rfl rfl rfl (by decide +kernel)
def codes1 : List Jvm.Cond := [Jvm.Cond.code x code maxLocals ret, Jvm.Cond.code ({ cls := "com/example/incipit/incipit/DataBytes", name := "<init>", desc := "([BII)V" } : Jvm.MethodName) prog_8_method_1_code (4 : Nat) (Option.none : Option Jvm.ClassFile.FieldType), Jvm.Cond.code ({ cls := "java/lang/Object", name := "<init>", desc := "()V" } : Jvm.MethodName) object_method_1_code (1 : Nat) (Option.none : Option Jvm.ClassFile.FieldType), Jvm.Cond.code ({ cls := "com/example/incipit/incipit/DataBytesIsAsciiPinLaw", name := "bad", desc := "(BIII)Z" } : Jvm.MethodName) method_2_code (4 : Nat) (Option.some Jvm.ClassFile.FieldType.boolean), Jvm.Cond.code ({ cls := "com/example/incipit/incipit/DataBytes", name := "isAscii", desc := "()Z" } : Jvm.MethodName) prog_8_method_6_code (2 : Nat) (Option.some Jvm.ClassFile.FieldType.boolean)]
set_option maxRecDepth 65536 in
theorem codes_eq : words1.filter isCode = codes1 := rfl
theorem w_codes : ∀ c ∈ words1.filter isCode, c.before args0 about1 = true := by
  rw [codes_eq]
  intro c hc
  simp only [codes1, List.mem_cons, List.not_mem_nil, or_false] at hc
  rcases hc with rfl | rfl | rfl | rfl | rfl
  · exact w_c0
  · exact w_c1
  · exact w_c2
  · exact w_c3
  · exact w_c4
set_option maxRecDepth 65536 in
theorem w_t1 : (words1.take 24).all (fun c => isCode c || c.before args0 about1) = true := by decide +kernel
set_option maxRecDepth 65536 in
theorem w_t2 : (words1.drop 24).all (fun c => isCode c || c.before args0 about1) = true := by decide +kernel
theorem w_tables : (allAtoms (Jvm.Cond.code x code maxLocals ret :: tables_1)).before args0 about1 = true := by
  rw [allAtoms_all]
  show words1.all (fun c => c.before args0 about1) = true
  refine all_split ?_ w_codes
  rw [← List.take_append_drop 24 words1, List.all_append, w_t1, w_t2]
  rfl
set_option maxRecDepth 65536 in
theorem w_case : (Jvm.Cond.and given_1 narrow_1).before args0 about1 = true := by decide +kernel
theorem w_applies : (headSpec (Jvm.Cond.code x code maxLocals ret :: tables_1) room_1).applies x e0.platform about1 = true :=
  (Spec.applies_iff w_frames).mpr ⟨w_running, w_runnable, w_alone, w_named, w_hears, w_ripe, w_room, w_tables⟩
theorem atStart : AtStart classFile x code maxLocals ret World_1 tables_1 room_1 Calls_1 rest_1 Pre_1 launch0 p0 e0 about1 theMethod args0 below0 :=
  ⟨lists_1, trivial, launch0.admits_env _ _ _, launch0.least_env, fairChoices_fair.cas, fairChoices_fair.clock, w_frames, w_args, w_heap, w_applies, trivial, trivial, w_case⟩
end start1
theorem witness_1 : WitnessClaimed_1 := ⟨start1.p0, start1.e0, start1.about1, start1.theMethod, start1.args0, start1.below0, start1.atStart⟩
end Jvm.Pilot.@@N@@
