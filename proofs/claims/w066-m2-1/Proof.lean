import JvmDerived
import JvmDerived.Pilot.@@N@@Statement
import JvmDerived.Pilot.@@N@@Code
set_option linter.unusedVariables false
set_option linter.unusedSimpArgs false
namespace Jvm.RoadKit
open Sem ClassFile Op Lib Jvm.Stand Jvm.Free Jvm.LawKit
section New
variable {p : Program} {l : Launch} {e : Env} {R : Room} {s : State} {m : MethodId} {args : Array Value} {below : List Frame} {meth : Method} {c : Code} {T : State} {locs : List Loc} {cells slots : Nat}
theorem retI (X : Stand p l e R s m args below meth c T locs cells slots) (hx : p.tables.exec = Jvm.exec) {pc : Nat} {Ls : Array Slot} {z : Int32} {rest : List Value} (hret : meth.sig.returnType = some .int) (hd : decode c.code pc = .ok (.ireturn, 1)) {fs : List Frame}
    (hl : ∀ (f : JFrame) (acts : List Action), f.method = m → f.locked = none → f.entered = [] → (doReturn e (T.setTop f) acts (some (.int z))).1 = T.setFrames fs) : Steps p.tables e below (T.setTop (mkF m pc Ls (.int z :: rest))) (T.setFrames fs) := by
  have hm' : T.vm.method? m = some meth := X.method'
  have hn : narrow .int (.int z) = .int z := rfl
  show Steps p.tables e below (T.setTop { method := m, pc := pc, locals := Ls, stack := _ :: rest, locked := none }) _
  jvm_step X.here [X.here.top, hx, hd, hm', hret, hn]
  first | (intro acts; rw [hl _ acts rfl rfl rfl]) | rw [hl _ _ rfl rfl rfl]
  exact Steps.refl _
end New
end Jvm.RoadKit
namespace Jvm.Pilot.@@N@@
open Jvm Jvm.ClassFile Sem Op Lib Jvm.Free Jvm.Stand Jvm.LawKit Jvm.RoadKit Bundle Jvm.Pilot.@@N@@.Jvm.D
def own_el3 (j e0 e1 e2 : Int32) : Int32 := (if j = (0 : Int32) then e0 else (if j = (1 : Int32) then e1 else e2))
theorem own_in3 {j : Int32} (h : j = (0 : Int32) ∨ j = (1 : Int32) ∨ j = (2 : Int32)) : ¬ j < 0 ∧ j < (3 : Int32) := by rcases h with rfl | rfl | rfl <;> exact ⟨by decide, by decide⟩
theorem own_get3 (j e0 e1 e2 : Int32) (h : j = (0 : Int32) ∨ j = (1 : Int32) ∨ j = (2 : Int32)) : [Value.int e0, Value.int e1, Value.int e2].getD j.toNatClampNeg (.int (0 : Int32)) = .int (own_el3 j e0 e1 e2) := by rcases h with rfl | rfl | rfl <;> rfl
theorem own_len3 {e0 e1 e2 j : Int32} (h : j = (0 : Int32) ∨ j = (1 : Int32) ∨ j = (2 : Int32)) : j.toNatClampNeg < [Value.int e0, Value.int e1, Value.int e2].length := by rcases h with rfl | rfl | rfl <;> (show (_ : Nat) < 3; decide)
theorem own_set3 (j v e0 e1 e2 : Int32) (h : j = (0 : Int32) ∨ j = (1 : Int32) ∨ j = (2 : Int32)) : [Value.int e0, Value.int e1, Value.int e2].set j.toNatClampNeg (.int v) = [Value.int (if j = (0 : Int32) then v else e0), Value.int (if j = (1 : Int32) then v else e1), Value.int (if j = (2 : Int32) then v else e2)] := by rcases h with rfl | rfl | rfl <;> rfl

theorem own_01 {P : Prop} [Decidable P] {v : Int32} (h : v = if P then (0 : Int32) else (1 : Int32)) : v = 0 ∨ v = 1 := by
  split at h
  · exact Or.inl h
  · exact Or.inr h
theorem own_a1 {x v : Int32} (h : v = x &&& (1 : Int32)) : v = 0 ∨ v = 1 := by
  have a := c_mask x 1 1 (by decide) (by decide)
  rw [← h] at a
  have : v.toInt = 0 ∨ v.toInt = 1 := by omega
  rcases this with q | q
  · exact Or.inl (Int32.toInt_inj.mp q)
  · exact Or.inr (Int32.toInt_inj.mp q)
theorem own_m3 {x v : Int32} (h : v = ((x &&& (2147483647 : Int32)) % (3 : Int32))) : v = (0 : Int32) ∨ v = (1 : Int32) ∨ v = (2 : Int32) := by
  have a := c_mask x 2147483647 31 (by decide) (by decide)
  have b := c_irem (x &&& 2147483647) 3 3 (by decide)
  rw [← h] at b
  have : v.toInt = 0 ∨ v.toInt = 1 ∨ v.toInt = 2 := by omega
  rcases this with q | q | q
  · exact Or.inl (Int32.toInt_inj.mp q)
  · exact Or.inr (Or.inl (Int32.toInt_inj.mp q))
  · exact Or.inr (Or.inr (Int32.toInt_inj.mp q))
theorem own_v37 {v1 v6 v37 : Int32} (hv37 : v37 = (if v6 = (0 : Int32) then (0 : Int32) else (if (own_el3 v1 (-1 : Int32) (-1 : Int32) (-1 : Int32)) = (-1 : Int32) then ((0 : Int32) + (1 : Int32)) else (0 : Int32)))) : v37 = (0 : Int32) ∨ v37 = (1 : Int32) ∨ v37 = (2 : Int32) := by
  split at hv37
  · exact Or.inl hv37
  · split at hv37
    · exact Or.inr (Or.inl hv37)
    · exact Or.inl hv37

theorem pn_0 : plainName "java/util/Arrays" = true := by first | (simp [plainName, overriddenIn]; done) | decide +kernel
theorem d3_0 : decode jdk_65_method_103_code 0 = .ok (.iconst 0, 1) := by decide +kernel
theorem d3_1 : decode jdk_65_method_103_code 1 = .ok (.istore_n 2, 1) := by decide +kernel
theorem d3_2 : decode jdk_65_method_103_code 2 = .ok (.aload_n 0, 1) := by decide +kernel
theorem d3_3 : decode jdk_65_method_103_code 3 = .ok (.arraylength, 1) := by decide +kernel
theorem d3_4 : decode jdk_65_method_103_code 4 = .ok (.istore_n 3, 1) := by decide +kernel
theorem d3_5 : decode jdk_65_method_103_code 5 = .ok (.iload_n 2, 1) := by decide +kernel
theorem d3_6 : decode jdk_65_method_103_code 6 = .ok (.iload_n 3, 1) := by decide +kernel
theorem d3_7 : decode jdk_65_method_103_code 7 = .ok (.if_icmp .ge 13, 3) := by decide +kernel
theorem d3_10 : decode jdk_65_method_103_code 10 = .ok (.aload_n 0, 1) := by decide +kernel
theorem d3_11 : decode jdk_65_method_103_code 11 = .ok (.iload_n 2, 1) := by decide +kernel
theorem d3_12 : decode jdk_65_method_103_code 12 = .ok (.iload_n 1, 1) := by decide +kernel
theorem d3_13 : decode jdk_65_method_103_code 13 = .ok (.iastore, 1) := by decide +kernel
theorem d3_14 : decode jdk_65_method_103_code 14 = .ok (.iinc 2 1, 3) := by decide +kernel
theorem d3_17 : decode jdk_65_method_103_code 17 = .ok (.goto (-12), 3) := by decide +kernel
theorem d3_20 : decode jdk_65_method_103_code 20 = .ok (.return_, 1) := by decide +kernel
theorem ef_3 (m : MethodId) (x0 : Addr) (x1 : Int32) : entryFrame m #[(.ref x0), (.int x1)] 4 = mkF m 0 #[.val (.ref x0), .val (.int x1), .unset, .unset] [] := by first | (simp [entryFrame, mkF, argsToLocals, Value.category]; done) | rfl
def Q3 (Z : State) (a : Addr) (x1 : Int32) (kA : ClassId) (u0 : Int32) (u1 : Int32) (u2 : Int32) (h0 : Heap) (n0 : Nat) (v : Option Value) (h : Heap) (L : List Loc) : Prop := v = none ∧ Fr n0 L ∧ Keep h0 h [a] ∧ Arv Z h a kA .int (3 : Int32) [(.int x1), (.int x1), (.int x1)] (.int (0 : Int32))
set_option maxRecDepth 65536 in
set_option maxHeartbeats 40000000 in
theorem rm3 (l : Launch) (Z : State) (a0 : Array Value) (hw : ∀ d ∈ tables_1, d.before a0 Z = true) (ws : List Jvm.Cond) (a : Addr) (x1 : Int32) (kA : ClassId) (u0 : Int32) (u1 : Int32) (u2 : Int32) (h0 : Heap) (n0 : Nat) (Z0 : n0 ≤ h0.size) (fa0 : Arv Z h0 a kA .int (3 : Int32) [(.int u0), (.int u1), (.int u2)] (.int (0 : Int32))) (g_a : n0 ≤ a) :
    MetFree l (⟨"java/util/Arrays", "fill", "([II)V"⟩ : MethodName) (head1 (Jvm.Cond.code (⟨"java/util/Arrays", "fill", "([II)V"⟩ : MethodName) jdk_65_method_103_code 4 none :: ws) ({ frames := 0, cells := 0, slots := 0, locals := 0 } : Room)) (fun aa U => aa = #[(.ref a), (.int x1)] ∧ Z.Warmed39 U.vm ∧ U.heap = h0) (fun _ _ _ _ _ => True) (fun _ U o U' => ∃ v L, o = .returned v ∧ Q3 Z a x1 kA u0 u1 u2 h0 n0 v U'.heap L ∧ FrameEnd U o U' L ({ frames := 0, cells := 0, slots := 0, locals := 0 } : Room).cells ({ frames := 0, cells := 0, slots := 0, locals := 0 } : Room).slots) := by
  refine MetFree.of_bodySF (plainFor_of_name pn_0) hisR ?_
  intro p e s m args below meth c s₁ Bd hml0 hP hK
  obtain ⟨rfl, hZ, hh⟩ := hP
  have hx := Bd.exec
  have hby := Bd.bytes
  have hml : c.maxLocals = 4 := hml0
  have hown : s.vm.findClass "java/util/Arrays" = some m.cls := findClass_of_methodNamed Bd.named
  have hnm := (name_of_methodNamed Bd.named Bd.method).1
  have X0 : Stand p l e ({ frames := 0, cells := 0, slots := 0, locals := 0 } : Room) s m #[(.ref a), (.int x1)] below meth c s₁ [] 0 0 := Stand.of_body Bd
  have e0 : s₁.heap = h0 := by rw [← hh, Bd.state]; rfl
  have N0 := Fr.nil n0
  have pre0 : ∀ t, Steps p.tables e below (s₁.setTop (mkF m 0 #[.val (.ref a), .val (.int x1), .unset, .unset] [])) t → Steps p.tables e below (s₁.setTop (entryFrame m #[(.ref a), (.int x1)] 4)) t := fun t k => castTop (ef_3 m a x1) k
  have pre1 : ∀ t, Steps p.tables e below (s₁.setTop (mkF m 3 #[.val (.ref a), .val (.int x1), .val (.int (0 : Int32)), .unset] [(.ref a)])) t → Steps p.tables e below (s₁.setTop (entryFrame m #[(.ref a), (.int x1)] 4)) t := fun t k => pre0 t (by
    show Steps p.tables e below (s₁.setTop (mkF m 0 #[.val (.ref a), .val (.int x1), .unset, .unset] [])) _
    refine XS.iconst X0.here hx rfl (hb hby d3_0) ?_
    show Steps p.tables e below (s₁.setTop (mkF m 1 #[.val (.ref a), .val (.int x1), .unset, .unset] [(.int (0 : Int32))])) _
    refine XS.istoreN X0.here hx rfl (hb hby d3_1) rfl (l' := #[.val (.ref a), .val (.int x1), .val (.int (0 : Int32)), .unset]) rfl ?_
    show Steps p.tables e below (s₁.setTop (mkF m 2 #[.val (.ref a), .val (.int x1), .val (.int (0 : Int32)), .unset] [])) _
    refine XS.aloadN X0.here hx rfl (hb hby d3_2) rfl rfl ?_
    show Steps p.tables e below (s₁.setTop (mkF m 3 #[.val (.ref a), .val (.int x1), .val (.int (0 : Int32)), .unset] [(.ref a)])) _
    exact k)
  obtain ⟨cl2, Ar2, q2, S2, M2, H2, G2⟩ := id fa0
  have pre3 : ∀ t, Steps p.tables e below (s₁.setTop (mkF m 4 #[.val (.ref a), .val (.int x1), .val (.int (0 : Int32)), .unset] [(.int (3 : Int32))])) t → Steps p.tables e below (s₁.setTop (entryFrame m #[(.ref a), (.int x1)] 4)) t := fun t k => pre1 t (X0.arraylength hx (by rw [e0]; exact Ar2.1) (State.isArrayOf_alike hZ.alike Ar2.2.1) (g := (mkF m 3 #[.val (.ref a), .val (.int x1), .val (.int (0 : Int32)), .unset] [(.ref a)])) rfl rfl (hb hby d3_3) t (by rw [len_of S2 M2]; exact k))
  have pre4 : ∀ t, Steps p.tables e below (s₁.setTop (mkF m 13 #[.val (.ref a), .val (.int x1), .val (.int (0 : Int32)), .val (.int (3 : Int32))] [(.int x1), (.int (0 : Int32)), (.ref a)])) t → Steps p.tables e below (s₁.setTop (entryFrame m #[(.ref a), (.int x1)] 4)) t := fun t k => pre3 t (by
    show Steps p.tables e below (s₁.setTop (mkF m 4 #[.val (.ref a), .val (.int x1), .val (.int (0 : Int32)), .unset] [(.int (3 : Int32))])) _
    refine XS.istoreN X0.here hx rfl (hb hby d3_4) rfl (l' := #[.val (.ref a), .val (.int x1), .val (.int (0 : Int32)), .val (.int (3 : Int32))]) rfl ?_
    show Steps p.tables e below (s₁.setTop (mkF m 5 #[.val (.ref a), .val (.int x1), .val (.int (0 : Int32)), .val (.int (3 : Int32))] [])) _
    refine XS.iloadN X0.here hx rfl (hb hby d3_5) rfl ?_
    show Steps p.tables e below (s₁.setTop (mkF m 6 #[.val (.ref a), .val (.int x1), .val (.int (0 : Int32)), .val (.int (3 : Int32))] [(.int (0 : Int32))])) _
    refine XS.iloadN X0.here hx rfl (hb hby d3_6) rfl ?_
    show Steps p.tables e below (s₁.setTop (mkF m 7 #[.val (.ref a), .val (.int x1), .val (.int (0 : Int32)), .val (.int (3 : Int32))] [(.int (3 : Int32)), (.int (0 : Int32))])) _
    refine XS.icmpNo X0.here hx rfl (hb hby d3_7) rfl (tlt (by decide : (0 : Int32) < (3 : Int32))).2.1 ?_
    show Steps p.tables e below (s₁.setTop (mkF m 10 #[.val (.ref a), .val (.int x1), .val (.int (0 : Int32)), .val (.int (3 : Int32))] [])) _
    refine XS.aloadN X0.here hx rfl (hb hby d3_10) rfl rfl ?_
    show Steps p.tables e below (s₁.setTop (mkF m 11 #[.val (.ref a), .val (.int x1), .val (.int (0 : Int32)), .val (.int (3 : Int32))] [(.ref a)])) _
    refine XS.iloadN X0.here hx rfl (hb hby d3_11) rfl ?_
    show Steps p.tables e below (s₁.setTop (mkF m 12 #[.val (.ref a), .val (.int x1), .val (.int (0 : Int32)), .val (.int (3 : Int32))] [(.int (0 : Int32)), (.ref a)])) _
    refine XS.iloadN X0.here hx rfl (hb hby d3_12) rfl ?_
    show Steps p.tables e below (s₁.setTop (mkF m 13 #[.val (.ref a), .val (.int x1), .val (.int (0 : Int32)), .val (.int (3 : Int32))] [(.int x1), (.int (0 : Int32)), (.ref a)])) _
    exact k)
  obtain ⟨cl5, Ar5, q5, S5, M5, H5, G5⟩ := id fa0
  have hin5 : ¬ ((0 : Int32) < 0 ∨ cl5.slots.size ≤ ((0 : Int32)).toNatClampNeg) := inb_of S5 ⟨by decide, by decide⟩
  obtain ⟨T5, h5, X5, e5, W5, st5⟩ := stI X0 hx hZ e0 Ar5 (j := (0 : Int32)) hin5 (g := (mkF m 13 #[.val (.ref a), .val (.int x1), .val (.int (0 : Int32)), .val (.int (3 : Int32))] [(.int x1), (.int (0 : Int32)), (.ref a)])) rfl rfl (hb hby d3_13)
  have V5 : Arv Z h5 a kA .int (3 : Int32) [(.int x1), (.int u1), (.int u2)] (.int (0 : Int32)) := Arv.set Ar5 q5 S5 M5 H5 G5 rfl W5 0 rfl (Nat.le_of_ble_eq_true rfl)
  have N5 := Fr.snoc X5 N0 g_a
  have Zz5 : n0 ≤ h5.size := Nat.le_trans Z0 (Keep.of_wr W5).1
  have pre7 : ∀ t, Steps p.tables e below (T5.setTop (mkF m 14 #[.val (.ref a), .val (.int x1), .val (.int (0 : Int32)), .val (.int (3 : Int32))] [])) t → Steps p.tables e below (s₁.setTop (entryFrame m #[(.ref a), (.int x1)] 4)) t := fun t k => pre4 t (st5 _ k)
  have Kp5 : Keep h0 h5 [a] := ((Keep.refl h0 [a])).wr W5 (Or.inl (List.mem_of_getElem? (i := 0) rfl))
  have pre8 : ∀ t, Steps p.tables e below (T5.setTop (mkF m 13 #[.val (.ref a), .val (.int x1), .val (.int (1 : Int32)), .val (.int (3 : Int32))] [(.int x1), (.int (1 : Int32)), (.ref a)])) t → Steps p.tables e below (s₁.setTop (entryFrame m #[(.ref a), (.int x1)] 4)) t := fun t k => pre7 t (by
    show Steps p.tables e below (T5.setTop (mkF m 14 #[.val (.ref a), .val (.int x1), .val (.int (0 : Int32)), .val (.int (3 : Int32))] [])) _
    refine XS.iinc X5.here hx rfl (hb hby d3_14) rfl (l' := #[.val (.ref a), .val (.int x1), .val (.int (1 : Int32)), .val (.int (3 : Int32))]) rfl ?_
    show Steps p.tables e below (T5.setTop (mkF m 17 #[.val (.ref a), .val (.int x1), .val (.int (1 : Int32)), .val (.int (3 : Int32))] [])) _
    refine XS.goto X5.here hx rfl (pc0 := 17) (pc' := 5) rfl (hb hby d3_17) (by decide) (by decide) ?_
    show Steps p.tables e below (T5.setTop (mkF m 5 #[.val (.ref a), .val (.int x1), .val (.int (1 : Int32)), .val (.int (3 : Int32))] [])) _
    refine XS.iloadN X5.here hx rfl (hb hby d3_5) rfl ?_
    show Steps p.tables e below (T5.setTop (mkF m 6 #[.val (.ref a), .val (.int x1), .val (.int (1 : Int32)), .val (.int (3 : Int32))] [(.int (1 : Int32))])) _
    refine XS.iloadN X5.here hx rfl (hb hby d3_6) rfl ?_
    show Steps p.tables e below (T5.setTop (mkF m 7 #[.val (.ref a), .val (.int x1), .val (.int (1 : Int32)), .val (.int (3 : Int32))] [(.int (3 : Int32)), (.int (1 : Int32))])) _
    refine XS.icmpNo X5.here hx rfl (hb hby d3_7) rfl (tlt (by decide : (1 : Int32) < (3 : Int32))).2.1 ?_
    show Steps p.tables e below (T5.setTop (mkF m 10 #[.val (.ref a), .val (.int x1), .val (.int (1 : Int32)), .val (.int (3 : Int32))] [])) _
    refine XS.aloadN X5.here hx rfl (hb hby d3_10) rfl rfl ?_
    show Steps p.tables e below (T5.setTop (mkF m 11 #[.val (.ref a), .val (.int x1), .val (.int (1 : Int32)), .val (.int (3 : Int32))] [(.ref a)])) _
    refine XS.iloadN X5.here hx rfl (hb hby d3_11) rfl ?_
    show Steps p.tables e below (T5.setTop (mkF m 12 #[.val (.ref a), .val (.int x1), .val (.int (1 : Int32)), .val (.int (3 : Int32))] [(.int (1 : Int32)), (.ref a)])) _
    refine XS.iloadN X5.here hx rfl (hb hby d3_12) rfl ?_
    show Steps p.tables e below (T5.setTop (mkF m 13 #[.val (.ref a), .val (.int x1), .val (.int (1 : Int32)), .val (.int (3 : Int32))] [(.int x1), (.int (1 : Int32)), (.ref a)])) _
    exact k)
  obtain ⟨cl9, Ar9, q9, S9, M9, H9, G9⟩ := id V5
  have hin9 : ¬ ((1 : Int32) < 0 ∨ cl9.slots.size ≤ ((1 : Int32)).toNatClampNeg) := inb_of S9 ⟨by decide, by decide⟩
  obtain ⟨T9, h9, X9, e9, W9, st9⟩ := stI X5 hx hZ e5 Ar9 (j := (1 : Int32)) hin9 (g := (mkF m 13 #[.val (.ref a), .val (.int x1), .val (.int (1 : Int32)), .val (.int (3 : Int32))] [(.int x1), (.int (1 : Int32)), (.ref a)])) rfl rfl (hb hby d3_13)
  have V9 : Arv Z h9 a kA .int (3 : Int32) [(.int x1), (.int x1), (.int u2)] (.int (0 : Int32)) := Arv.set Ar9 q9 S9 M9 H9 G9 rfl W9 1 rfl (Nat.le_of_ble_eq_true rfl)
  have N9 := Fr.snoc X9 N5 g_a
  have Zz9 : n0 ≤ h9.size := Nat.le_trans Zz5 (Keep.of_wr W9).1
  have pre11 : ∀ t, Steps p.tables e below (T9.setTop (mkF m 14 #[.val (.ref a), .val (.int x1), .val (.int (1 : Int32)), .val (.int (3 : Int32))] [])) t → Steps p.tables e below (s₁.setTop (entryFrame m #[(.ref a), (.int x1)] 4)) t := fun t k => pre8 t (st9 _ k)
  have Kp9 : Keep h0 h9 [a] := (Kp5).wr W9 (Or.inl (List.mem_of_getElem? (i := 0) rfl))
  have pre12 : ∀ t, Steps p.tables e below (T9.setTop (mkF m 13 #[.val (.ref a), .val (.int x1), .val (.int (2 : Int32)), .val (.int (3 : Int32))] [(.int x1), (.int (2 : Int32)), (.ref a)])) t → Steps p.tables e below (s₁.setTop (entryFrame m #[(.ref a), (.int x1)] 4)) t := fun t k => pre11 t (by
    show Steps p.tables e below (T9.setTop (mkF m 14 #[.val (.ref a), .val (.int x1), .val (.int (1 : Int32)), .val (.int (3 : Int32))] [])) _
    refine XS.iinc X9.here hx rfl (hb hby d3_14) rfl (l' := #[.val (.ref a), .val (.int x1), .val (.int (2 : Int32)), .val (.int (3 : Int32))]) rfl ?_
    show Steps p.tables e below (T9.setTop (mkF m 17 #[.val (.ref a), .val (.int x1), .val (.int (2 : Int32)), .val (.int (3 : Int32))] [])) _
    refine XS.goto X9.here hx rfl (pc0 := 17) (pc' := 5) rfl (hb hby d3_17) (by decide) (by decide) ?_
    show Steps p.tables e below (T9.setTop (mkF m 5 #[.val (.ref a), .val (.int x1), .val (.int (2 : Int32)), .val (.int (3 : Int32))] [])) _
    refine XS.iloadN X9.here hx rfl (hb hby d3_5) rfl ?_
    show Steps p.tables e below (T9.setTop (mkF m 6 #[.val (.ref a), .val (.int x1), .val (.int (2 : Int32)), .val (.int (3 : Int32))] [(.int (2 : Int32))])) _
    refine XS.iloadN X9.here hx rfl (hb hby d3_6) rfl ?_
    show Steps p.tables e below (T9.setTop (mkF m 7 #[.val (.ref a), .val (.int x1), .val (.int (2 : Int32)), .val (.int (3 : Int32))] [(.int (3 : Int32)), (.int (2 : Int32))])) _
    refine XS.icmpNo X9.here hx rfl (hb hby d3_7) rfl (tlt (by decide : (2 : Int32) < (3 : Int32))).2.1 ?_
    show Steps p.tables e below (T9.setTop (mkF m 10 #[.val (.ref a), .val (.int x1), .val (.int (2 : Int32)), .val (.int (3 : Int32))] [])) _
    refine XS.aloadN X9.here hx rfl (hb hby d3_10) rfl rfl ?_
    show Steps p.tables e below (T9.setTop (mkF m 11 #[.val (.ref a), .val (.int x1), .val (.int (2 : Int32)), .val (.int (3 : Int32))] [(.ref a)])) _
    refine XS.iloadN X9.here hx rfl (hb hby d3_11) rfl ?_
    show Steps p.tables e below (T9.setTop (mkF m 12 #[.val (.ref a), .val (.int x1), .val (.int (2 : Int32)), .val (.int (3 : Int32))] [(.int (2 : Int32)), (.ref a)])) _
    refine XS.iloadN X9.here hx rfl (hb hby d3_12) rfl ?_
    show Steps p.tables e below (T9.setTop (mkF m 13 #[.val (.ref a), .val (.int x1), .val (.int (2 : Int32)), .val (.int (3 : Int32))] [(.int x1), (.int (2 : Int32)), (.ref a)])) _
    exact k)
  obtain ⟨cl13, Ar13, q13, S13, M13, H13, G13⟩ := id V9
  have hin13 : ¬ ((2 : Int32) < 0 ∨ cl13.slots.size ≤ ((2 : Int32)).toNatClampNeg) := inb_of S13 ⟨by decide, by decide⟩
  obtain ⟨T13, h13, X13, e13, W13, st13⟩ := stI X9 hx hZ e9 Ar13 (j := (2 : Int32)) hin13 (g := (mkF m 13 #[.val (.ref a), .val (.int x1), .val (.int (2 : Int32)), .val (.int (3 : Int32))] [(.int x1), (.int (2 : Int32)), (.ref a)])) rfl rfl (hb hby d3_13)
  have V13 : Arv Z h13 a kA .int (3 : Int32) [(.int x1), (.int x1), (.int x1)] (.int (0 : Int32)) := Arv.set Ar13 q13 S13 M13 H13 G13 rfl W13 2 rfl (Nat.le_of_ble_eq_true rfl)
  have N13 := Fr.snoc X13 N9 g_a
  have Zz13 : n0 ≤ h13.size := Nat.le_trans Zz9 (Keep.of_wr W13).1
  have pre15 : ∀ t, Steps p.tables e below (T13.setTop (mkF m 14 #[.val (.ref a), .val (.int x1), .val (.int (2 : Int32)), .val (.int (3 : Int32))] [])) t → Steps p.tables e below (s₁.setTop (entryFrame m #[(.ref a), (.int x1)] 4)) t := fun t k => pre12 t (st13 _ k)
  have Kp13 : Keep h0 h13 [a] := (Kp9).wr W13 (Or.inl (List.mem_of_getElem? (i := 0) rfl))
  have pre16 : ∀ t, Steps p.tables e below (T13.setTop (mkF m 20 #[.val (.ref a), .val (.int x1), .val (.int (3 : Int32)), .val (.int (3 : Int32))] [])) t → Steps p.tables e below (s₁.setTop (entryFrame m #[(.ref a), (.int x1)] 4)) t := fun t k => pre15 t (by
    show Steps p.tables e below (T13.setTop (mkF m 14 #[.val (.ref a), .val (.int x1), .val (.int (2 : Int32)), .val (.int (3 : Int32))] [])) _
    refine XS.iinc X13.here hx rfl (hb hby d3_14) rfl (l' := #[.val (.ref a), .val (.int x1), .val (.int (3 : Int32)), .val (.int (3 : Int32))]) rfl ?_
    show Steps p.tables e below (T13.setTop (mkF m 17 #[.val (.ref a), .val (.int x1), .val (.int (3 : Int32)), .val (.int (3 : Int32))] [])) _
    refine XS.goto X13.here hx rfl (pc0 := 17) (pc' := 5) rfl (hb hby d3_17) (by decide) (by decide) ?_
    show Steps p.tables e below (T13.setTop (mkF m 5 #[.val (.ref a), .val (.int x1), .val (.int (3 : Int32)), .val (.int (3 : Int32))] [])) _
    refine XS.iloadN X13.here hx rfl (hb hby d3_5) rfl ?_
    show Steps p.tables e below (T13.setTop (mkF m 6 #[.val (.ref a), .val (.int x1), .val (.int (3 : Int32)), .val (.int (3 : Int32))] [(.int (3 : Int32))])) _
    refine XS.iloadN X13.here hx rfl (hb hby d3_6) rfl ?_
    show Steps p.tables e below (T13.setTop (mkF m 7 #[.val (.ref a), .val (.int x1), .val (.int (3 : Int32)), .val (.int (3 : Int32))] [(.int (3 : Int32)), (.int (3 : Int32))])) _
    refine XS.icmpYes X13.here hx rfl (pc0 := 7) (pc' := 20) rfl (hb hby d3_7) rfl (flt (by decide : ¬ ((3 : Int32) < (3 : Int32)))).2.1 (by decide) (by decide) ?_
    show Steps p.tables e below (T13.setTop (mkF m 20 #[.val (.ref a), .val (.int x1), .val (.int (3 : Int32)), .val (.int (3 : Int32))] [])) _
    exact k)
  obtain ⟨fs, hr, hrun, hended, hW, hsame⟩ := X13.leave (v := none) (fun _ => rfl)
  refine ⟨_, _, pre16 _ ?_, hrun, hended, _, _, rfl, ?_, ⟨_, rfl⟩, hW, hsame.mono (by decide) (by decide)⟩
  · show Steps p.tables e below (T13.setTop (mkF m 20 #[.val (.ref a), .val (.int x1), .val (.int (3 : Int32)), .val (.int (3 : Int32))] [])) _
    exact X13.returnOut hx Bd.returns (hb hby d3_20) hr
  · show Q3 Z a x1 kA u0 u1 u2 h0 n0 _ T13.heap _
    rw [e13]
    exact ⟨rfl, N13, Kp13, V13⟩
theorem pd_0 : parseMethodDescriptor "([II)V" = some ⟨[(.array .int), .int], none⟩ := by decide +kernel
theorem pn_1 : plainName "com/example/clocks_to_automata/clockstoautomata/semantics/Assignment" = true := by first | (simp [plainName, overriddenIn]; done) | decide +kernel
theorem d1_0 : decode prog_62_method_1_code 0 = .ok (.aload_n 0, 1) := by decide +kernel
theorem d1_1 : decode prog_62_method_1_code 1 = .ok (.invokespecial 1, 3) := by decide +kernel
theorem d1_4 : decode prog_62_method_1_code 4 = .ok (.aload_n 0, 1) := by decide +kernel
theorem d1_5 : decode prog_62_method_1_code 5 = .ok (.iload_n 1, 1) := by decide +kernel
theorem d1_6 : decode prog_62_method_1_code 6 = .ok (.newarray .int, 2) := by decide +kernel
theorem d1_8 : decode prog_62_method_1_code 8 = .ok (.putfield 7, 3) := by decide +kernel
theorem d1_11 : decode prog_62_method_1_code 11 = .ok (.aload_n 0, 1) := by decide +kernel
theorem d1_12 : decode prog_62_method_1_code 12 = .ok (.getfield 7, 3) := by decide +kernel
theorem d1_15 : decode prog_62_method_1_code 15 = .ok (.iconst (-1), 1) := by decide +kernel
theorem d1_16 : decode prog_62_method_1_code 16 = .ok (.invokestatic 13, 3) := by decide +kernel
theorem d1_19 : decode prog_62_method_1_code 19 = .ok (.aload_n 0, 1) := by decide +kernel
theorem d1_20 : decode prog_62_method_1_code 20 = .ok (.iload_n 1, 1) := by decide +kernel
theorem d1_21 : decode prog_62_method_1_code 21 = .ok (.newarray .int, 2) := by decide +kernel
theorem d1_23 : decode prog_62_method_1_code 23 = .ok (.putfield 19, 3) := by decide +kernel
theorem d1_26 : decode prog_62_method_1_code 26 = .ok (.return_, 1) := by decide +kernel
theorem ef_1 (m : MethodId) (x0 : Addr) (x1 : Int32) : entryFrame m #[(.ref x0), (.int x1)] 2 = mkF m 0 #[.val (.ref x0), .val (.int x1)] [] := by first | (simp [entryFrame, mkF, argsToLocals, Value.category]; done) | rfl
def Q1 (Z : State) (a : Addr) (h0 : Heap) (n0 : Nat) (v : Option Value) (h : Heap) (L : List Loc) : Prop := ∃ bv : Addr, ∃ bt : Addr, ∃ kv : ClassId, ∃ kt : ClassId, v = none ∧ Fr n0 L ∧ Keep h0 h [a] ∧ Exa Z h a "com/example/clocks_to_automata/clockstoautomata/semantics/Assignment" ∧ Fld Z h a "com/example/clocks_to_automata/clockstoautomata/semantics/Assignment" "values" "[I" (.ref bv) ∧ Fld Z h a "com/example/clocks_to_automata/clockstoautomata/semantics/Assignment" "trail" "[I" (.ref bt) ∧ Fld Z h a "com/example/clocks_to_automata/clockstoautomata/semantics/Assignment" "trailSize" "I" (.int (0 : Int32)) ∧ Arv Z h bv kv .int (3 : Int32) [(.int (-1 : Int32)), (.int (-1 : Int32)), (.int (-1 : Int32))] (.int (0 : Int32)) ∧ Arv Z h bt kt .int (3 : Int32) [(.int (0 : Int32)), (.int (0 : Int32)), (.int (0 : Int32))] (.int (0 : Int32)) ∧ n0 ≤ bv ∧ n0 ≤ bt ∧ a ≠ bv ∧ a ≠ bt ∧ bv ≠ bt
set_option maxRecDepth 65536 in
set_option maxHeartbeats 40000000 in
theorem rm1 (l : Launch) (Z : State) (a0 : Array Value) (hw : ∀ d ∈ tables_1, d.before a0 Z = true) (ws : List Jvm.Cond) (a : Addr) (h0 : Heap) (n0 : Nat) (Z0 : n0 ≤ h0.size) (fa0 : Exa Z h0 a "com/example/clocks_to_automata/clockstoautomata/semantics/Assignment") (fa1 : Fld Z h0 a "com/example/clocks_to_automata/clockstoautomata/semantics/Assignment" "values" "[I" .null) (fa2 : Fld Z h0 a "com/example/clocks_to_automata/clockstoautomata/semantics/Assignment" "trail" "[I" .null) (fa3 : Fld Z h0 a "com/example/clocks_to_automata/clockstoautomata/semantics/Assignment" "trailSize" "I" (.int (0 : Int32))) (g_a : n0 ≤ a) :
    MetFree l (⟨"com/example/clocks_to_automata/clockstoautomata/semantics/Assignment", "<init>", "(I)V"⟩ : MethodName) (head1 (Jvm.Cond.code (⟨"com/example/clocks_to_automata/clockstoautomata/semantics/Assignment", "<init>", "(I)V"⟩ : MethodName) prog_62_method_1_code 2 none :: ws) ({ frames := 1, cells := 2, slots := 6, locals := 15 } : Room)) (fun aa U => aa = #[(.ref a), (.int (3 : Int32))] ∧ Z.Warmed39 U.vm ∧ U.heap = h0) (fun _ _ _ _ _ => True) (fun _ U o U' => ∃ v L, o = .returned v ∧ Q1 Z a h0 n0 v U'.heap L ∧ FrameEnd U o U' L ({ frames := 1, cells := 2, slots := 6, locals := 15 } : Room).cells ({ frames := 1, cells := 2, slots := 6, locals := 15 } : Room).slots) := by
  refine MetFree.of_bodySF (plainFor_of_name pn_1) hisR ?_
  intro p e s m args below meth c s₁ Bd hml0 hP hK
  obtain ⟨rfl, hZ, hh⟩ := hP
  have hx := Bd.exec
  have hby := Bd.bytes
  have hml : c.maxLocals = 2 := hml0
  have hown : s.vm.findClass "com/example/clocks_to_automata/clockstoautomata/semantics/Assignment" = some m.cls := findClass_of_methodNamed Bd.named
  have hnm := (name_of_methodNamed Bd.named Bd.method).1
  have X0 : Stand p l e ({ frames := 1, cells := 2, slots := 6, locals := 15 } : Room) s m #[(.ref a), (.int (3 : Int32))] below meth c s₁ [] 0 0 := Stand.of_body Bd
  have e0 : s₁.heap = h0 := by rw [← hh, Bd.state]; rfl
  have N0 := Fr.nil n0
  have pre0 : ∀ t, Steps p.tables e below (s₁.setTop (mkF m 0 #[.val (.ref a), .val (.int (3 : Int32))] [])) t → Steps p.tables e below (s₁.setTop (entryFrame m #[(.ref a), (.int (3 : Int32))] 2)) t := fun t k => castTop (ef_1 m a (3 : Int32)) k
  have pre1 : ∀ t, Steps p.tables e below (s₁.setTop (mkF m 1 #[.val (.ref a), .val (.int (3 : Int32))] [(.ref a)])) t → Steps p.tables e below (s₁.setTop (entryFrame m #[(.ref a), (.int (3 : Int32))] 2)) t := fun t k => pre0 t (by
    show Steps p.tables e below (s₁.setTop (mkF m 0 #[.val (.ref a), .val (.int (3 : Int32))] [])) _
    refine XS.aloadN X0.here hx rfl (hb hby d1_0) rfl rfl ?_
    show Steps p.tables e below (s₁.setTop (mkF m 1 #[.val (.ref a), .val (.int (3 : Int32))] [(.ref a)])) _
    exact k)
  obtain ⟨T2, X2, e2, st2⟩ := initO X0 hx hZ hown (hw _ (List.mem_of_getElem? (i := 7) rfl)) (hw _ (List.mem_of_getElem? (i := 8) rfl)) (hw _ (List.mem_of_getElem? (i := 9) rfl)) e0 (g := (mkF m 1 #[.val (.ref a), .val (.int (3 : Int32))] [(.ref a)])) rfl (by rw [hml]; rfl) rfl (hb hby d1_1) (by decide) (W := 0) (by show 2 * 0 + _ ≤ _; exact Nat.le_of_eq rfl) (by decide)
  have pre3 : ∀ t, Steps p.tables e below (T2.setTop (mkF m 4 #[.val (.ref a), .val (.int (3 : Int32))] [])) t → Steps p.tables e below (s₁.setTop (entryFrame m #[(.ref a), (.int (3 : Int32))] 2)) t := fun t k => pre1 t (st2 _ k)
  have pre4 : ∀ t, Steps p.tables e below (T2.setTop (mkF m 6 #[.val (.ref a), .val (.int (3 : Int32))] [(.int (3 : Int32)), (.ref a)])) t → Steps p.tables e below (s₁.setTop (entryFrame m #[(.ref a), (.int (3 : Int32))] 2)) t := fun t k => pre3 t (by
    show Steps p.tables e below (T2.setTop (mkF m 4 #[.val (.ref a), .val (.int (3 : Int32))] [])) _
    refine XS.aloadN X2.here hx rfl (hb hby d1_4) rfl rfl ?_
    show Steps p.tables e below (T2.setTop (mkF m 5 #[.val (.ref a), .val (.int (3 : Int32))] [(.ref a)])) _
    refine XS.iloadN X2.here hx rfl (hb hby d1_5) rfl ?_
    show Steps p.tables e below (T2.setTop (mkF m 6 #[.val (.ref a), .val (.int (3 : Int32))] [(.int (3 : Int32)), (.ref a)])) _
    exact k)
  obtain ⟨T5, h5, k5, X5, e5, E5, A5, st5⟩ := newP X2 hx hZ (hw _ (List.mem_of_getElem? (i := 10) rfl)) e2 (g := (mkF m 6 #[.val (.ref a), .val (.int (3 : Int32))] [(.int (3 : Int32)), (.ref a)])) rfl (hb hby d1_6) rfl (by decide) (cap := 3) (by decide) (by decide) (by decide) (by decide)
  obtain ⟨b5, g5⟩ : ∃ z, z = h0.size := ⟨_, rfl⟩
  rw [← g5] at A5 st5
  have sz_b5 : h0.size ≤ b5 := Nat.le_trans ((Keep.refl h0 [a])).1 (Nat.le_of_eq g5.symm)
  have ne_a_b5 : a ≠ b5 := Nat.ne_of_lt (Nat.lt_of_lt_of_le (fa0).lt (Nat.le_of_eq g5.symm))
  have g_b5 : n0 ≤ b5 := Nat.le_trans Z0 (Nat.le_of_eq g5.symm)
  have c6 := (fa0).ext E5
  have c7 := (fa1).ext E5
  have c8 := (fa2).ext E5
  have c9 := (fa3).ext E5
  have Zz5 : n0 ≤ h5.size := Nat.le_trans Z0 E5.1
  have V_b5 : Arv Z h5 b5 k5 .int (3 : Int32) [(.int (0 : Int32)), (.int (0 : Int32)), (.int (0 : Int32))] (.int (0 : Int32)) := (Arv.new A5 (by decide)).pad (pad_rep [] (.int (0 : Int32)) 3)
  have pre10 : ∀ t, Steps p.tables e below (T5.setTop (mkF m 8 #[.val (.ref a), .val (.int (3 : Int32))] [(.ref b5), (.ref a)])) t → Steps p.tables e below (s₁.setTop (entryFrame m #[(.ref a), (.int (3 : Int32))] 2)) t := fun t k => pre4 t (st5 _ k)
  have Ke5 : Keep h0 h5 [a] := ((Keep.refl h0 [a])).ext E5
  obtain ⟨T11, h11, X11, e11, W11, st11⟩ := putF X5 hx hZ hown (host := "") (Or.inl (hw _ (List.mem_of_getElem? (i := 11) rfl))) Via.refl e5 c7 c6 (Or.inr ⟨(hw _ (List.mem_of_getElem? (i := 12) rfl)), rfl, hnm⟩) (hw _ (List.mem_of_getElem? (i := 2) rfl)) (ty := (.array .int)) (by decide) rfl rfl (g := (mkF m 8 #[.val (.ref a), .val (.int (3 : Int32))] [(.ref b5), (.ref a)])) rfl rfl (hb hby d1_8)
  have Fw11 : Fld Z h11 a "com/example/clocks_to_automata/clockstoautomata/semantics/Assignment" "values" "[I" (.ref b5) := (c7).same W11
  have c12 := (c6).wr W11
  have c14 := (c8).other W11 (Or.inr (slot_ne (Or.inr (hw _ (List.mem_of_getElem? (i := 18) rfl))) (Or.inr (hw _ (List.mem_of_getElem? (i := 12) rfl))) (by decide) (t := (.array .int)) (t' := (.array .int)) (by decide) (by decide)))
  have c15 := (c9).other W11 (Or.inr (slot_ne (Or.inl (hw _ (List.mem_of_getElem? (i := 25) rfl))) (Or.inr (hw _ (List.mem_of_getElem? (i := 12) rfl))) (by decide) (t := .int) (t' := (.array .int)) (by decide) (by decide)))
  have c16 := (V_b5).other W11 (Ne.symm ne_a_b5)
  have N11 := Fr.snoc X11 N0 g_a
  have Zz11 : n0 ≤ h11.size := Nat.le_trans Zz5 (Keep.of_wr W11).1
  have pre17 : ∀ t, Steps p.tables e below (T11.setTop (mkF m 11 #[.val (.ref a), .val (.int (3 : Int32))] [])) t → Steps p.tables e below (s₁.setTop (entryFrame m #[(.ref a), (.int (3 : Int32))] 2)) t := fun t k => pre10 t (st11 _ k)
  have Kp11 : Keep h0 h11 [a] := (Ke5).wr W11 (Or.inl (List.mem_of_getElem? (i := 0) rfl))
  have pre18 : ∀ t, Steps p.tables e below (T11.setTop (mkF m 12 #[.val (.ref a), .val (.int (3 : Int32))] [(.ref a)])) t → Steps p.tables e below (s₁.setTop (entryFrame m #[(.ref a), (.int (3 : Int32))] 2)) t := fun t k => pre17 t (by
    show Steps p.tables e below (T11.setTop (mkF m 11 #[.val (.ref a), .val (.int (3 : Int32))] [])) _
    refine XS.aloadN X11.here hx rfl (hb hby d1_11) rfl rfl ?_
    show Steps p.tables e below (T11.setTop (mkF m 12 #[.val (.ref a), .val (.int (3 : Int32))] [(.ref a)])) _
    exact k)
  obtain ⟨T19, X19, e19, st19⟩ := getF X11 hx hZ hown (host := "") (Or.inl (hw _ (List.mem_of_getElem? (i := 11) rfl))) Via.refl e11 Fw11 (g := (mkF m 12 #[.val (.ref a), .val (.int (3 : Int32))] [(.ref a)])) rfl rfl (hb hby d1_12)
  have pre20 : ∀ t, Steps p.tables e below (T19.setTop (mkF m 15 #[.val (.ref a), .val (.int (3 : Int32))] [(.ref b5)])) t → Steps p.tables e below (s₁.setTop (entryFrame m #[(.ref a), (.int (3 : Int32))] 2)) t := fun t k => pre18 t (st19 _ k)
  have pre21 : ∀ t, Steps p.tables e below (T19.setTop (mkF m 16 #[.val (.ref a), .val (.int (3 : Int32))] [(.int (-1 : Int32)), (.ref b5)])) t → Steps p.tables e below (s₁.setTop (entryFrame m #[(.ref a), (.int (3 : Int32))] 2)) t := fun t k => pre20 t (by
    show Steps p.tables e below (T19.setTop (mkF m 15 #[.val (.ref a), .val (.int (3 : Int32))] [(.ref b5)])) _
    refine XS.iconst X19.here hx rfl (hb hby d1_15) ?_
    show Steps p.tables e below (T19.setTop (mkF m 16 #[.val (.ref a), .val (.int (3 : Int32))] [(.int (-1 : Int32)), (.ref b5)])) _
    exact k)
  obtain ⟨_, _, ⟨T23, L23, k23, n23⟩, -, X23, ⟨Lc23, hQ23, l23, y23, z23⟩, st23⟩ := Jvm.LawKit.callS X19 hx (y := (⟨"java/util/Arrays", "fill", "([II)V"⟩ : MethodName)) hown (mvT hZ (hw _ (List.mem_of_getElem? (i := 13) rfl))) (mvT hZ (hw _ (List.mem_of_getElem? (i := 14) rfl))) (mvT hZ (hw _ (List.mem_of_getElem? (i := 15) rfl))) (mvT hZ (hw _ (List.mem_of_getElem? (i := 16) rfl))) (by decide) (backOf (W := 0) (rm3 l Z a0 hw [] b5 (-1 : Int32) k5 (0 : Int32) (0 : Int32) (0 : Int32) h11 n0 Zz11 c16 g_b5) hZ (hw _ (List.mem_of_getElem? (i := 16) rfl)) (hw _ (List.mem_of_getElem? (i := 15) rfl)) (by decide) (by decide)) (g := (mkF m 16 #[.val (.ref a), .val (.int (3 : Int32))] [(.int (-1 : Int32)), (.ref b5)])) rfl (by rw [hml]; rfl) (argsL := [(.ref b5), (.int (-1 : Int32))]) (rest := []) (lenOf pd_0 rfl) rfl (by show 2 * 0 + _ ≤ _; exact Nat.le_of_eq rfl) (hb hby d1_16) (fun _ _ => ⟨rfl, e19, (by decide : 1 + 0 ≤ _), (by decide : 3 + 0 ≤ _)⟩)
  dsimp only [Pt.U, Pt.locs, Pt.cells, Pt.slots] at X23 l23 y23 z23 st23 hQ23
  subst l23 y23 z23
  obtain ⟨rfl, N23q, K23, o23_0⟩ := hQ23
  have N23 := Fr.app N11 N23q
  have pre24 : ∀ t, Steps p.tables e below (T23.setTop (mkF m 19 #[.val (.ref a), .val (.int (3 : Int32))] [])) t → Steps p.tables e below (s₁.setTop (entryFrame m #[(.ref a), (.int (3 : Int32))] 2)) t := fun t k => pre21 t (st23 _ k)
  have Zz23 : n0 ≤ T23.heap.size := Nat.le_trans Zz11 K23.1
  have c25 := (c12).keep K23
  have c26 := (c14).keep K23 (ninS ne_a_b5 (nin0))
  have c27 := (c15).keep K23 (ninS ne_a_b5 (nin0))
  have c29 := (Fw11).keep K23 (ninS ne_a_b5 (nin0))
  have K23k : Keep h0 T23.heap [a] := (Kp11).trans K23 (allS (Or.inr sz_b5) (all0))
  have pre30 : ∀ t, Steps p.tables e below (T23.setTop (mkF m 21 #[.val (.ref a), .val (.int (3 : Int32))] [(.int (3 : Int32)), (.ref a)])) t → Steps p.tables e below (s₁.setTop (entryFrame m #[(.ref a), (.int (3 : Int32))] 2)) t := fun t k => pre24 t (by
    show Steps p.tables e below (T23.setTop (mkF m 19 #[.val (.ref a), .val (.int (3 : Int32))] [])) _
    refine XS.aloadN X23.here hx rfl (hb hby d1_19) rfl rfl ?_
    show Steps p.tables e below (T23.setTop (mkF m 20 #[.val (.ref a), .val (.int (3 : Int32))] [(.ref a)])) _
    refine XS.iloadN X23.here hx rfl (hb hby d1_20) rfl ?_
    show Steps p.tables e below (T23.setTop (mkF m 21 #[.val (.ref a), .val (.int (3 : Int32))] [(.int (3 : Int32)), (.ref a)])) _
    exact k)
  obtain ⟨T31, h31, k31, X31, e31, E31, A31, st31⟩ := newP X23 hx hZ (hw _ (List.mem_of_getElem? (i := 10) rfl)) rfl (g := (mkF m 21 #[.val (.ref a), .val (.int (3 : Int32))] [(.int (3 : Int32)), (.ref a)])) rfl (hb hby d1_21) rfl (by decide) (cap := 3) (by decide) (by decide) (by decide) (by decide)
  obtain ⟨b31, g31⟩ : ∃ z, z = T23.heap.size := ⟨_, rfl⟩
  rw [← g31] at A31 st31
  have sz_b31 : h0.size ≤ b31 := Nat.le_trans (K23k).1 (Nat.le_of_eq g31.symm)
  have ne_a_b31 : a ≠ b31 := Nat.ne_of_lt (Nat.lt_of_lt_of_le (c25).lt (Nat.le_of_eq g31.symm))
  have ne_b5_b31 : b5 ≠ b31 := Nat.ne_of_lt (Nat.lt_of_lt_of_le (o23_0).lt (Nat.le_of_eq g31.symm))
  have g_b31 : n0 ≤ b31 := Nat.le_trans Zz23 (Nat.le_of_eq g31.symm)
  have c32 := (c25).ext E31
  have c33 := (c26).ext E31
  have c34 := (c27).ext E31
  have c35 := (c29).ext E31
  have c36 := (o23_0).ext E31
  have Zz31 : n0 ≤ h31.size := Nat.le_trans Zz23 E31.1
  have V_b31 : Arv Z h31 b31 k31 .int (3 : Int32) [(.int (0 : Int32)), (.int (0 : Int32)), (.int (0 : Int32))] (.int (0 : Int32)) := (Arv.new A31 (by decide)).pad (pad_rep [] (.int (0 : Int32)) 3)
  have pre37 : ∀ t, Steps p.tables e below (T31.setTop (mkF m 23 #[.val (.ref a), .val (.int (3 : Int32))] [(.ref b31), (.ref a)])) t → Steps p.tables e below (s₁.setTop (entryFrame m #[(.ref a), (.int (3 : Int32))] 2)) t := fun t k => pre30 t (st31 _ k)
  have Ke31 : Keep h0 h31 [a] := (K23k).ext E31
  obtain ⟨T38, h38, X38, e38, W38, st38⟩ := putF X31 hx hZ hown (host := "") (Or.inl (hw _ (List.mem_of_getElem? (i := 17) rfl))) Via.refl e31 c33 c32 (Or.inr ⟨(hw _ (List.mem_of_getElem? (i := 18) rfl)), rfl, hnm⟩) (hw _ (List.mem_of_getElem? (i := 2) rfl)) (ty := (.array .int)) (by decide) rfl rfl (g := (mkF m 23 #[.val (.ref a), .val (.int (3 : Int32))] [(.ref b31), (.ref a)])) rfl rfl (hb hby d1_23)
  have Fw38 : Fld Z h38 a "com/example/clocks_to_automata/clockstoautomata/semantics/Assignment" "trail" "[I" (.ref b31) := (c33).same W38
  have c39 := (c32).wr W38
  have c41 := (c34).other W38 (Or.inr (slot_ne (Or.inl (hw _ (List.mem_of_getElem? (i := 25) rfl))) (Or.inr (hw _ (List.mem_of_getElem? (i := 18) rfl))) (by decide) (t := .int) (t' := (.array .int)) (by decide) (by decide)))
  have c42 := (c35).other W38 (Or.inr (slot_ne (Or.inr (hw _ (List.mem_of_getElem? (i := 12) rfl))) (Or.inr (hw _ (List.mem_of_getElem? (i := 18) rfl))) (by decide) (t := (.array .int)) (t' := (.array .int)) (by decide) (by decide)))
  have c43 := (c36).other W38 (Ne.symm ne_a_b5)
  have c44 := (V_b31).other W38 (Ne.symm ne_a_b31)
  have N38 := Fr.snoc X38 N23 g_a
  have Zz38 : n0 ≤ h38.size := Nat.le_trans Zz31 (Keep.of_wr W38).1
  have pre45 : ∀ t, Steps p.tables e below (T38.setTop (mkF m 26 #[.val (.ref a), .val (.int (3 : Int32))] [])) t → Steps p.tables e below (s₁.setTop (entryFrame m #[(.ref a), (.int (3 : Int32))] 2)) t := fun t k => pre37 t (st38 _ k)
  have Kp38 : Keep h0 h38 [a] := (Ke31).wr W38 (Or.inl (List.mem_of_getElem? (i := 0) rfl))
  obtain ⟨fs, hr, hrun, hended, hW, hsame⟩ := X38.leave (v := none) (fun _ => rfl)
  refine ⟨_, _, pre45 _ ?_, hrun, hended, _, _, rfl, ?_, ⟨_, rfl⟩, hW, hsame.mono (by decide) (by decide)⟩
  · show Steps p.tables e below (T38.setTop (mkF m 26 #[.val (.ref a), .val (.int (3 : Int32))] [])) _
    exact X38.returnOut hx Bd.returns (hb hby d1_26) hr
  · show Q1 Z a h0 n0 _ T38.heap _
    rw [e38]
    exact ⟨b5, b31, k5, k31, rfl, N38, Kp38, c39, c42, Fw38, c41, c43, c44, g_b5, g_b31, ne_a_b5, ne_a_b31, ne_b5_b31⟩
def F4 (x1 : Int32) (x2 : Int32) (un : Int32) (u0 : Int32) (u1 : Int32) (u2 : Int32) (t0 : Int32) (t1 : Int32) (t2 : Int32) : Int32 := (nar .boolean (if (own_el3 x1 (if (own_el3 x1 u0 u1 u2) = (-1 : Int32) then (if x1 = (0 : Int32) then x2 else u0) else u0) (if (own_el3 x1 u0 u1 u2) = (-1 : Int32) then (if x1 = (1 : Int32) then x2 else u1) else u1) (if (own_el3 x1 u0 u1 u2) = (-1 : Int32) then (if x1 = (2 : Int32) then x2 else u2) else u2)) = x2 then (1 : Int32) else (0 : Int32)))
theorem d4_0 : decode prog_62_method_7_code 0 = .ok (.aload_n 0, 1) := by decide +kernel
theorem d4_1 : decode prog_62_method_7_code 1 = .ok (.getfield 7, 3) := by decide +kernel
theorem d4_4 : decode prog_62_method_7_code 4 = .ok (.iload_n 1, 1) := by decide +kernel
theorem d4_5 : decode prog_62_method_7_code 5 = .ok (.iaload, 1) := by decide +kernel
theorem d4_6 : decode prog_62_method_7_code 6 = .ok (.iconst (-1), 1) := by decide +kernel
theorem d4_7 : decode prog_62_method_7_code 7 = .ok (.if_icmp .ne 27, 3) := by decide +kernel
theorem d4_10 : decode prog_62_method_7_code 10 = .ok (.aload_n 0, 1) := by decide +kernel
theorem d4_11 : decode prog_62_method_7_code 11 = .ok (.getfield 7, 3) := by decide +kernel
theorem d4_14 : decode prog_62_method_7_code 14 = .ok (.iload_n 1, 1) := by decide +kernel
theorem d4_15 : decode prog_62_method_7_code 15 = .ok (.iload_n 2, 1) := by decide +kernel
theorem d4_16 : decode prog_62_method_7_code 16 = .ok (.iastore, 1) := by decide +kernel
theorem d4_17 : decode prog_62_method_7_code 17 = .ok (.aload_n 0, 1) := by decide +kernel
theorem d4_18 : decode prog_62_method_7_code 18 = .ok (.getfield 19, 3) := by decide +kernel
theorem d4_21 : decode prog_62_method_7_code 21 = .ok (.aload_n 0, 1) := by decide +kernel
theorem d4_22 : decode prog_62_method_7_code 22 = .ok (.dup, 1) := by decide +kernel
theorem d4_23 : decode prog_62_method_7_code 23 = .ok (.getfield 22, 3) := by decide +kernel
theorem d4_26 : decode prog_62_method_7_code 26 = .ok (.dup_x1, 1) := by decide +kernel
theorem d4_27 : decode prog_62_method_7_code 27 = .ok (.iconst 1, 1) := by decide +kernel
theorem d4_28 : decode prog_62_method_7_code 28 = .ok (.iadd, 1) := by decide +kernel
theorem d4_29 : decode prog_62_method_7_code 29 = .ok (.putfield 22, 3) := by decide +kernel
theorem d4_32 : decode prog_62_method_7_code 32 = .ok (.iload_n 1, 1) := by decide +kernel
theorem d4_33 : decode prog_62_method_7_code 33 = .ok (.iastore, 1) := by decide +kernel
theorem d4_34 : decode prog_62_method_7_code 34 = .ok (.aload_n 0, 1) := by decide +kernel
theorem d4_35 : decode prog_62_method_7_code 35 = .ok (.getfield 7, 3) := by decide +kernel
theorem d4_38 : decode prog_62_method_7_code 38 = .ok (.iload_n 1, 1) := by decide +kernel
theorem d4_39 : decode prog_62_method_7_code 39 = .ok (.iaload, 1) := by decide +kernel
theorem d4_40 : decode prog_62_method_7_code 40 = .ok (.iload_n 2, 1) := by decide +kernel
theorem d4_41 : decode prog_62_method_7_code 41 = .ok (.if_icmp .ne 7, 3) := by decide +kernel
theorem d4_44 : decode prog_62_method_7_code 44 = .ok (.iconst 1, 1) := by decide +kernel
theorem d4_45 : decode prog_62_method_7_code 45 = .ok (.goto 4, 3) := by decide +kernel
theorem d4_48 : decode prog_62_method_7_code 48 = .ok (.iconst 0, 1) := by decide +kernel
theorem d4_49 : decode prog_62_method_7_code 49 = .ok (.ireturn, 1) := by decide +kernel
theorem ef_4 (m : MethodId) (x0 : Addr) (x1 : Int32) (x2 : Int32) : entryFrame m #[(.ref x0), (.int x1), (.int x2)] 3 = mkF m 0 #[.val (.ref x0), .val (.int x1), .val (.int x2)] [] := by first | (simp [entryFrame, mkF, argsToLocals, Value.category]; done) | rfl
def Q4 (Z : State) (a : Addr) (x1 : Int32) (x2 : Int32) (bv : Addr) (bt : Addr) (kv : ClassId) (kt : ClassId) (un : Int32) (u0 : Int32) (u1 : Int32) (u2 : Int32) (t0 : Int32) (t1 : Int32) (t2 : Int32) (h0 : Heap) (n0 : Nat) (v : Option Value) (h : Heap) (L : List Loc) : Prop := ∃ z : Int32, v = some (.int z) ∧ Fr n0 L ∧ Keep h0 h [a, bv, bt] ∧ Exa Z h a "com/example/clocks_to_automata/clockstoautomata/semantics/Assignment" ∧ Fld Z h a "com/example/clocks_to_automata/clockstoautomata/semantics/Assignment" "values" "[I" (.ref bv) ∧ Fld Z h a "com/example/clocks_to_automata/clockstoautomata/semantics/Assignment" "trail" "[I" (.ref bt) ∧ Fld Z h a "com/example/clocks_to_automata/clockstoautomata/semantics/Assignment" "trailSize" "I" (.int (if (own_el3 x1 u0 u1 u2) = (-1 : Int32) then (un + (1 : Int32)) else un)) ∧ Arv Z h bv kv .int (3 : Int32) [(.int (if (own_el3 x1 u0 u1 u2) = (-1 : Int32) then (if x1 = (0 : Int32) then x2 else u0) else u0)), (.int (if (own_el3 x1 u0 u1 u2) = (-1 : Int32) then (if x1 = (1 : Int32) then x2 else u1) else u1)), (.int (if (own_el3 x1 u0 u1 u2) = (-1 : Int32) then (if x1 = (2 : Int32) then x2 else u2) else u2))] (.int (0 : Int32)) ∧ Arv Z h bt kt .int (3 : Int32) [(.int (if (own_el3 x1 u0 u1 u2) = (-1 : Int32) then (if un = (0 : Int32) then x1 else t0) else t0)), (.int (if (own_el3 x1 u0 u1 u2) = (-1 : Int32) then (if un = (1 : Int32) then x1 else t1) else t1)), (.int (if (own_el3 x1 u0 u1 u2) = (-1 : Int32) then (if un = (2 : Int32) then x1 else t2) else t2))] (.int (0 : Int32)) ∧ z = F4 x1 x2 un u0 u1 u2 t0 t1 t2
set_option maxRecDepth 65536 in
set_option maxHeartbeats 40000000 in
theorem rm4 (l : Launch) (Z : State) (a0 : Array Value) (hw : ∀ d ∈ tables_1, d.before a0 Z = true) (ws : List Jvm.Cond) (a : Addr) (x1 : Int32) (x2 : Int32) (bv : Addr) (bt : Addr) (kv : ClassId) (kt : ClassId) (un : Int32) (u0 : Int32) (u1 : Int32) (u2 : Int32) (t0 : Int32) (t1 : Int32) (t2 : Int32) (h0 : Heap) (n0 : Nat) (Z0 : n0 ≤ h0.size) (fa0 : Exa Z h0 a "com/example/clocks_to_automata/clockstoautomata/semantics/Assignment") (fa1 : Fld Z h0 a "com/example/clocks_to_automata/clockstoautomata/semantics/Assignment" "values" "[I" (.ref bv)) (fa2 : Fld Z h0 a "com/example/clocks_to_automata/clockstoautomata/semantics/Assignment" "trail" "[I" (.ref bt)) (fa3 : Fld Z h0 a "com/example/clocks_to_automata/clockstoautomata/semantics/Assignment" "trailSize" "I" (.int un)) (fa4 : Arv Z h0 bv kv .int (3 : Int32) [(.int u0), (.int u1), (.int u2)] (.int (0 : Int32))) (fa5 : Arv Z h0 bt kt .int (3 : Int32) [(.int t0), (.int t1), (.int t2)] (.int (0 : Int32))) (g_a : n0 ≤ a) (g_bv : n0 ≤ bv) (g_bt : n0 ≤ bt) (ne_a_bv : a ≠ bv) (ne_a_bt : a ≠ bt) (ne_bv_bt : bv ≠ bt) (qx1 : x1 = (0 : Int32) ∨ x1 = (1 : Int32) ∨ x1 = (2 : Int32)) (qn : un = (0 : Int32) ∨ un = (1 : Int32) ∨ un = (2 : Int32)) :
    MetFree l (⟨"com/example/clocks_to_automata/clockstoautomata/semantics/Assignment", "force", "(II)Z"⟩ : MethodName) (head1 (Jvm.Cond.code (⟨"com/example/clocks_to_automata/clockstoautomata/semantics/Assignment", "force", "(II)Z"⟩ : MethodName) prog_62_method_7_code 3 (some .boolean) :: ws) ({ frames := 0, cells := 0, slots := 0, locals := 0 } : Room)) (fun aa U => aa = #[(.ref a), (.int x1), (.int x2)] ∧ Z.Warmed39 U.vm ∧ U.heap = h0) (fun _ _ _ _ _ => True) (fun _ U o U' => ∃ v L, o = .returned v ∧ Q4 Z a x1 x2 bv bt kv kt un u0 u1 u2 t0 t1 t2 h0 n0 v U'.heap L ∧ FrameEnd U o U' L ({ frames := 0, cells := 0, slots := 0, locals := 0 } : Room).cells ({ frames := 0, cells := 0, slots := 0, locals := 0 } : Room).slots) := by
  refine MetFree.of_bodySF (plainFor_of_name pn_1) hisR ?_
  intro p e s m args below meth c s₁ Bd hml0 hP hK
  obtain ⟨rfl, hZ, hh⟩ := hP
  have hx := Bd.exec
  have hby := Bd.bytes
  have hml : c.maxLocals = 3 := hml0
  have hown : s.vm.findClass "com/example/clocks_to_automata/clockstoautomata/semantics/Assignment" = some m.cls := findClass_of_methodNamed Bd.named
  have hnm := (name_of_methodNamed Bd.named Bd.method).1
  have X0 : Stand p l e ({ frames := 0, cells := 0, slots := 0, locals := 0 } : Room) s m #[(.ref a), (.int x1), (.int x2)] below meth c s₁ [] 0 0 := Stand.of_body Bd
  have e0 : s₁.heap = h0 := by rw [← hh, Bd.state]; rfl
  have N0 := Fr.nil n0
  have pre0 : ∀ t, Steps p.tables e below (s₁.setTop (mkF m 0 #[.val (.ref a), .val (.int x1), .val (.int x2)] [])) t → Steps p.tables e below (s₁.setTop (entryFrame m #[(.ref a), (.int x1), (.int x2)] 3)) t := fun t k => castTop (ef_4 m a x1 x2) k
  have pre1 : ∀ t, Steps p.tables e below (s₁.setTop (mkF m 1 #[.val (.ref a), .val (.int x1), .val (.int x2)] [(.ref a)])) t → Steps p.tables e below (s₁.setTop (entryFrame m #[(.ref a), (.int x1), (.int x2)] 3)) t := fun t k => pre0 t (by
    show Steps p.tables e below (s₁.setTop (mkF m 0 #[.val (.ref a), .val (.int x1), .val (.int x2)] [])) _
    refine XS.aloadN X0.here hx rfl (hb hby d4_0) rfl rfl ?_
    show Steps p.tables e below (s₁.setTop (mkF m 1 #[.val (.ref a), .val (.int x1), .val (.int x2)] [(.ref a)])) _
    exact k)
  obtain ⟨T2, X2, e2, st2⟩ := getF X0 hx hZ hown (host := "") (Or.inl (hw _ (List.mem_of_getElem? (i := 11) rfl))) Via.refl e0 fa1 (g := (mkF m 1 #[.val (.ref a), .val (.int x1), .val (.int x2)] [(.ref a)])) rfl rfl (hb hby d4_1)
  have pre3 : ∀ t, Steps p.tables e below (T2.setTop (mkF m 4 #[.val (.ref a), .val (.int x1), .val (.int x2)] [(.ref bv)])) t → Steps p.tables e below (s₁.setTop (entryFrame m #[(.ref a), (.int x1), (.int x2)] 3)) t := fun t k => pre1 t (st2 _ k)
  have pre4 : ∀ t, Steps p.tables e below (T2.setTop (mkF m 5 #[.val (.ref a), .val (.int x1), .val (.int x2)] [(.int x1), (.ref bv)])) t → Steps p.tables e below (s₁.setTop (entryFrame m #[(.ref a), (.int x1), (.int x2)] 3)) t := fun t k => pre3 t (by
    show Steps p.tables e below (T2.setTop (mkF m 4 #[.val (.ref a), .val (.int x1), .val (.int x2)] [(.ref bv)])) _
    refine XS.iloadN X2.here hx rfl (hb hby d4_4) rfl ?_
    show Steps p.tables e below (T2.setTop (mkF m 5 #[.val (.ref a), .val (.int x1), .val (.int x2)] [(.int x1), (.ref bv)])) _
    exact k)
  obtain ⟨cl5, Ar5, q5, S5, M5, H5, G5⟩ := id fa4
  have hin5 : ¬ (x1 < 0 ∨ cl5.slots.size ≤ (x1).toNatClampNeg) := inb_of S5 (own_in3 qx1)
  have hat5 : cl5.slots[(x1).toNatClampNeg]? = some (.int (own_el3 x1 u0 u1 u2)) := H5.at hin5 (own_get3 _ _ _ _ qx1)
  have st5 := X2.iaload hx (j := x1) (v := (.int (own_el3 x1 u0 u1 u2))) (by rw [e2]; exact Ar5.1) (State.isArrayOf_alike hZ.alike Ar5.2.1) Ar5.2.2 hin5 hat5 (g := (mkF m 5 #[.val (.ref a), .val (.int x1), .val (.int x2)] [(.int x1), (.ref bv)])) rfl rfl (hb hby d4_5)
  have pre6 : ∀ t, Steps p.tables e below (T2.setTop (mkF m 6 #[.val (.ref a), .val (.int x1), .val (.int x2)] [(.int (own_el3 x1 u0 u1 u2))])) t → Steps p.tables e below (s₁.setTop (entryFrame m #[(.ref a), (.int x1), (.int x2)] 3)) t := fun t k => pre4 t (st5 _ k)
  have pre7 : ∀ t, Steps p.tables e below (T2.setTop (mkF m 7 #[.val (.ref a), .val (.int x1), .val (.int x2)] [(.int (-1 : Int32)), (.int (own_el3 x1 u0 u1 u2))])) t → Steps p.tables e below (s₁.setTop (entryFrame m #[(.ref a), (.int x1), (.int x2)] 3)) t := fun t k => pre6 t (by
    show Steps p.tables e below (T2.setTop (mkF m 6 #[.val (.ref a), .val (.int x1), .val (.int x2)] [(.int (own_el3 x1 u0 u1 u2))])) _
    refine XS.iconst X2.here hx rfl (hb hby d4_6) ?_
    show Steps p.tables e below (T2.setTop (mkF m 7 #[.val (.ref a), .val (.int x1), .val (.int x2)] [(.int (-1 : Int32)), (.int (own_el3 x1 u0 u1 u2))])) _
    exact k)
  obtain ⟨v47, hv47⟩ : ∃ z : Int32, z = (if (own_el3 x1 u0 u1 u2) = (-1 : Int32) then (if x1 = (0 : Int32) then x2 else u0) else u0) := ⟨_, rfl⟩
  obtain ⟨v48, hv48⟩ : ∃ z : Int32, z = (if (own_el3 x1 u0 u1 u2) = (-1 : Int32) then (if x1 = (1 : Int32) then x2 else u1) else u1) := ⟨_, rfl⟩
  obtain ⟨v49, hv49⟩ : ∃ z : Int32, z = (if (own_el3 x1 u0 u1 u2) = (-1 : Int32) then (if x1 = (2 : Int32) then x2 else u2) else u2) := ⟨_, rfl⟩
  obtain ⟨v50, hv50⟩ : ∃ z : Int32, z = (if (own_el3 x1 u0 u1 u2) = (-1 : Int32) then (un + (1 : Int32)) else un) := ⟨_, rfl⟩
  obtain ⟨v51, hv51⟩ : ∃ z : Int32, z = (if (own_el3 x1 u0 u1 u2) = (-1 : Int32) then (if un = (0 : Int32) then x1 else t0) else t0) := ⟨_, rfl⟩
  obtain ⟨v52, hv52⟩ : ∃ z : Int32, z = (if (own_el3 x1 u0 u1 u2) = (-1 : Int32) then (if un = (1 : Int32) then x1 else t1) else t1) := ⟨_, rfl⟩
  obtain ⟨v53, hv53⟩ : ∃ z : Int32, z = (if (own_el3 x1 u0 u1 u2) = (-1 : Int32) then (if un = (2 : Int32) then x1 else t2) else t2) := ⟨_, rfl⟩
  obtain ⟨T46, L46, X46, N46, Zz46, f46_0, f46_1, f46_2, f46_3, f46_4, f46_5, Km46, pre54⟩ : ∃ (T46 : State) (L46 : List Loc), Stand p l e ({ frames := 0, cells := 0, slots := 0, locals := 0 } : Room) s m #[(.ref a), (.int x1), (.int x2)] below meth c T46 L46 0 0 ∧ Fr n0 L46 ∧ n0 ≤ T46.heap.size ∧ (Exa Z T46.heap a "com/example/clocks_to_automata/clockstoautomata/semantics/Assignment") ∧ (Fld Z T46.heap a "com/example/clocks_to_automata/clockstoautomata/semantics/Assignment" "values" "[I" (.ref bv)) ∧ (Fld Z T46.heap a "com/example/clocks_to_automata/clockstoautomata/semantics/Assignment" "trail" "[I" (.ref bt)) ∧ (Arv Z T46.heap bv kv .int (3 : Int32) [(.int v47), (.int v48), (.int v49)] (.int (0 : Int32))) ∧ (Fld Z T46.heap a "com/example/clocks_to_automata/clockstoautomata/semantics/Assignment" "trailSize" "I" (.int v50)) ∧ (Arv Z T46.heap bt kt .int (3 : Int32) [(.int v51), (.int v52), (.int v53)] (.int (0 : Int32))) ∧ (Keep h0 T46.heap [a, bv, bt]) ∧ ∀ t, Steps p.tables e below (T46.setTop (mkF m 34 #[.val (.ref a), .val (.int x1), .val (.int x2)] [])) t → Steps p.tables e below (s₁.setTop (entryFrame m #[(.ref a), (.int x1), (.int x2)] 3)) t := by
    by_cases hc8 : (own_el3 x1 u0 u1 u2) = (-1 : Int32)
    · skip
      have pre9 : ∀ t, Steps p.tables e below (T2.setTop (mkF m 11 #[.val (.ref a), .val (.int x1), .val (.int x2)] [(.ref a)])) t → Steps p.tables e below (s₁.setTop (entryFrame m #[(.ref a), (.int x1), (.int x2)] 3)) t := fun t k => pre7 t (by
        show Steps p.tables e below (T2.setTop (mkF m 7 #[.val (.ref a), .val (.int x1), .val (.int x2)] [(.int (-1 : Int32)), (.int (own_el3 x1 u0 u1 u2))])) _
        refine XS.icmpNo X2.here hx rfl (hb hby d4_7) rfl (teq hc8).2 ?_
        show Steps p.tables e below (T2.setTop (mkF m 10 #[.val (.ref a), .val (.int x1), .val (.int x2)] [])) _
        refine XS.aloadN X2.here hx rfl (hb hby d4_10) rfl rfl ?_
        show Steps p.tables e below (T2.setTop (mkF m 11 #[.val (.ref a), .val (.int x1), .val (.int x2)] [(.ref a)])) _
        exact k)
      obtain ⟨T10, X10, e10, st10⟩ := getF X2 hx hZ hown (host := "") (Or.inl (hw _ (List.mem_of_getElem? (i := 11) rfl))) Via.refl e2 fa1 (g := (mkF m 11 #[.val (.ref a), .val (.int x1), .val (.int x2)] [(.ref a)])) rfl rfl (hb hby d4_11)
      have pre11 : ∀ t, Steps p.tables e below (T10.setTop (mkF m 14 #[.val (.ref a), .val (.int x1), .val (.int x2)] [(.ref bv)])) t → Steps p.tables e below (s₁.setTop (entryFrame m #[(.ref a), (.int x1), (.int x2)] 3)) t := fun t k => pre9 t (st10 _ k)
      have pre12 : ∀ t, Steps p.tables e below (T10.setTop (mkF m 16 #[.val (.ref a), .val (.int x1), .val (.int x2)] [(.int x2), (.int x1), (.ref bv)])) t → Steps p.tables e below (s₁.setTop (entryFrame m #[(.ref a), (.int x1), (.int x2)] 3)) t := fun t k => pre11 t (by
        show Steps p.tables e below (T10.setTop (mkF m 14 #[.val (.ref a), .val (.int x1), .val (.int x2)] [(.ref bv)])) _
        refine XS.iloadN X10.here hx rfl (hb hby d4_14) rfl ?_
        show Steps p.tables e below (T10.setTop (mkF m 15 #[.val (.ref a), .val (.int x1), .val (.int x2)] [(.int x1), (.ref bv)])) _
        refine XS.iloadN X10.here hx rfl (hb hby d4_15) rfl ?_
        show Steps p.tables e below (T10.setTop (mkF m 16 #[.val (.ref a), .val (.int x1), .val (.int x2)] [(.int x2), (.int x1), (.ref bv)])) _
        exact k)
      obtain ⟨cl13, Ar13, q13, S13, M13, H13, G13⟩ := id fa4
      have hin13 : ¬ (x1 < 0 ∨ cl13.slots.size ≤ (x1).toNatClampNeg) := inb_of S13 (own_in3 qx1)
      obtain ⟨T13, h13, X13, e13, W13, st13⟩ := stI X10 hx hZ e10 Ar13 (j := x1) hin13 (g := (mkF m 16 #[.val (.ref a), .val (.int x1), .val (.int x2)] [(.int x2), (.int x1), (.ref bv)])) rfl rfl (hb hby d4_16)
      have V13x := Arv.set Ar13 q13 S13 M13 H13 G13 rfl W13 _ rfl (own_len3 qx1)
      rw [own_set3 _ _ _ _ _ qx1] at V13x
      have V13 : Arv Z h13 bv kv .int (3 : Int32) [(.int (if x1 = (0 : Int32) then x2 else u0)), (.int (if x1 = (1 : Int32) then x2 else u1)), (.int (if x1 = (2 : Int32) then x2 else u2))] (.int (0 : Int32)) := V13x
      have c14 := (fa0).wr W13
      have c15 := (fa1).other W13 (Or.inl ne_a_bv)
      have c16 := (fa2).other W13 (Or.inl ne_a_bv)
      have c17 := (fa3).other W13 (Or.inl ne_a_bv)
      have c19 := (fa5).other W13 (Ne.symm ne_bv_bt)
      have N13 := Fr.snoc X13 N0 g_bv
      have Zz13 : n0 ≤ h13.size := Nat.le_trans Z0 (Keep.of_wr W13).1
      have pre20 : ∀ t, Steps p.tables e below (T13.setTop (mkF m 17 #[.val (.ref a), .val (.int x1), .val (.int x2)] [])) t → Steps p.tables e below (s₁.setTop (entryFrame m #[(.ref a), (.int x1), (.int x2)] 3)) t := fun t k => pre12 t (st13 _ k)
      have Kp13 : Keep h0 h13 [a, bv, bt] := ((Keep.refl h0 [a, bv, bt])).wr W13 (Or.inl (List.mem_of_getElem? (i := 1) rfl))
      have pre21 : ∀ t, Steps p.tables e below (T13.setTop (mkF m 18 #[.val (.ref a), .val (.int x1), .val (.int x2)] [(.ref a)])) t → Steps p.tables e below (s₁.setTop (entryFrame m #[(.ref a), (.int x1), (.int x2)] 3)) t := fun t k => pre20 t (by
        show Steps p.tables e below (T13.setTop (mkF m 17 #[.val (.ref a), .val (.int x1), .val (.int x2)] [])) _
        refine XS.aloadN X13.here hx rfl (hb hby d4_17) rfl rfl ?_
        show Steps p.tables e below (T13.setTop (mkF m 18 #[.val (.ref a), .val (.int x1), .val (.int x2)] [(.ref a)])) _
        exact k)
      obtain ⟨T22, X22, e22, st22⟩ := getF X13 hx hZ hown (host := "") (Or.inl (hw _ (List.mem_of_getElem? (i := 17) rfl))) Via.refl e13 c16 (g := (mkF m 18 #[.val (.ref a), .val (.int x1), .val (.int x2)] [(.ref a)])) rfl rfl (hb hby d4_18)
      have pre23 : ∀ t, Steps p.tables e below (T22.setTop (mkF m 21 #[.val (.ref a), .val (.int x1), .val (.int x2)] [(.ref bt)])) t → Steps p.tables e below (s₁.setTop (entryFrame m #[(.ref a), (.int x1), (.int x2)] 3)) t := fun t k => pre21 t (st22 _ k)
      have pre24 : ∀ t, Steps p.tables e below (T22.setTop (mkF m 23 #[.val (.ref a), .val (.int x1), .val (.int x2)] [(.ref a), (.ref a), (.ref bt)])) t → Steps p.tables e below (s₁.setTop (entryFrame m #[(.ref a), (.int x1), (.int x2)] 3)) t := fun t k => pre23 t (by
        show Steps p.tables e below (T22.setTop (mkF m 21 #[.val (.ref a), .val (.int x1), .val (.int x2)] [(.ref bt)])) _
        refine XS.aloadN X22.here hx rfl (hb hby d4_21) rfl rfl ?_
        show Steps p.tables e below (T22.setTop (mkF m 22 #[.val (.ref a), .val (.int x1), .val (.int x2)] [(.ref a), (.ref bt)])) _
        refine XS.dup X22.here hx rfl (hb hby d4_22) rfl rfl ?_
        show Steps p.tables e below (T22.setTop (mkF m 23 #[.val (.ref a), .val (.int x1), .val (.int x2)] [(.ref a), (.ref a), (.ref bt)])) _
        exact k)
      obtain ⟨T25, X25, e25, st25⟩ := getF X22 hx hZ hown (host := "") (Or.inl (hw _ (List.mem_of_getElem? (i := 24) rfl))) Via.refl e22 c17 (g := (mkF m 23 #[.val (.ref a), .val (.int x1), .val (.int x2)] [(.ref a), (.ref a), (.ref bt)])) rfl rfl (hb hby d4_23)
      have pre26 : ∀ t, Steps p.tables e below (T25.setTop (mkF m 26 #[.val (.ref a), .val (.int x1), .val (.int x2)] [(.int un), (.ref a), (.ref bt)])) t → Steps p.tables e below (s₁.setTop (entryFrame m #[(.ref a), (.int x1), (.int x2)] 3)) t := fun t k => pre24 t (st25 _ k)
      have pre27 : ∀ t, Steps p.tables e below (T25.setTop (mkF m 29 #[.val (.ref a), .val (.int x1), .val (.int x2)] [(.int (un + (1 : Int32))), (.ref a), (.int un), (.ref bt)])) t → Steps p.tables e below (s₁.setTop (entryFrame m #[(.ref a), (.int x1), (.int x2)] 3)) t := fun t k => pre26 t (by
        show Steps p.tables e below (T25.setTop (mkF m 26 #[.val (.ref a), .val (.int x1), .val (.int x2)] [(.int un), (.ref a), (.ref bt)])) _
        refine XS.dupX1 X25.here hx rfl (hb hby d4_26) rfl rfl rfl ?_
        show Steps p.tables e below (T25.setTop (mkF m 27 #[.val (.ref a), .val (.int x1), .val (.int x2)] [(.int un), (.ref a), (.int un), (.ref bt)])) _
        refine XS.iconst X25.here hx rfl (hb hby d4_27) ?_
        show Steps p.tables e below (T25.setTop (mkF m 28 #[.val (.ref a), .val (.int x1), .val (.int x2)] [(.int (1 : Int32)), (.int un), (.ref a), (.int un), (.ref bt)])) _
        refine XS.iadd X25.here hx rfl (hb hby d4_28) rfl ?_
        show Steps p.tables e below (T25.setTop (mkF m 29 #[.val (.ref a), .val (.int x1), .val (.int x2)] [(.int (un + (1 : Int32))), (.ref a), (.int un), (.ref bt)])) _
        exact k)
      obtain ⟨T28, h28, X28, e28, W28, st28⟩ := putF X25 hx hZ hown (host := "") (Or.inl (hw _ (List.mem_of_getElem? (i := 24) rfl))) Via.refl e25 c17 c14 (Or.inl (hw _ (List.mem_of_getElem? (i := 25) rfl))) (hw _ (List.mem_of_getElem? (i := 2) rfl)) (ty := .int) (by decide) rfl rfl (g := (mkF m 29 #[.val (.ref a), .val (.int x1), .val (.int x2)] [(.int (un + (1 : Int32))), (.ref a), (.int un), (.ref bt)])) rfl rfl (hb hby d4_29)
      have Fw28 : Fld Z h28 a "com/example/clocks_to_automata/clockstoautomata/semantics/Assignment" "trailSize" "I" (.int (un + (1 : Int32))) := (c17).same W28
      have c29 := (c14).wr W28
      have c30 := (c15).other W28 (Or.inr (slot_ne (Or.inr (hw _ (List.mem_of_getElem? (i := 12) rfl))) (Or.inl (hw _ (List.mem_of_getElem? (i := 25) rfl))) (by decide) (t := (.array .int)) (t' := .int) (by decide) (by decide)))
      have c31 := (c16).other W28 (Or.inr (slot_ne (Or.inr (hw _ (List.mem_of_getElem? (i := 18) rfl))) (Or.inl (hw _ (List.mem_of_getElem? (i := 25) rfl))) (by decide) (t := (.array .int)) (t' := .int) (by decide) (by decide)))
      have c33 := (c19).other W28 (Ne.symm ne_a_bt)
      have c34 := (V13).other W28 (Ne.symm ne_a_bv)
      have N28 := Fr.snoc X28 N13 g_a
      have Zz28 : n0 ≤ h28.size := Nat.le_trans Zz13 (Keep.of_wr W28).1
      have pre35 : ∀ t, Steps p.tables e below (T28.setTop (mkF m 32 #[.val (.ref a), .val (.int x1), .val (.int x2)] [(.int un), (.ref bt)])) t → Steps p.tables e below (s₁.setTop (entryFrame m #[(.ref a), (.int x1), (.int x2)] 3)) t := fun t k => pre27 t (st28 _ k)
      have Kp28 : Keep h0 h28 [a, bv, bt] := (Kp13).wr W28 (Or.inl (List.mem_of_getElem? (i := 0) rfl))
      have pre36 : ∀ t, Steps p.tables e below (T28.setTop (mkF m 33 #[.val (.ref a), .val (.int x1), .val (.int x2)] [(.int x1), (.int un), (.ref bt)])) t → Steps p.tables e below (s₁.setTop (entryFrame m #[(.ref a), (.int x1), (.int x2)] 3)) t := fun t k => pre35 t (by
        show Steps p.tables e below (T28.setTop (mkF m 32 #[.val (.ref a), .val (.int x1), .val (.int x2)] [(.int un), (.ref bt)])) _
        refine XS.iloadN X28.here hx rfl (hb hby d4_32) rfl ?_
        show Steps p.tables e below (T28.setTop (mkF m 33 #[.val (.ref a), .val (.int x1), .val (.int x2)] [(.int x1), (.int un), (.ref bt)])) _
        exact k)
      obtain ⟨cl37, Ar37, q37, S37, M37, H37, G37⟩ := id c33
      have hin37 : ¬ (un < 0 ∨ cl37.slots.size ≤ (un).toNatClampNeg) := inb_of S37 (own_in3 qn)
      obtain ⟨T37, h37, X37, e37, W37, st37⟩ := stI X28 hx hZ e28 Ar37 (j := un) hin37 (g := (mkF m 33 #[.val (.ref a), .val (.int x1), .val (.int x2)] [(.int x1), (.int un), (.ref bt)])) rfl rfl (hb hby d4_33)
      have V37x := Arv.set Ar37 q37 S37 M37 H37 G37 rfl W37 _ rfl (own_len3 qn)
      rw [own_set3 _ _ _ _ _ qn] at V37x
      have V37 : Arv Z h37 bt kt .int (3 : Int32) [(.int (if un = (0 : Int32) then x1 else t0)), (.int (if un = (1 : Int32) then x1 else t1)), (.int (if un = (2 : Int32) then x1 else t2))] (.int (0 : Int32)) := V37x
      have c38 := (c29).wr W37
      have c39 := (c30).other W37 (Or.inl ne_a_bt)
      have c40 := (c31).other W37 (Or.inl ne_a_bt)
      have c42 := (c34).other W37 ne_bv_bt
      have c43 := (Fw28).other W37 (Or.inl ne_a_bt)
      have N37 := Fr.snoc X37 N28 g_bt
      have Zz37 : n0 ≤ h37.size := Nat.le_trans Zz28 (Keep.of_wr W37).1
      have pre44 : ∀ t, Steps p.tables e below (T37.setTop (mkF m 34 #[.val (.ref a), .val (.int x1), .val (.int x2)] [])) t → Steps p.tables e below (s₁.setTop (entryFrame m #[(.ref a), (.int x1), (.int x2)] 3)) t := fun t k => pre36 t (st37 _ k)
      have Kp37 : Keep h0 h37 [a, bv, bt] := (Kp28).wr W37 (Or.inl (List.mem_of_getElem? (i := 2) rfl))
      rw [if_pos hc8] at hv47
      rw [if_pos hc8] at hv48
      rw [if_pos hc8] at hv49
      rw [if_pos hc8] at hv50
      rw [if_pos hc8] at hv51
      rw [if_pos hc8] at hv52
      rw [if_pos hc8] at hv53
      subst hv47 hv48 hv49 hv50 hv51 hv52 hv53
      exact ⟨T37, _, X37, N37, by rw [e37]; exact Zz37, by rw [e37]; exact c38, by rw [e37]; exact c39, by rw [e37]; exact c40, by rw [e37]; exact c42, by rw [e37]; exact c43, by rw [e37]; exact V37, by rw [e37]; exact Kp37, pre44⟩
    · skip
      have pre45 : ∀ t, Steps p.tables e below (T2.setTop (mkF m 34 #[.val (.ref a), .val (.int x1), .val (.int x2)] [])) t → Steps p.tables e below (s₁.setTop (entryFrame m #[(.ref a), (.int x1), (.int x2)] 3)) t := fun t k => pre7 t (by
        show Steps p.tables e below (T2.setTop (mkF m 7 #[.val (.ref a), .val (.int x1), .val (.int x2)] [(.int (-1 : Int32)), (.int (own_el3 x1 u0 u1 u2))])) _
        refine XS.icmpYes X2.here hx rfl (pc0 := 7) (pc' := 34) rfl (hb hby d4_7) rfl (feq hc8).2 (by decide) (by decide) ?_
        show Steps p.tables e below (T2.setTop (mkF m 34 #[.val (.ref a), .val (.int x1), .val (.int x2)] [])) _
        exact k)
      rw [if_neg hc8] at hv47
      rw [if_neg hc8] at hv48
      rw [if_neg hc8] at hv49
      rw [if_neg hc8] at hv50
      rw [if_neg hc8] at hv51
      rw [if_neg hc8] at hv52
      rw [if_neg hc8] at hv53
      subst hv47 hv48 hv49 hv50 hv51 hv52 hv53
      exact ⟨T2, _, X2, N0, by rw [e2]; exact Z0, by rw [e2]; exact fa0, by rw [e2]; exact fa1, by rw [e2]; exact fa2, by rw [e2]; exact fa4, by rw [e2]; exact fa3, by rw [e2]; exact fa5, by rw [e2]; exact (Keep.refl h0 [a, bv, bt]), pre45⟩
  have pre55 : ∀ t, Steps p.tables e below (T46.setTop (mkF m 35 #[.val (.ref a), .val (.int x1), .val (.int x2)] [(.ref a)])) t → Steps p.tables e below (s₁.setTop (entryFrame m #[(.ref a), (.int x1), (.int x2)] 3)) t := fun t k => pre54 t (by
    show Steps p.tables e below (T46.setTop (mkF m 34 #[.val (.ref a), .val (.int x1), .val (.int x2)] [])) _
    refine XS.aloadN X46.here hx rfl (hb hby d4_34) rfl rfl ?_
    show Steps p.tables e below (T46.setTop (mkF m 35 #[.val (.ref a), .val (.int x1), .val (.int x2)] [(.ref a)])) _
    exact k)
  obtain ⟨T56, X56, e56, st56⟩ := getF X46 hx hZ hown (host := "") (Or.inl (hw _ (List.mem_of_getElem? (i := 11) rfl))) Via.refl rfl f46_1 (g := (mkF m 35 #[.val (.ref a), .val (.int x1), .val (.int x2)] [(.ref a)])) rfl rfl (hb hby d4_35)
  have pre57 : ∀ t, Steps p.tables e below (T56.setTop (mkF m 38 #[.val (.ref a), .val (.int x1), .val (.int x2)] [(.ref bv)])) t → Steps p.tables e below (s₁.setTop (entryFrame m #[(.ref a), (.int x1), (.int x2)] 3)) t := fun t k => pre55 t (st56 _ k)
  have pre58 : ∀ t, Steps p.tables e below (T56.setTop (mkF m 39 #[.val (.ref a), .val (.int x1), .val (.int x2)] [(.int x1), (.ref bv)])) t → Steps p.tables e below (s₁.setTop (entryFrame m #[(.ref a), (.int x1), (.int x2)] 3)) t := fun t k => pre57 t (by
    show Steps p.tables e below (T56.setTop (mkF m 38 #[.val (.ref a), .val (.int x1), .val (.int x2)] [(.ref bv)])) _
    refine XS.iloadN X56.here hx rfl (hb hby d4_38) rfl ?_
    show Steps p.tables e below (T56.setTop (mkF m 39 #[.val (.ref a), .val (.int x1), .val (.int x2)] [(.int x1), (.ref bv)])) _
    exact k)
  obtain ⟨cl59, Ar59, q59, S59, M59, H59, G59⟩ := id f46_3
  have hin59 : ¬ (x1 < 0 ∨ cl59.slots.size ≤ (x1).toNatClampNeg) := inb_of S59 (own_in3 qx1)
  have hat59 : cl59.slots[(x1).toNatClampNeg]? = some (.int (own_el3 x1 v47 v48 v49)) := H59.at hin59 (own_get3 _ _ _ _ qx1)
  have st59 := X56.iaload hx (j := x1) (v := (.int (own_el3 x1 v47 v48 v49))) (by rw [e56]; exact Ar59.1) (State.isArrayOf_alike hZ.alike Ar59.2.1) Ar59.2.2 hin59 hat59 (g := (mkF m 39 #[.val (.ref a), .val (.int x1), .val (.int x2)] [(.int x1), (.ref bv)])) rfl rfl (hb hby d4_39)
  have pre60 : ∀ t, Steps p.tables e below (T56.setTop (mkF m 40 #[.val (.ref a), .val (.int x1), .val (.int x2)] [(.int (own_el3 x1 v47 v48 v49))])) t → Steps p.tables e below (s₁.setTop (entryFrame m #[(.ref a), (.int x1), (.int x2)] 3)) t := fun t k => pre58 t (st59 _ k)
  obtain ⟨v62, hv62⟩ : ∃ z : Int32, z = (if (own_el3 x1 v47 v48 v49) = x2 then (1 : Int32) else (0 : Int32)) := ⟨_, rfl⟩
  have pre63 : ∀ t, Steps p.tables e below (T56.setTop (mkF m 49 #[.val (.ref a), .val (.int x1), .val (.int x2)] [(.int v62)])) t → Steps p.tables e below (s₁.setTop (entryFrame m #[(.ref a), (.int x1), (.int x2)] 3)) t := fun t k => pre60 t (by
    show Steps p.tables e below (T56.setTop (mkF m 40 #[.val (.ref a), .val (.int x1), .val (.int x2)] [(.int (own_el3 x1 v47 v48 v49))])) _
    refine XS.iloadN X56.here hx rfl (hb hby d4_40) rfl ?_
    show Steps p.tables e below (T56.setTop (mkF m 41 #[.val (.ref a), .val (.int x1), .val (.int x2)] [(.int x2), (.int (own_el3 x1 v47 v48 v49))])) _
    by_cases hc61 : (own_el3 x1 v47 v48 v49) = x2
    · skip
      refine XS.icmpNo X56.here hx rfl (hb hby d4_41) rfl (teq hc61).2 ?_
      show Steps p.tables e below (T56.setTop (mkF m 44 #[.val (.ref a), .val (.int x1), .val (.int x2)] [])) _
      refine XS.iconst X56.here hx rfl (hb hby d4_44) ?_
      show Steps p.tables e below (T56.setTop (mkF m 45 #[.val (.ref a), .val (.int x1), .val (.int x2)] [(.int (1 : Int32))])) _
      refine XS.goto X56.here hx rfl (pc0 := 45) (pc' := 49) rfl (hb hby d4_45) (by decide) (by decide) ?_
      show Steps p.tables e below (T56.setTop (mkF m 49 #[.val (.ref a), .val (.int x1), .val (.int x2)] [(.int (1 : Int32))])) _
      rw [show v62 = (1 : Int32) from by rw [hv62, if_pos hc61]] at k
      exact k
    · skip
      refine XS.icmpYes X56.here hx rfl (pc0 := 41) (pc' := 48) rfl (hb hby d4_41) rfl (feq hc61).2 (by decide) (by decide) ?_
      show Steps p.tables e below (T56.setTop (mkF m 48 #[.val (.ref a), .val (.int x1), .val (.int x2)] [])) _
      refine XS.iconst X56.here hx rfl (hb hby d4_48) ?_
      show Steps p.tables e below (T56.setTop (mkF m 49 #[.val (.ref a), .val (.int x1), .val (.int x2)] [(.int (0 : Int32))])) _
      rw [show v62 = (0 : Int32) from by rw [hv62, if_neg hc61]] at k
      exact k)
  obtain ⟨fs, hr, hrun, hended, hW, hsame⟩ := X56.leave (v := some (.int (nar .boolean v62))) (fun h => by rw [Bd.returns] at h; cases h)
  refine ⟨_, _, pre63 _ ?_, hrun, hended, _, _, rfl, ?_, ⟨_, rfl⟩, hW, hsame.mono (by decide) (by decide)⟩
  · show Steps p.tables e below (T56.setTop (mkF m 49 #[.val (.ref a), .val (.int x1), .val (.int x2)] [(.int v62)])) _
    exact retN X56 hx (t := .boolean) Bd.returns (by simp) (hb hby d4_49) hr
  · show Q4 Z a x1 x2 bv bt kv kt un u0 u1 u2 t0 t1 t2 h0 n0 _ T56.heap _
    rw [e56]
    subst hv62
    subst hv53
    subst hv52
    subst hv51
    subst hv50
    subst hv49
    subst hv48
    subst hv47
    exact ⟨_, rfl, N46, Km46, f46_0, f46_1, f46_2, f46_4, f46_3, f46_5, by rw [F4]⟩
def F5 (x1 : Int32) (u0 : Int32) (u1 : Int32) (u2 : Int32) : Int32 := (own_el3 x1 u0 u1 u2)
theorem d5_0 : decode prog_62_method_2_code 0 = .ok (.aload_n 0, 1) := by decide +kernel
theorem d5_1 : decode prog_62_method_2_code 1 = .ok (.getfield 7, 3) := by decide +kernel
theorem d5_4 : decode prog_62_method_2_code 4 = .ok (.iload_n 1, 1) := by decide +kernel
theorem d5_5 : decode prog_62_method_2_code 5 = .ok (.iaload, 1) := by decide +kernel
theorem d5_6 : decode prog_62_method_2_code 6 = .ok (.ireturn, 1) := by decide +kernel
theorem ef_5 (m : MethodId) (x0 : Addr) (x1 : Int32) : entryFrame m #[(.ref x0), (.int x1)] 2 = mkF m 0 #[.val (.ref x0), .val (.int x1)] [] := by first | (simp [entryFrame, mkF, argsToLocals, Value.category]; done) | rfl
def Q5 (Z : State) (a : Addr) (x1 : Int32) (bv : Addr) (kv : ClassId) (u0 : Int32) (u1 : Int32) (u2 : Int32) (h0 : Heap) (n0 : Nat) (v : Option Value) (h : Heap) (L : List Loc) : Prop := ∃ z : Int32, v = some (.int z) ∧ Fr n0 L ∧ h = h0 ∧ z = F5 x1 u0 u1 u2
set_option maxRecDepth 65536 in
set_option maxHeartbeats 40000000 in
theorem rm5 (l : Launch) (Z : State) (a0 : Array Value) (hw : ∀ d ∈ tables_1, d.before a0 Z = true) (ws : List Jvm.Cond) (a : Addr) (x1 : Int32) (bv : Addr) (kv : ClassId) (u0 : Int32) (u1 : Int32) (u2 : Int32) (h0 : Heap) (n0 : Nat) (Z0 : n0 ≤ h0.size) (fa0 : Fld Z h0 a "com/example/clocks_to_automata/clockstoautomata/semantics/Assignment" "values" "[I" (.ref bv)) (fa1 : Arv Z h0 bv kv .int (3 : Int32) [(.int u0), (.int u1), (.int u2)] (.int (0 : Int32))) (qx1 : x1 = (0 : Int32) ∨ x1 = (1 : Int32) ∨ x1 = (2 : Int32)) :
    MetFree l (⟨"com/example/clocks_to_automata/clockstoautomata/semantics/Assignment", "value", "(I)I"⟩ : MethodName) (head1 (Jvm.Cond.code (⟨"com/example/clocks_to_automata/clockstoautomata/semantics/Assignment", "value", "(I)I"⟩ : MethodName) prog_62_method_2_code 2 (some .int) :: ws) ({ frames := 0, cells := 0, slots := 0, locals := 0 } : Room)) (fun aa U => aa = #[(.ref a), (.int x1)] ∧ Z.Warmed39 U.vm ∧ U.heap = h0) (fun _ _ _ _ _ => True) (fun _ U o U' => ∃ v L, o = .returned v ∧ Q5 Z a x1 bv kv u0 u1 u2 h0 n0 v U'.heap L ∧ FrameEnd U o U' L ({ frames := 0, cells := 0, slots := 0, locals := 0 } : Room).cells ({ frames := 0, cells := 0, slots := 0, locals := 0 } : Room).slots) := by
  refine MetFree.of_bodySF (plainFor_of_name pn_1) hisR ?_
  intro p e s m args below meth c s₁ Bd hml0 hP hK
  obtain ⟨rfl, hZ, hh⟩ := hP
  have hx := Bd.exec
  have hby := Bd.bytes
  have hml : c.maxLocals = 2 := hml0
  have hown : s.vm.findClass "com/example/clocks_to_automata/clockstoautomata/semantics/Assignment" = some m.cls := findClass_of_methodNamed Bd.named
  have hnm := (name_of_methodNamed Bd.named Bd.method).1
  have X0 : Stand p l e ({ frames := 0, cells := 0, slots := 0, locals := 0 } : Room) s m #[(.ref a), (.int x1)] below meth c s₁ [] 0 0 := Stand.of_body Bd
  have e0 : s₁.heap = h0 := by rw [← hh, Bd.state]; rfl
  have N0 := Fr.nil n0
  have pre0 : ∀ t, Steps p.tables e below (s₁.setTop (mkF m 0 #[.val (.ref a), .val (.int x1)] [])) t → Steps p.tables e below (s₁.setTop (entryFrame m #[(.ref a), (.int x1)] 2)) t := fun t k => castTop (ef_5 m a x1) k
  have pre1 : ∀ t, Steps p.tables e below (s₁.setTop (mkF m 1 #[.val (.ref a), .val (.int x1)] [(.ref a)])) t → Steps p.tables e below (s₁.setTop (entryFrame m #[(.ref a), (.int x1)] 2)) t := fun t k => pre0 t (by
    show Steps p.tables e below (s₁.setTop (mkF m 0 #[.val (.ref a), .val (.int x1)] [])) _
    refine XS.aloadN X0.here hx rfl (hb hby d5_0) rfl rfl ?_
    show Steps p.tables e below (s₁.setTop (mkF m 1 #[.val (.ref a), .val (.int x1)] [(.ref a)])) _
    exact k)
  obtain ⟨T2, X2, e2, st2⟩ := getF X0 hx hZ hown (host := "") (Or.inl (hw _ (List.mem_of_getElem? (i := 11) rfl))) Via.refl e0 fa0 (g := (mkF m 1 #[.val (.ref a), .val (.int x1)] [(.ref a)])) rfl rfl (hb hby d5_1)
  have pre3 : ∀ t, Steps p.tables e below (T2.setTop (mkF m 4 #[.val (.ref a), .val (.int x1)] [(.ref bv)])) t → Steps p.tables e below (s₁.setTop (entryFrame m #[(.ref a), (.int x1)] 2)) t := fun t k => pre1 t (st2 _ k)
  have pre4 : ∀ t, Steps p.tables e below (T2.setTop (mkF m 5 #[.val (.ref a), .val (.int x1)] [(.int x1), (.ref bv)])) t → Steps p.tables e below (s₁.setTop (entryFrame m #[(.ref a), (.int x1)] 2)) t := fun t k => pre3 t (by
    show Steps p.tables e below (T2.setTop (mkF m 4 #[.val (.ref a), .val (.int x1)] [(.ref bv)])) _
    refine XS.iloadN X2.here hx rfl (hb hby d5_4) rfl ?_
    show Steps p.tables e below (T2.setTop (mkF m 5 #[.val (.ref a), .val (.int x1)] [(.int x1), (.ref bv)])) _
    exact k)
  obtain ⟨cl5, Ar5, q5, S5, M5, H5, G5⟩ := id fa1
  have hin5 : ¬ (x1 < 0 ∨ cl5.slots.size ≤ (x1).toNatClampNeg) := inb_of S5 (own_in3 qx1)
  have hat5 : cl5.slots[(x1).toNatClampNeg]? = some (.int (own_el3 x1 u0 u1 u2)) := H5.at hin5 (own_get3 _ _ _ _ qx1)
  have st5 := X2.iaload hx (j := x1) (v := (.int (own_el3 x1 u0 u1 u2))) (by rw [e2]; exact Ar5.1) (State.isArrayOf_alike hZ.alike Ar5.2.1) Ar5.2.2 hin5 hat5 (g := (mkF m 5 #[.val (.ref a), .val (.int x1)] [(.int x1), (.ref bv)])) rfl rfl (hb hby d5_5)
  have pre6 : ∀ t, Steps p.tables e below (T2.setTop (mkF m 6 #[.val (.ref a), .val (.int x1)] [(.int (own_el3 x1 u0 u1 u2))])) t → Steps p.tables e below (s₁.setTop (entryFrame m #[(.ref a), (.int x1)] 2)) t := fun t k => pre4 t (st5 _ k)
  obtain ⟨fs, hr, hrun, hended, hW, hsame⟩ := X2.leave (v := some (.int (own_el3 x1 u0 u1 u2))) (fun h => by rw [Bd.returns] at h; cases h)
  refine ⟨_, _, pre6 _ ?_, hrun, hended, _, _, rfl, ?_, ⟨_, rfl⟩, hW, hsame.mono (by decide) (by decide)⟩
  · show Steps p.tables e below (T2.setTop (mkF m 6 #[.val (.ref a), .val (.int x1)] [(.int (own_el3 x1 u0 u1 u2))])) _
    exact retI X2 hx Bd.returns (hb hby d5_6) hr
  · show Q5 Z a x1 bv kv u0 u1 u2 h0 n0 _ T2.heap _
    rw [e2]
    exact ⟨_, rfl, N0, rfl, by rw [F5]⟩
def F7 (un : Int32) : Int32 := un
theorem d7_0 : decode prog_62_method_3_code 0 = .ok (.aload_n 0, 1) := by decide +kernel
theorem d7_1 : decode prog_62_method_3_code 1 = .ok (.getfield 22, 3) := by decide +kernel
theorem d7_4 : decode prog_62_method_3_code 4 = .ok (.ireturn, 1) := by decide +kernel
theorem ef_7 (m : MethodId) (x0 : Addr) : entryFrame m #[(.ref x0)] 1 = mkF m 0 #[.val (.ref x0)] [] := by first | (simp [entryFrame, mkF, argsToLocals, Value.category]; done) | rfl
def Q7 (Z : State) (a : Addr) (un : Int32) (h0 : Heap) (n0 : Nat) (v : Option Value) (h : Heap) (L : List Loc) : Prop := ∃ z : Int32, v = some (.int z) ∧ Fr n0 L ∧ h = h0 ∧ z = F7 un
set_option maxRecDepth 65536 in
set_option maxHeartbeats 40000000 in
theorem rm7 (l : Launch) (Z : State) (a0 : Array Value) (hw : ∀ d ∈ tables_1, d.before a0 Z = true) (ws : List Jvm.Cond) (a : Addr) (un : Int32) (h0 : Heap) (n0 : Nat) (Z0 : n0 ≤ h0.size) (fa0 : Fld Z h0 a "com/example/clocks_to_automata/clockstoautomata/semantics/Assignment" "trailSize" "I" (.int un)) :
    MetFree l (⟨"com/example/clocks_to_automata/clockstoautomata/semantics/Assignment", "trailSize", "()I"⟩ : MethodName) (head1 (Jvm.Cond.code (⟨"com/example/clocks_to_automata/clockstoautomata/semantics/Assignment", "trailSize", "()I"⟩ : MethodName) prog_62_method_3_code 1 (some .int) :: ws) ({ frames := 0, cells := 0, slots := 0, locals := 0 } : Room)) (fun aa U => aa = #[(.ref a)] ∧ Z.Warmed39 U.vm ∧ U.heap = h0) (fun _ _ _ _ _ => True) (fun _ U o U' => ∃ v L, o = .returned v ∧ Q7 Z a un h0 n0 v U'.heap L ∧ FrameEnd U o U' L ({ frames := 0, cells := 0, slots := 0, locals := 0 } : Room).cells ({ frames := 0, cells := 0, slots := 0, locals := 0 } : Room).slots) := by
  refine MetFree.of_bodySF (plainFor_of_name pn_1) hisR ?_
  intro p e s m args below meth c s₁ Bd hml0 hP hK
  obtain ⟨rfl, hZ, hh⟩ := hP
  have hx := Bd.exec
  have hby := Bd.bytes
  have hml : c.maxLocals = 1 := hml0
  have hown : s.vm.findClass "com/example/clocks_to_automata/clockstoautomata/semantics/Assignment" = some m.cls := findClass_of_methodNamed Bd.named
  have hnm := (name_of_methodNamed Bd.named Bd.method).1
  have X0 : Stand p l e ({ frames := 0, cells := 0, slots := 0, locals := 0 } : Room) s m #[(.ref a)] below meth c s₁ [] 0 0 := Stand.of_body Bd
  have e0 : s₁.heap = h0 := by rw [← hh, Bd.state]; rfl
  have N0 := Fr.nil n0
  have pre0 : ∀ t, Steps p.tables e below (s₁.setTop (mkF m 0 #[.val (.ref a)] [])) t → Steps p.tables e below (s₁.setTop (entryFrame m #[(.ref a)] 1)) t := fun t k => castTop (ef_7 m a) k
  have pre1 : ∀ t, Steps p.tables e below (s₁.setTop (mkF m 1 #[.val (.ref a)] [(.ref a)])) t → Steps p.tables e below (s₁.setTop (entryFrame m #[(.ref a)] 1)) t := fun t k => pre0 t (by
    show Steps p.tables e below (s₁.setTop (mkF m 0 #[.val (.ref a)] [])) _
    refine XS.aloadN X0.here hx rfl (hb hby d7_0) rfl rfl ?_
    show Steps p.tables e below (s₁.setTop (mkF m 1 #[.val (.ref a)] [(.ref a)])) _
    exact k)
  obtain ⟨T2, X2, e2, st2⟩ := getF X0 hx hZ hown (host := "") (Or.inl (hw _ (List.mem_of_getElem? (i := 24) rfl))) Via.refl e0 fa0 (g := (mkF m 1 #[.val (.ref a)] [(.ref a)])) rfl rfl (hb hby d7_1)
  have pre3 : ∀ t, Steps p.tables e below (T2.setTop (mkF m 4 #[.val (.ref a)] [(.int un)])) t → Steps p.tables e below (s₁.setTop (entryFrame m #[(.ref a)] 1)) t := fun t k => pre1 t (st2 _ k)
  obtain ⟨fs, hr, hrun, hended, hW, hsame⟩ := X2.leave (v := some (.int un)) (fun h => by rw [Bd.returns] at h; cases h)
  refine ⟨_, _, pre3 _ ?_, hrun, hended, _, _, rfl, ?_, ⟨_, rfl⟩, hW, hsame.mono (by decide) (by decide)⟩
  · show Steps p.tables e below (T2.setTop (mkF m 4 #[.val (.ref a)] [(.int un)])) _
    exact retI X2 hx Bd.returns (hb hby d7_4) hr
  · show Q7 Z a un h0 n0 _ T2.heap _
    rw [e2]
    exact ⟨_, rfl, N0, rfl, by rw [F7]⟩
def F8 (x1 : Int32) (t0 : Int32) (t1 : Int32) (t2 : Int32) : Int32 := (own_el3 x1 t0 t1 t2)
theorem d8_0 : decode prog_62_method_4_code 0 = .ok (.aload_n 0, 1) := by decide +kernel
theorem d8_1 : decode prog_62_method_4_code 1 = .ok (.getfield 19, 3) := by decide +kernel
theorem d8_4 : decode prog_62_method_4_code 4 = .ok (.iload_n 1, 1) := by decide +kernel
theorem d8_5 : decode prog_62_method_4_code 5 = .ok (.iaload, 1) := by decide +kernel
theorem d8_6 : decode prog_62_method_4_code 6 = .ok (.ireturn, 1) := by decide +kernel
theorem ef_8 (m : MethodId) (x0 : Addr) (x1 : Int32) : entryFrame m #[(.ref x0), (.int x1)] 2 = mkF m 0 #[.val (.ref x0), .val (.int x1)] [] := by first | (simp [entryFrame, mkF, argsToLocals, Value.category]; done) | rfl
def Q8 (Z : State) (a : Addr) (x1 : Int32) (bt : Addr) (kt : ClassId) (t0 : Int32) (t1 : Int32) (t2 : Int32) (h0 : Heap) (n0 : Nat) (v : Option Value) (h : Heap) (L : List Loc) : Prop := ∃ z : Int32, v = some (.int z) ∧ Fr n0 L ∧ h = h0 ∧ z = F8 x1 t0 t1 t2
set_option maxRecDepth 65536 in
set_option maxHeartbeats 40000000 in
theorem rm8 (l : Launch) (Z : State) (a0 : Array Value) (hw : ∀ d ∈ tables_1, d.before a0 Z = true) (ws : List Jvm.Cond) (a : Addr) (x1 : Int32) (bt : Addr) (kt : ClassId) (t0 : Int32) (t1 : Int32) (t2 : Int32) (h0 : Heap) (n0 : Nat) (Z0 : n0 ≤ h0.size) (fa0 : Fld Z h0 a "com/example/clocks_to_automata/clockstoautomata/semantics/Assignment" "trail" "[I" (.ref bt)) (fa1 : Arv Z h0 bt kt .int (3 : Int32) [(.int t0), (.int t1), (.int t2)] (.int (0 : Int32))) (qx1 : x1 = (0 : Int32) ∨ x1 = (1 : Int32) ∨ x1 = (2 : Int32)) :
    MetFree l (⟨"com/example/clocks_to_automata/clockstoautomata/semantics/Assignment", "trailClock", "(I)I"⟩ : MethodName) (head1 (Jvm.Cond.code (⟨"com/example/clocks_to_automata/clockstoautomata/semantics/Assignment", "trailClock", "(I)I"⟩ : MethodName) prog_62_method_4_code 2 (some .int) :: ws) ({ frames := 0, cells := 0, slots := 0, locals := 0 } : Room)) (fun aa U => aa = #[(.ref a), (.int x1)] ∧ Z.Warmed39 U.vm ∧ U.heap = h0) (fun _ _ _ _ _ => True) (fun _ U o U' => ∃ v L, o = .returned v ∧ Q8 Z a x1 bt kt t0 t1 t2 h0 n0 v U'.heap L ∧ FrameEnd U o U' L ({ frames := 0, cells := 0, slots := 0, locals := 0 } : Room).cells ({ frames := 0, cells := 0, slots := 0, locals := 0 } : Room).slots) := by
  refine MetFree.of_bodySF (plainFor_of_name pn_1) hisR ?_
  intro p e s m args below meth c s₁ Bd hml0 hP hK
  obtain ⟨rfl, hZ, hh⟩ := hP
  have hx := Bd.exec
  have hby := Bd.bytes
  have hml : c.maxLocals = 2 := hml0
  have hown : s.vm.findClass "com/example/clocks_to_automata/clockstoautomata/semantics/Assignment" = some m.cls := findClass_of_methodNamed Bd.named
  have hnm := (name_of_methodNamed Bd.named Bd.method).1
  have X0 : Stand p l e ({ frames := 0, cells := 0, slots := 0, locals := 0 } : Room) s m #[(.ref a), (.int x1)] below meth c s₁ [] 0 0 := Stand.of_body Bd
  have e0 : s₁.heap = h0 := by rw [← hh, Bd.state]; rfl
  have N0 := Fr.nil n0
  have pre0 : ∀ t, Steps p.tables e below (s₁.setTop (mkF m 0 #[.val (.ref a), .val (.int x1)] [])) t → Steps p.tables e below (s₁.setTop (entryFrame m #[(.ref a), (.int x1)] 2)) t := fun t k => castTop (ef_8 m a x1) k
  have pre1 : ∀ t, Steps p.tables e below (s₁.setTop (mkF m 1 #[.val (.ref a), .val (.int x1)] [(.ref a)])) t → Steps p.tables e below (s₁.setTop (entryFrame m #[(.ref a), (.int x1)] 2)) t := fun t k => pre0 t (by
    show Steps p.tables e below (s₁.setTop (mkF m 0 #[.val (.ref a), .val (.int x1)] [])) _
    refine XS.aloadN X0.here hx rfl (hb hby d8_0) rfl rfl ?_
    show Steps p.tables e below (s₁.setTop (mkF m 1 #[.val (.ref a), .val (.int x1)] [(.ref a)])) _
    exact k)
  obtain ⟨T2, X2, e2, st2⟩ := getF X0 hx hZ hown (host := "") (Or.inl (hw _ (List.mem_of_getElem? (i := 17) rfl))) Via.refl e0 fa0 (g := (mkF m 1 #[.val (.ref a), .val (.int x1)] [(.ref a)])) rfl rfl (hb hby d8_1)
  have pre3 : ∀ t, Steps p.tables e below (T2.setTop (mkF m 4 #[.val (.ref a), .val (.int x1)] [(.ref bt)])) t → Steps p.tables e below (s₁.setTop (entryFrame m #[(.ref a), (.int x1)] 2)) t := fun t k => pre1 t (st2 _ k)
  have pre4 : ∀ t, Steps p.tables e below (T2.setTop (mkF m 5 #[.val (.ref a), .val (.int x1)] [(.int x1), (.ref bt)])) t → Steps p.tables e below (s₁.setTop (entryFrame m #[(.ref a), (.int x1)] 2)) t := fun t k => pre3 t (by
    show Steps p.tables e below (T2.setTop (mkF m 4 #[.val (.ref a), .val (.int x1)] [(.ref bt)])) _
    refine XS.iloadN X2.here hx rfl (hb hby d8_4) rfl ?_
    show Steps p.tables e below (T2.setTop (mkF m 5 #[.val (.ref a), .val (.int x1)] [(.int x1), (.ref bt)])) _
    exact k)
  obtain ⟨cl5, Ar5, q5, S5, M5, H5, G5⟩ := id fa1
  have hin5 : ¬ (x1 < 0 ∨ cl5.slots.size ≤ (x1).toNatClampNeg) := inb_of S5 (own_in3 qx1)
  have hat5 : cl5.slots[(x1).toNatClampNeg]? = some (.int (own_el3 x1 t0 t1 t2)) := H5.at hin5 (own_get3 _ _ _ _ qx1)
  have st5 := X2.iaload hx (j := x1) (v := (.int (own_el3 x1 t0 t1 t2))) (by rw [e2]; exact Ar5.1) (State.isArrayOf_alike hZ.alike Ar5.2.1) Ar5.2.2 hin5 hat5 (g := (mkF m 5 #[.val (.ref a), .val (.int x1)] [(.int x1), (.ref bt)])) rfl rfl (hb hby d8_5)
  have pre6 : ∀ t, Steps p.tables e below (T2.setTop (mkF m 6 #[.val (.ref a), .val (.int x1)] [(.int (own_el3 x1 t0 t1 t2))])) t → Steps p.tables e below (s₁.setTop (entryFrame m #[(.ref a), (.int x1)] 2)) t := fun t k => pre4 t (st5 _ k)
  obtain ⟨fs, hr, hrun, hended, hW, hsame⟩ := X2.leave (v := some (.int (own_el3 x1 t0 t1 t2))) (fun h => by rw [Bd.returns] at h; cases h)
  refine ⟨_, _, pre6 _ ?_, hrun, hended, _, _, rfl, ?_, ⟨_, rfl⟩, hW, hsame.mono (by decide) (by decide)⟩
  · show Steps p.tables e below (T2.setTop (mkF m 6 #[.val (.ref a), .val (.int x1)] [(.int (own_el3 x1 t0 t1 t2))])) _
    exact retI X2 hx Bd.returns (hb hby d8_6) hr
  · show Q8 Z a x1 bt kt t0 t1 t2 h0 n0 _ T2.heap _
    rw [e2]
    exact ⟨_, rfl, N0, rfl, by rw [F8]⟩
def F6 (x0 : Int32) (x1 : Int32) (x2 : Int32) (x3 : Int32) (x4 : Int32) (x5 : Int32) : Int32 := (if x0 = x4 then (if (if x1 = (0 : Int32) then (0 : Int32) else (if x2 = x4 then (1 : Int32) else (0 : Int32))) = (0 : Int32) then x5 else (if x1 = (0 : Int32) then (-1 : Int32) else (if x0 = x2 then x3 else (-1 : Int32)))) else (if x1 = (0 : Int32) then (-1 : Int32) else (if x0 = x2 then x3 else (-1 : Int32))))
theorem pn_2 : plainName "com/example/clocks_to_automata/clockstoautomata/semantics/AssignmentForcePinLaw" = true := by first | (simp [plainName, overriddenIn]; done) | decide +kernel
theorem d6_0 : decode method_2_code 0 = .ok (.iload_n 1, 1) := by decide +kernel
theorem d6_1 : decode method_2_code 1 = .ok (.ifCond .eq 13, 3) := by decide +kernel
theorem d6_4 : decode method_2_code 4 = .ok (.iload_n 2, 1) := by decide +kernel
theorem d6_5 : decode method_2_code 5 = .ok (.iload 4, 2) := by decide +kernel
theorem d6_7 : decode method_2_code 7 = .ok (.if_icmp .ne 7, 3) := by decide +kernel
theorem d6_10 : decode method_2_code 10 = .ok (.iconst 1, 1) := by decide +kernel
theorem d6_11 : decode method_2_code 11 = .ok (.goto 4, 3) := by decide +kernel
theorem d6_14 : decode method_2_code 14 = .ok (.iconst 0, 1) := by decide +kernel
theorem d6_15 : decode method_2_code 15 = .ok (.istore 6, 2) := by decide +kernel
theorem d6_17 : decode method_2_code 17 = .ok (.iload_n 0, 1) := by decide +kernel
theorem d6_18 : decode method_2_code 18 = .ok (.iload 4, 2) := by decide +kernel
theorem d6_20 : decode method_2_code 20 = .ok (.if_icmp .ne 11, 3) := by decide +kernel
theorem d6_23 : decode method_2_code 23 = .ok (.iload 6, 2) := by decide +kernel
theorem d6_25 : decode method_2_code 25 = .ok (.ifCond .ne 6, 3) := by decide +kernel
theorem d6_28 : decode method_2_code 28 = .ok (.iload 5, 2) := by decide +kernel
theorem d6_30 : decode method_2_code 30 = .ok (.ireturn, 1) := by decide +kernel
theorem d6_31 : decode method_2_code 31 = .ok (.iload_n 1, 1) := by decide +kernel
theorem d6_32 : decode method_2_code 32 = .ok (.ifCond .eq 10, 3) := by decide +kernel
theorem d6_35 : decode method_2_code 35 = .ok (.iload_n 0, 1) := by decide +kernel
theorem d6_36 : decode method_2_code 36 = .ok (.iload_n 2, 1) := by decide +kernel
theorem d6_37 : decode method_2_code 37 = .ok (.if_icmp .ne 5, 3) := by decide +kernel
theorem d6_40 : decode method_2_code 40 = .ok (.iload_n 3, 1) := by decide +kernel
theorem d6_41 : decode method_2_code 41 = .ok (.ireturn, 1) := by decide +kernel
theorem d6_42 : decode method_2_code 42 = .ok (.iconst (-1), 1) := by decide +kernel
theorem d6_43 : decode method_2_code 43 = .ok (.ireturn, 1) := by decide +kernel
theorem ef_6 (m : MethodId) (x0 : Int32) (x1 : Int32) (x2 : Int32) (x3 : Int32) (x4 : Int32) (x5 : Int32) : entryFrame m #[(.int x0), (.int x1), (.int x2), (.int x3), (.int x4), (.int x5)] 7 = mkF m 0 #[.val (.int x0), .val (.int x1), .val (.int x2), .val (.int x3), .val (.int x4), .val (.int x5), .unset] [] := by first | (simp [entryFrame, mkF, argsToLocals, Value.category]; done) | rfl
def Q6 (Z : State) (x0 : Int32) (x1 : Int32) (x2 : Int32) (x3 : Int32) (x4 : Int32) (x5 : Int32) (h0 : Heap) (n0 : Nat) (v : Option Value) (h : Heap) (L : List Loc) : Prop := ∃ z : Int32, v = some (.int z) ∧ Fr n0 L ∧ h = h0 ∧ z = F6 x0 x1 x2 x3 x4 x5
set_option maxRecDepth 65536 in
set_option maxHeartbeats 40000000 in
theorem rm6 (l : Launch) (Z : State) (a0 : Array Value) (hw : ∀ d ∈ tables_1, d.before a0 Z = true) (ws : List Jvm.Cond) (x0 : Int32) (x1 : Int32) (x2 : Int32) (x3 : Int32) (x4 : Int32) (x5 : Int32) (h0 : Heap) (n0 : Nat) (Z0 : n0 ≤ h0.size) :
    MetFree l (⟨"com/example/clocks_to_automata/clockstoautomata/semantics/AssignmentForcePinLaw", "expectedValue", "(IZIIII)I"⟩ : MethodName) (head1 (Jvm.Cond.code (⟨"com/example/clocks_to_automata/clockstoautomata/semantics/AssignmentForcePinLaw", "expectedValue", "(IZIIII)I"⟩ : MethodName) method_2_code 7 (some .int) :: ws) ({ frames := 0, cells := 0, slots := 0, locals := 0 } : Room)) (fun aa U => aa = #[(.int x0), (.int x1), (.int x2), (.int x3), (.int x4), (.int x5)] ∧ Z.Warmed39 U.vm ∧ U.heap = h0) (fun _ _ _ _ _ => True) (fun _ U o U' => ∃ v L, o = .returned v ∧ Q6 Z x0 x1 x2 x3 x4 x5 h0 n0 v U'.heap L ∧ FrameEnd U o U' L ({ frames := 0, cells := 0, slots := 0, locals := 0 } : Room).cells ({ frames := 0, cells := 0, slots := 0, locals := 0 } : Room).slots) := by
  refine MetFree.of_bodySF (plainFor_of_name pn_2) hisR ?_
  intro p e s m args below meth c s₁ Bd hml0 hP hK
  obtain ⟨rfl, hZ, hh⟩ := hP
  have hx := Bd.exec
  have hby := Bd.bytes
  have hml : c.maxLocals = 7 := hml0
  have hown : s.vm.findClass "com/example/clocks_to_automata/clockstoautomata/semantics/AssignmentForcePinLaw" = some m.cls := findClass_of_methodNamed Bd.named
  have hnm := (name_of_methodNamed Bd.named Bd.method).1
  have X0 : Stand p l e ({ frames := 0, cells := 0, slots := 0, locals := 0 } : Room) s m #[(.int x0), (.int x1), (.int x2), (.int x3), (.int x4), (.int x5)] below meth c s₁ [] 0 0 := Stand.of_body Bd
  have e0 : s₁.heap = h0 := by rw [← hh, Bd.state]; rfl
  have N0 := Fr.nil n0
  have pre0 : ∀ t, Steps p.tables e below (s₁.setTop (mkF m 0 #[.val (.int x0), .val (.int x1), .val (.int x2), .val (.int x3), .val (.int x4), .val (.int x5), .unset] [])) t → Steps p.tables e below (s₁.setTop (entryFrame m #[(.int x0), (.int x1), (.int x2), (.int x3), (.int x4), (.int x5)] 7)) t := fun t k => castTop (ef_6 m x0 x1 x2 x3 x4 x5) k
  obtain ⟨v3, hv3⟩ : ∃ z : Int32, z = (if x1 = (0 : Int32) then (0 : Int32) else (if x2 = x4 then (1 : Int32) else (0 : Int32))) := ⟨_, rfl⟩
  have pre4 : ∀ t, Steps p.tables e below (s₁.setTop (mkF m 15 #[.val (.int x0), .val (.int x1), .val (.int x2), .val (.int x3), .val (.int x4), .val (.int x5), .unset] [(.int v3)])) t → Steps p.tables e below (s₁.setTop (entryFrame m #[(.int x0), (.int x1), (.int x2), (.int x3), (.int x4), (.int x5)] 7)) t := fun t k => pre0 t (by
    show Steps p.tables e below (s₁.setTop (mkF m 0 #[.val (.int x0), .val (.int x1), .val (.int x2), .val (.int x3), .val (.int x4), .val (.int x5), .unset] [])) _
    refine XS.iloadN X0.here hx rfl (hb hby d6_0) rfl ?_
    show Steps p.tables e below (s₁.setTop (mkF m 1 #[.val (.int x0), .val (.int x1), .val (.int x2), .val (.int x3), .val (.int x4), .val (.int x5), .unset] [(.int x1)])) _
    by_cases hc1 : x1 = (0 : Int32)
    · skip
      refine XS.ifYes X0.here hx rfl (pc0 := 1) (pc' := 14) rfl (hb hby d6_1) rfl ((if0 _ _).trans (teq hc1).1) (by decide) (by decide) ?_
      show Steps p.tables e below (s₁.setTop (mkF m 14 #[.val (.int x0), .val (.int x1), .val (.int x2), .val (.int x3), .val (.int x4), .val (.int x5), .unset] [])) _
      refine XS.iconst X0.here hx rfl (hb hby d6_14) ?_
      show Steps p.tables e below (s₁.setTop (mkF m 15 #[.val (.int x0), .val (.int x1), .val (.int x2), .val (.int x3), .val (.int x4), .val (.int x5), .unset] [(.int (0 : Int32))])) _
      rw [show v3 = (0 : Int32) from by rw [hv3, if_pos hc1]] at k
      exact k
    · skip
      refine XS.ifNo X0.here hx rfl (hb hby d6_1) rfl ((if0 _ _).trans (feq hc1).1) ?_
      show Steps p.tables e below (s₁.setTop (mkF m 4 #[.val (.int x0), .val (.int x1), .val (.int x2), .val (.int x3), .val (.int x4), .val (.int x5), .unset] [])) _
      refine XS.iloadN X0.here hx rfl (hb hby d6_4) rfl ?_
      show Steps p.tables e below (s₁.setTop (mkF m 5 #[.val (.int x0), .val (.int x1), .val (.int x2), .val (.int x3), .val (.int x4), .val (.int x5), .unset] [(.int x2)])) _
      refine XS.iload X0.here hx rfl (hb hby d6_5) rfl ?_
      show Steps p.tables e below (s₁.setTop (mkF m 7 #[.val (.int x0), .val (.int x1), .val (.int x2), .val (.int x3), .val (.int x4), .val (.int x5), .unset] [(.int x4), (.int x2)])) _
      by_cases hc2 : x2 = x4
      · skip
        refine XS.icmpNo X0.here hx rfl (hb hby d6_7) rfl (teq hc2).2 ?_
        show Steps p.tables e below (s₁.setTop (mkF m 10 #[.val (.int x0), .val (.int x1), .val (.int x2), .val (.int x3), .val (.int x4), .val (.int x5), .unset] [])) _
        refine XS.iconst X0.here hx rfl (hb hby d6_10) ?_
        show Steps p.tables e below (s₁.setTop (mkF m 11 #[.val (.int x0), .val (.int x1), .val (.int x2), .val (.int x3), .val (.int x4), .val (.int x5), .unset] [(.int (1 : Int32))])) _
        refine XS.goto X0.here hx rfl (pc0 := 11) (pc' := 15) rfl (hb hby d6_11) (by decide) (by decide) ?_
        show Steps p.tables e below (s₁.setTop (mkF m 15 #[.val (.int x0), .val (.int x1), .val (.int x2), .val (.int x3), .val (.int x4), .val (.int x5), .unset] [(.int (1 : Int32))])) _
        rw [show v3 = (1 : Int32) from by rw [hv3, if_neg hc1, if_pos hc2]] at k
        exact k
      · skip
        refine XS.icmpYes X0.here hx rfl (pc0 := 7) (pc' := 14) rfl (hb hby d6_7) rfl (feq hc2).2 (by decide) (by decide) ?_
        show Steps p.tables e below (s₁.setTop (mkF m 14 #[.val (.int x0), .val (.int x1), .val (.int x2), .val (.int x3), .val (.int x4), .val (.int x5), .unset] [])) _
        refine XS.iconst X0.here hx rfl (hb hby d6_14) ?_
        show Steps p.tables e below (s₁.setTop (mkF m 15 #[.val (.int x0), .val (.int x1), .val (.int x2), .val (.int x3), .val (.int x4), .val (.int x5), .unset] [(.int (0 : Int32))])) _
        rw [show v3 = (0 : Int32) from by rw [hv3, if_neg hc1, if_neg hc2]] at k
        exact k)
  have pre5 : ∀ t, Steps p.tables e below (s₁.setTop (mkF m 20 #[.val (.int x0), .val (.int x1), .val (.int x2), .val (.int x3), .val (.int x4), .val (.int x5), .val (.int v3)] [(.int x4), (.int x0)])) t → Steps p.tables e below (s₁.setTop (entryFrame m #[(.int x0), (.int x1), (.int x2), (.int x3), (.int x4), (.int x5)] 7)) t := fun t k => pre4 t (by
    show Steps p.tables e below (s₁.setTop (mkF m 15 #[.val (.int x0), .val (.int x1), .val (.int x2), .val (.int x3), .val (.int x4), .val (.int x5), .unset] [(.int v3)])) _
    refine XS.istore X0.here hx rfl (hb hby d6_15) rfl (l' := #[.val (.int x0), .val (.int x1), .val (.int x2), .val (.int x3), .val (.int x4), .val (.int x5), .val (.int v3)]) rfl ?_
    show Steps p.tables e below (s₁.setTop (mkF m 17 #[.val (.int x0), .val (.int x1), .val (.int x2), .val (.int x3), .val (.int x4), .val (.int x5), .val (.int v3)] [])) _
    refine XS.iloadN X0.here hx rfl (hb hby d6_17) rfl ?_
    show Steps p.tables e below (s₁.setTop (mkF m 18 #[.val (.int x0), .val (.int x1), .val (.int x2), .val (.int x3), .val (.int x4), .val (.int x5), .val (.int v3)] [(.int x0)])) _
    refine XS.iload X0.here hx rfl (hb hby d6_18) rfl ?_
    show Steps p.tables e below (s₁.setTop (mkF m 20 #[.val (.int x0), .val (.int x1), .val (.int x2), .val (.int x3), .val (.int x4), .val (.int x5), .val (.int v3)] [(.int x4), (.int x0)])) _
    exact k)
  by_cases hc6 : x0 = x4
  · skip
    have pre7 : ∀ t, Steps p.tables e below (s₁.setTop (mkF m 25 #[.val (.int x0), .val (.int x1), .val (.int x2), .val (.int x3), .val (.int x4), .val (.int x5), .val (.int v3)] [(.int v3)])) t → Steps p.tables e below (s₁.setTop (entryFrame m #[(.int x0), (.int x1), (.int x2), (.int x3), (.int x4), (.int x5)] 7)) t := fun t k => pre5 t (by
      show Steps p.tables e below (s₁.setTop (mkF m 20 #[.val (.int x0), .val (.int x1), .val (.int x2), .val (.int x3), .val (.int x4), .val (.int x5), .val (.int v3)] [(.int x4), (.int x0)])) _
      refine XS.icmpNo X0.here hx rfl (hb hby d6_20) rfl (teq hc6).2 ?_
      show Steps p.tables e below (s₁.setTop (mkF m 23 #[.val (.int x0), .val (.int x1), .val (.int x2), .val (.int x3), .val (.int x4), .val (.int x5), .val (.int v3)] [])) _
      refine XS.iload X0.here hx rfl (hb hby d6_23) rfl ?_
      show Steps p.tables e below (s₁.setTop (mkF m 25 #[.val (.int x0), .val (.int x1), .val (.int x2), .val (.int x3), .val (.int x4), .val (.int x5), .val (.int v3)] [(.int v3)])) _
      exact k)
    by_cases hc8 : v3 = (0 : Int32)
    · skip
      have pre9 : ∀ t, Steps p.tables e below (s₁.setTop (mkF m 30 #[.val (.int x0), .val (.int x1), .val (.int x2), .val (.int x3), .val (.int x4), .val (.int x5), .val (.int v3)] [(.int x5)])) t → Steps p.tables e below (s₁.setTop (entryFrame m #[(.int x0), (.int x1), (.int x2), (.int x3), (.int x4), (.int x5)] 7)) t := fun t k => pre7 t (by
        show Steps p.tables e below (s₁.setTop (mkF m 25 #[.val (.int x0), .val (.int x1), .val (.int x2), .val (.int x3), .val (.int x4), .val (.int x5), .val (.int v3)] [(.int v3)])) _
        refine XS.ifNo X0.here hx rfl (hb hby d6_25) rfl ((if0 _ _).trans (teq hc8).2) ?_
        show Steps p.tables e below (s₁.setTop (mkF m 28 #[.val (.int x0), .val (.int x1), .val (.int x2), .val (.int x3), .val (.int x4), .val (.int x5), .val (.int v3)] [])) _
        refine XS.iload X0.here hx rfl (hb hby d6_28) rfl ?_
        show Steps p.tables e below (s₁.setTop (mkF m 30 #[.val (.int x0), .val (.int x1), .val (.int x2), .val (.int x3), .val (.int x4), .val (.int x5), .val (.int v3)] [(.int x5)])) _
        exact k)
      obtain ⟨fs, hr, hrun, hended, hW, hsame⟩ := X0.leave (v := some (.int x5)) (fun h => by rw [Bd.returns] at h; cases h)
      refine ⟨_, _, pre9 _ ?_, hrun, hended, _, _, rfl, ?_, ⟨_, rfl⟩, hW, hsame.mono (by decide) (by decide)⟩
      · show Steps p.tables e below (s₁.setTop (mkF m 30 #[.val (.int x0), .val (.int x1), .val (.int x2), .val (.int x3), .val (.int x4), .val (.int x5), .val (.int v3)] [(.int x5)])) _
        exact retI X0 hx Bd.returns (hb hby d6_30) hr
      · show Q6 Z x0 x1 x2 x3 x4 x5 h0 n0 _ s₁.heap _
        rw [e0]
        exact ⟨_, rfl, N0, rfl, by subst hv3; rw [F6, if_pos hc6, if_pos hc8]⟩
    · skip
      have pre10 : ∀ t, Steps p.tables e below (s₁.setTop (mkF m 32 #[.val (.int x0), .val (.int x1), .val (.int x2), .val (.int x3), .val (.int x4), .val (.int x5), .val (.int v3)] [(.int x1)])) t → Steps p.tables e below (s₁.setTop (entryFrame m #[(.int x0), (.int x1), (.int x2), (.int x3), (.int x4), (.int x5)] 7)) t := fun t k => pre7 t (by
        show Steps p.tables e below (s₁.setTop (mkF m 25 #[.val (.int x0), .val (.int x1), .val (.int x2), .val (.int x3), .val (.int x4), .val (.int x5), .val (.int v3)] [(.int v3)])) _
        refine XS.ifYes X0.here hx rfl (pc0 := 25) (pc' := 31) rfl (hb hby d6_25) rfl ((if0 _ _).trans (feq hc8).2) (by decide) (by decide) ?_
        show Steps p.tables e below (s₁.setTop (mkF m 31 #[.val (.int x0), .val (.int x1), .val (.int x2), .val (.int x3), .val (.int x4), .val (.int x5), .val (.int v3)] [])) _
        refine XS.iloadN X0.here hx rfl (hb hby d6_31) rfl ?_
        show Steps p.tables e below (s₁.setTop (mkF m 32 #[.val (.int x0), .val (.int x1), .val (.int x2), .val (.int x3), .val (.int x4), .val (.int x5), .val (.int v3)] [(.int x1)])) _
        exact k)
      by_cases hc11 : x1 = (0 : Int32)
      · skip
        have pre12 : ∀ t, Steps p.tables e below (s₁.setTop (mkF m 43 #[.val (.int x0), .val (.int x1), .val (.int x2), .val (.int x3), .val (.int x4), .val (.int x5), .val (.int v3)] [(.int (-1 : Int32))])) t → Steps p.tables e below (s₁.setTop (entryFrame m #[(.int x0), (.int x1), (.int x2), (.int x3), (.int x4), (.int x5)] 7)) t := fun t k => pre10 t (by
          show Steps p.tables e below (s₁.setTop (mkF m 32 #[.val (.int x0), .val (.int x1), .val (.int x2), .val (.int x3), .val (.int x4), .val (.int x5), .val (.int v3)] [(.int x1)])) _
          refine XS.ifYes X0.here hx rfl (pc0 := 32) (pc' := 42) rfl (hb hby d6_32) rfl ((if0 _ _).trans (teq hc11).1) (by decide) (by decide) ?_
          show Steps p.tables e below (s₁.setTop (mkF m 42 #[.val (.int x0), .val (.int x1), .val (.int x2), .val (.int x3), .val (.int x4), .val (.int x5), .val (.int v3)] [])) _
          refine XS.iconst X0.here hx rfl (hb hby d6_42) ?_
          show Steps p.tables e below (s₁.setTop (mkF m 43 #[.val (.int x0), .val (.int x1), .val (.int x2), .val (.int x3), .val (.int x4), .val (.int x5), .val (.int v3)] [(.int (-1 : Int32))])) _
          exact k)
        obtain ⟨fs, hr, hrun, hended, hW, hsame⟩ := X0.leave (v := some (.int (-1 : Int32))) (fun h => by rw [Bd.returns] at h; cases h)
        refine ⟨_, _, pre12 _ ?_, hrun, hended, _, _, rfl, ?_, ⟨_, rfl⟩, hW, hsame.mono (by decide) (by decide)⟩
        · show Steps p.tables e below (s₁.setTop (mkF m 43 #[.val (.int x0), .val (.int x1), .val (.int x2), .val (.int x3), .val (.int x4), .val (.int x5), .val (.int v3)] [(.int (-1 : Int32))])) _
          exact retI X0 hx Bd.returns (hb hby d6_43) hr
        · show Q6 Z x0 x1 x2 x3 x4 x5 h0 n0 _ s₁.heap _
          rw [e0]
          exact ⟨_, rfl, N0, rfl, by subst hv3; rw [F6, if_pos hc6, if_neg hc8, if_pos hc11]⟩
      · skip
        have pre13 : ∀ t, Steps p.tables e below (s₁.setTop (mkF m 37 #[.val (.int x0), .val (.int x1), .val (.int x2), .val (.int x3), .val (.int x4), .val (.int x5), .val (.int v3)] [(.int x2), (.int x0)])) t → Steps p.tables e below (s₁.setTop (entryFrame m #[(.int x0), (.int x1), (.int x2), (.int x3), (.int x4), (.int x5)] 7)) t := fun t k => pre10 t (by
          show Steps p.tables e below (s₁.setTop (mkF m 32 #[.val (.int x0), .val (.int x1), .val (.int x2), .val (.int x3), .val (.int x4), .val (.int x5), .val (.int v3)] [(.int x1)])) _
          refine XS.ifNo X0.here hx rfl (hb hby d6_32) rfl ((if0 _ _).trans (feq hc11).1) ?_
          show Steps p.tables e below (s₁.setTop (mkF m 35 #[.val (.int x0), .val (.int x1), .val (.int x2), .val (.int x3), .val (.int x4), .val (.int x5), .val (.int v3)] [])) _
          refine XS.iloadN X0.here hx rfl (hb hby d6_35) rfl ?_
          show Steps p.tables e below (s₁.setTop (mkF m 36 #[.val (.int x0), .val (.int x1), .val (.int x2), .val (.int x3), .val (.int x4), .val (.int x5), .val (.int v3)] [(.int x0)])) _
          refine XS.iloadN X0.here hx rfl (hb hby d6_36) rfl ?_
          show Steps p.tables e below (s₁.setTop (mkF m 37 #[.val (.int x0), .val (.int x1), .val (.int x2), .val (.int x3), .val (.int x4), .val (.int x5), .val (.int v3)] [(.int x2), (.int x0)])) _
          exact k)
        by_cases hc14 : x0 = x2
        · skip
          have pre15 : ∀ t, Steps p.tables e below (s₁.setTop (mkF m 41 #[.val (.int x0), .val (.int x1), .val (.int x2), .val (.int x3), .val (.int x4), .val (.int x5), .val (.int v3)] [(.int x3)])) t → Steps p.tables e below (s₁.setTop (entryFrame m #[(.int x0), (.int x1), (.int x2), (.int x3), (.int x4), (.int x5)] 7)) t := fun t k => pre13 t (by
            show Steps p.tables e below (s₁.setTop (mkF m 37 #[.val (.int x0), .val (.int x1), .val (.int x2), .val (.int x3), .val (.int x4), .val (.int x5), .val (.int v3)] [(.int x2), (.int x0)])) _
            refine XS.icmpNo X0.here hx rfl (hb hby d6_37) rfl (teq hc14).2 ?_
            show Steps p.tables e below (s₁.setTop (mkF m 40 #[.val (.int x0), .val (.int x1), .val (.int x2), .val (.int x3), .val (.int x4), .val (.int x5), .val (.int v3)] [])) _
            refine XS.iloadN X0.here hx rfl (hb hby d6_40) rfl ?_
            show Steps p.tables e below (s₁.setTop (mkF m 41 #[.val (.int x0), .val (.int x1), .val (.int x2), .val (.int x3), .val (.int x4), .val (.int x5), .val (.int v3)] [(.int x3)])) _
            exact k)
          obtain ⟨fs, hr, hrun, hended, hW, hsame⟩ := X0.leave (v := some (.int x3)) (fun h => by rw [Bd.returns] at h; cases h)
          refine ⟨_, _, pre15 _ ?_, hrun, hended, _, _, rfl, ?_, ⟨_, rfl⟩, hW, hsame.mono (by decide) (by decide)⟩
          · show Steps p.tables e below (s₁.setTop (mkF m 41 #[.val (.int x0), .val (.int x1), .val (.int x2), .val (.int x3), .val (.int x4), .val (.int x5), .val (.int v3)] [(.int x3)])) _
            exact retI X0 hx Bd.returns (hb hby d6_41) hr
          · show Q6 Z x0 x1 x2 x3 x4 x5 h0 n0 _ s₁.heap _
            rw [e0]
            exact ⟨_, rfl, N0, rfl, by subst hv3; rw [F6, if_pos hc6, if_neg hc8, if_neg hc11, if_pos hc14]⟩
        · skip
          have pre16 : ∀ t, Steps p.tables e below (s₁.setTop (mkF m 43 #[.val (.int x0), .val (.int x1), .val (.int x2), .val (.int x3), .val (.int x4), .val (.int x5), .val (.int v3)] [(.int (-1 : Int32))])) t → Steps p.tables e below (s₁.setTop (entryFrame m #[(.int x0), (.int x1), (.int x2), (.int x3), (.int x4), (.int x5)] 7)) t := fun t k => pre13 t (by
            show Steps p.tables e below (s₁.setTop (mkF m 37 #[.val (.int x0), .val (.int x1), .val (.int x2), .val (.int x3), .val (.int x4), .val (.int x5), .val (.int v3)] [(.int x2), (.int x0)])) _
            refine XS.icmpYes X0.here hx rfl (pc0 := 37) (pc' := 42) rfl (hb hby d6_37) rfl (feq hc14).2 (by decide) (by decide) ?_
            show Steps p.tables e below (s₁.setTop (mkF m 42 #[.val (.int x0), .val (.int x1), .val (.int x2), .val (.int x3), .val (.int x4), .val (.int x5), .val (.int v3)] [])) _
            refine XS.iconst X0.here hx rfl (hb hby d6_42) ?_
            show Steps p.tables e below (s₁.setTop (mkF m 43 #[.val (.int x0), .val (.int x1), .val (.int x2), .val (.int x3), .val (.int x4), .val (.int x5), .val (.int v3)] [(.int (-1 : Int32))])) _
            exact k)
          obtain ⟨fs, hr, hrun, hended, hW, hsame⟩ := X0.leave (v := some (.int (-1 : Int32))) (fun h => by rw [Bd.returns] at h; cases h)
          refine ⟨_, _, pre16 _ ?_, hrun, hended, _, _, rfl, ?_, ⟨_, rfl⟩, hW, hsame.mono (by decide) (by decide)⟩
          · show Steps p.tables e below (s₁.setTop (mkF m 43 #[.val (.int x0), .val (.int x1), .val (.int x2), .val (.int x3), .val (.int x4), .val (.int x5), .val (.int v3)] [(.int (-1 : Int32))])) _
            exact retI X0 hx Bd.returns (hb hby d6_43) hr
          · show Q6 Z x0 x1 x2 x3 x4 x5 h0 n0 _ s₁.heap _
            rw [e0]
            exact ⟨_, rfl, N0, rfl, by subst hv3; rw [F6, if_pos hc6, if_neg hc8, if_neg hc11, if_neg hc14]⟩
  · skip
    have pre17 : ∀ t, Steps p.tables e below (s₁.setTop (mkF m 32 #[.val (.int x0), .val (.int x1), .val (.int x2), .val (.int x3), .val (.int x4), .val (.int x5), .val (.int v3)] [(.int x1)])) t → Steps p.tables e below (s₁.setTop (entryFrame m #[(.int x0), (.int x1), (.int x2), (.int x3), (.int x4), (.int x5)] 7)) t := fun t k => pre5 t (by
      show Steps p.tables e below (s₁.setTop (mkF m 20 #[.val (.int x0), .val (.int x1), .val (.int x2), .val (.int x3), .val (.int x4), .val (.int x5), .val (.int v3)] [(.int x4), (.int x0)])) _
      refine XS.icmpYes X0.here hx rfl (pc0 := 20) (pc' := 31) rfl (hb hby d6_20) rfl (feq hc6).2 (by decide) (by decide) ?_
      show Steps p.tables e below (s₁.setTop (mkF m 31 #[.val (.int x0), .val (.int x1), .val (.int x2), .val (.int x3), .val (.int x4), .val (.int x5), .val (.int v3)] [])) _
      refine XS.iloadN X0.here hx rfl (hb hby d6_31) rfl ?_
      show Steps p.tables e below (s₁.setTop (mkF m 32 #[.val (.int x0), .val (.int x1), .val (.int x2), .val (.int x3), .val (.int x4), .val (.int x5), .val (.int v3)] [(.int x1)])) _
      exact k)
    by_cases hc18 : x1 = (0 : Int32)
    · skip
      have pre19 : ∀ t, Steps p.tables e below (s₁.setTop (mkF m 43 #[.val (.int x0), .val (.int x1), .val (.int x2), .val (.int x3), .val (.int x4), .val (.int x5), .val (.int v3)] [(.int (-1 : Int32))])) t → Steps p.tables e below (s₁.setTop (entryFrame m #[(.int x0), (.int x1), (.int x2), (.int x3), (.int x4), (.int x5)] 7)) t := fun t k => pre17 t (by
        show Steps p.tables e below (s₁.setTop (mkF m 32 #[.val (.int x0), .val (.int x1), .val (.int x2), .val (.int x3), .val (.int x4), .val (.int x5), .val (.int v3)] [(.int x1)])) _
        refine XS.ifYes X0.here hx rfl (pc0 := 32) (pc' := 42) rfl (hb hby d6_32) rfl ((if0 _ _).trans (teq hc18).1) (by decide) (by decide) ?_
        show Steps p.tables e below (s₁.setTop (mkF m 42 #[.val (.int x0), .val (.int x1), .val (.int x2), .val (.int x3), .val (.int x4), .val (.int x5), .val (.int v3)] [])) _
        refine XS.iconst X0.here hx rfl (hb hby d6_42) ?_
        show Steps p.tables e below (s₁.setTop (mkF m 43 #[.val (.int x0), .val (.int x1), .val (.int x2), .val (.int x3), .val (.int x4), .val (.int x5), .val (.int v3)] [(.int (-1 : Int32))])) _
        exact k)
      obtain ⟨fs, hr, hrun, hended, hW, hsame⟩ := X0.leave (v := some (.int (-1 : Int32))) (fun h => by rw [Bd.returns] at h; cases h)
      refine ⟨_, _, pre19 _ ?_, hrun, hended, _, _, rfl, ?_, ⟨_, rfl⟩, hW, hsame.mono (by decide) (by decide)⟩
      · show Steps p.tables e below (s₁.setTop (mkF m 43 #[.val (.int x0), .val (.int x1), .val (.int x2), .val (.int x3), .val (.int x4), .val (.int x5), .val (.int v3)] [(.int (-1 : Int32))])) _
        exact retI X0 hx Bd.returns (hb hby d6_43) hr
      · show Q6 Z x0 x1 x2 x3 x4 x5 h0 n0 _ s₁.heap _
        rw [e0]
        exact ⟨_, rfl, N0, rfl, by subst hv3; rw [F6, if_neg hc6, if_pos hc18]⟩
    · skip
      have pre20 : ∀ t, Steps p.tables e below (s₁.setTop (mkF m 37 #[.val (.int x0), .val (.int x1), .val (.int x2), .val (.int x3), .val (.int x4), .val (.int x5), .val (.int v3)] [(.int x2), (.int x0)])) t → Steps p.tables e below (s₁.setTop (entryFrame m #[(.int x0), (.int x1), (.int x2), (.int x3), (.int x4), (.int x5)] 7)) t := fun t k => pre17 t (by
        show Steps p.tables e below (s₁.setTop (mkF m 32 #[.val (.int x0), .val (.int x1), .val (.int x2), .val (.int x3), .val (.int x4), .val (.int x5), .val (.int v3)] [(.int x1)])) _
        refine XS.ifNo X0.here hx rfl (hb hby d6_32) rfl ((if0 _ _).trans (feq hc18).1) ?_
        show Steps p.tables e below (s₁.setTop (mkF m 35 #[.val (.int x0), .val (.int x1), .val (.int x2), .val (.int x3), .val (.int x4), .val (.int x5), .val (.int v3)] [])) _
        refine XS.iloadN X0.here hx rfl (hb hby d6_35) rfl ?_
        show Steps p.tables e below (s₁.setTop (mkF m 36 #[.val (.int x0), .val (.int x1), .val (.int x2), .val (.int x3), .val (.int x4), .val (.int x5), .val (.int v3)] [(.int x0)])) _
        refine XS.iloadN X0.here hx rfl (hb hby d6_36) rfl ?_
        show Steps p.tables e below (s₁.setTop (mkF m 37 #[.val (.int x0), .val (.int x1), .val (.int x2), .val (.int x3), .val (.int x4), .val (.int x5), .val (.int v3)] [(.int x2), (.int x0)])) _
        exact k)
      by_cases hc21 : x0 = x2
      · skip
        have pre22 : ∀ t, Steps p.tables e below (s₁.setTop (mkF m 41 #[.val (.int x0), .val (.int x1), .val (.int x2), .val (.int x3), .val (.int x4), .val (.int x5), .val (.int v3)] [(.int x3)])) t → Steps p.tables e below (s₁.setTop (entryFrame m #[(.int x0), (.int x1), (.int x2), (.int x3), (.int x4), (.int x5)] 7)) t := fun t k => pre20 t (by
          show Steps p.tables e below (s₁.setTop (mkF m 37 #[.val (.int x0), .val (.int x1), .val (.int x2), .val (.int x3), .val (.int x4), .val (.int x5), .val (.int v3)] [(.int x2), (.int x0)])) _
          refine XS.icmpNo X0.here hx rfl (hb hby d6_37) rfl (teq hc21).2 ?_
          show Steps p.tables e below (s₁.setTop (mkF m 40 #[.val (.int x0), .val (.int x1), .val (.int x2), .val (.int x3), .val (.int x4), .val (.int x5), .val (.int v3)] [])) _
          refine XS.iloadN X0.here hx rfl (hb hby d6_40) rfl ?_
          show Steps p.tables e below (s₁.setTop (mkF m 41 #[.val (.int x0), .val (.int x1), .val (.int x2), .val (.int x3), .val (.int x4), .val (.int x5), .val (.int v3)] [(.int x3)])) _
          exact k)
        obtain ⟨fs, hr, hrun, hended, hW, hsame⟩ := X0.leave (v := some (.int x3)) (fun h => by rw [Bd.returns] at h; cases h)
        refine ⟨_, _, pre22 _ ?_, hrun, hended, _, _, rfl, ?_, ⟨_, rfl⟩, hW, hsame.mono (by decide) (by decide)⟩
        · show Steps p.tables e below (s₁.setTop (mkF m 41 #[.val (.int x0), .val (.int x1), .val (.int x2), .val (.int x3), .val (.int x4), .val (.int x5), .val (.int v3)] [(.int x3)])) _
          exact retI X0 hx Bd.returns (hb hby d6_41) hr
        · show Q6 Z x0 x1 x2 x3 x4 x5 h0 n0 _ s₁.heap _
          rw [e0]
          exact ⟨_, rfl, N0, rfl, by subst hv3; rw [F6, if_neg hc6, if_neg hc18, if_pos hc21]⟩
      · skip
        have pre23 : ∀ t, Steps p.tables e below (s₁.setTop (mkF m 43 #[.val (.int x0), .val (.int x1), .val (.int x2), .val (.int x3), .val (.int x4), .val (.int x5), .val (.int v3)] [(.int (-1 : Int32))])) t → Steps p.tables e below (s₁.setTop (entryFrame m #[(.int x0), (.int x1), (.int x2), (.int x3), (.int x4), (.int x5)] 7)) t := fun t k => pre20 t (by
          show Steps p.tables e below (s₁.setTop (mkF m 37 #[.val (.int x0), .val (.int x1), .val (.int x2), .val (.int x3), .val (.int x4), .val (.int x5), .val (.int v3)] [(.int x2), (.int x0)])) _
          refine XS.icmpYes X0.here hx rfl (pc0 := 37) (pc' := 42) rfl (hb hby d6_37) rfl (feq hc21).2 (by decide) (by decide) ?_
          show Steps p.tables e below (s₁.setTop (mkF m 42 #[.val (.int x0), .val (.int x1), .val (.int x2), .val (.int x3), .val (.int x4), .val (.int x5), .val (.int v3)] [])) _
          refine XS.iconst X0.here hx rfl (hb hby d6_42) ?_
          show Steps p.tables e below (s₁.setTop (mkF m 43 #[.val (.int x0), .val (.int x1), .val (.int x2), .val (.int x3), .val (.int x4), .val (.int x5), .val (.int v3)] [(.int (-1 : Int32))])) _
          exact k)
        obtain ⟨fs, hr, hrun, hended, hW, hsame⟩ := X0.leave (v := some (.int (-1 : Int32))) (fun h => by rw [Bd.returns] at h; cases h)
        refine ⟨_, _, pre23 _ ?_, hrun, hended, _, _, rfl, ?_, ⟨_, rfl⟩, hW, hsame.mono (by decide) (by decide)⟩
        · show Steps p.tables e below (s₁.setTop (mkF m 43 #[.val (.int x0), .val (.int x1), .val (.int x2), .val (.int x3), .val (.int x4), .val (.int x5), .val (.int v3)] [(.int (-1 : Int32))])) _
          exact retI X0 hx Bd.returns (hb hby d6_43) hr
        · show Q6 Z x0 x1 x2 x3 x4 x5 h0 n0 _ s₁.heap _
          rw [e0]
          exact ⟨_, rfl, N0, rfl, by subst hv3; rw [F6, if_neg hc6, if_neg hc18, if_neg hc21]⟩
theorem pd_1 : parseMethodDescriptor "(I)V" = some ⟨[.int], none⟩ := by decide +kernel
set_option maxHeartbeats 8000000 in
theorem own_need0_25_0 (x0 : Int32) (x1 : Int32) (x2 : Int32) (x3 : Int32) (x4 : Int32) (v1 : Int32) (v2 : Int32) (v3 : Int32) (v4 : Int32) (v6 : Int32) (hv1 : v1 = ((x0 &&& (2147483647 : Int32)) % (3 : Int32))) (hv2 : v2 = (x1 &&& (1 : Int32))) (hv3 : v3 = ((x2 &&& (2147483647 : Int32)) % (3 : Int32))) (hv4 : v4 = (x3 &&& (1 : Int32))) (hv6 : v6 = (if (x4 &&& (1 : Int32)) = (0 : Int32) then (0 : Int32) else (1 : Int32))) (hc20 : ¬ (v6 = (0 : Int32))) : v1 = (0 : Int32) ∨ v1 = (1 : Int32) ∨ v1 = (2 : Int32) := by
  exact own_m3 hv1
set_option maxHeartbeats 8000000 in
theorem own_need0_26_1 (x0 : Int32) (x1 : Int32) (x2 : Int32) (x3 : Int32) (x4 : Int32) (v1 : Int32) (v2 : Int32) (v3 : Int32) (v4 : Int32) (v6 : Int32) (hv1 : v1 = ((x0 &&& (2147483647 : Int32)) % (3 : Int32))) (hv2 : v2 = (x1 &&& (1 : Int32))) (hv3 : v3 = ((x2 &&& (2147483647 : Int32)) % (3 : Int32))) (hv4 : v4 = (x3 &&& (1 : Int32))) (hv6 : v6 = (if (x4 &&& (1 : Int32)) = (0 : Int32) then (0 : Int32) else (1 : Int32))) (hc20 : ¬ (v6 = (0 : Int32))) : (0 : Int32) = (0 : Int32) ∨ (0 : Int32) = (1 : Int32) ∨ (0 : Int32) = (2 : Int32) := by
  exact Or.inl rfl
theorem pd_2 : parseMethodDescriptor "(II)Z" = some ⟨[.int, .int], some .boolean⟩ := by decide +kernel
set_option maxHeartbeats 8000000 in
theorem own_need0_48_0 (x0 : Int32) (x1 : Int32) (x2 : Int32) (x3 : Int32) (x4 : Int32) (v1 : Int32) (v2 : Int32) (v3 : Int32) (v4 : Int32) (v6 : Int32) (v36 : Int32) (v37 : Int32) (v38 : Int32) (v39 : Int32) (v40 : Int32) (v41 : Int32) (v42 : Int32) (v43 : Int32) (hv1 : v1 = ((x0 &&& (2147483647 : Int32)) % (3 : Int32))) (hv2 : v2 = (x1 &&& (1 : Int32))) (hv3 : v3 = ((x2 &&& (2147483647 : Int32)) % (3 : Int32))) (hv4 : v4 = (x3 &&& (1 : Int32))) (hv6 : v6 = (if (x4 &&& (1 : Int32)) = (0 : Int32) then (0 : Int32) else (1 : Int32))) (hv36 : v36 = (if v6 = (0 : Int32) then (1 : Int32) else F4 v1 v2 (0 : Int32) (-1 : Int32) (-1 : Int32) (-1 : Int32) (0 : Int32) (0 : Int32) (0 : Int32))) (hv37 : v37 = (if v6 = (0 : Int32) then (0 : Int32) else (if (own_el3 v1 (-1 : Int32) (-1 : Int32) (-1 : Int32)) = (-1 : Int32) then ((0 : Int32) + (1 : Int32)) else (0 : Int32)))) (hv38 : v38 = (if v6 = (0 : Int32) then (-1 : Int32) else (if (own_el3 v1 (-1 : Int32) (-1 : Int32) (-1 : Int32)) = (-1 : Int32) then (if v1 = (0 : Int32) then v2 else (-1 : Int32)) else (-1 : Int32)))) (hv39 : v39 = (if v6 = (0 : Int32) then (-1 : Int32) else (if (own_el3 v1 (-1 : Int32) (-1 : Int32) (-1 : Int32)) = (-1 : Int32) then (if v1 = (1 : Int32) then v2 else (-1 : Int32)) else (-1 : Int32)))) (hv40 : v40 = (if v6 = (0 : Int32) then (-1 : Int32) else (if (own_el3 v1 (-1 : Int32) (-1 : Int32) (-1 : Int32)) = (-1 : Int32) then (if v1 = (2 : Int32) then v2 else (-1 : Int32)) else (-1 : Int32)))) (hv41 : v41 = (if v6 = (0 : Int32) then (0 : Int32) else (if (own_el3 v1 (-1 : Int32) (-1 : Int32) (-1 : Int32)) = (-1 : Int32) then (if (0 : Int32) = (0 : Int32) then v1 else (0 : Int32)) else (0 : Int32)))) (hv42 : v42 = (if v6 = (0 : Int32) then (0 : Int32) else (if (own_el3 v1 (-1 : Int32) (-1 : Int32) (-1 : Int32)) = (-1 : Int32) then (if (0 : Int32) = (1 : Int32) then v1 else (0 : Int32)) else (0 : Int32)))) (hv43 : v43 = (if v6 = (0 : Int32) then (0 : Int32) else (if (own_el3 v1 (-1 : Int32) (-1 : Int32) (-1 : Int32)) = (-1 : Int32) then (if (0 : Int32) = (2 : Int32) then v1 else (0 : Int32)) else (0 : Int32)))) : v3 = (0 : Int32) ∨ v3 = (1 : Int32) ∨ v3 = (2 : Int32) := by
  exact own_m3 hv3
set_option maxHeartbeats 8000000 in
theorem own_need0_49_1 (x0 : Int32) (x1 : Int32) (x2 : Int32) (x3 : Int32) (x4 : Int32) (v1 : Int32) (v2 : Int32) (v3 : Int32) (v4 : Int32) (v6 : Int32) (v36 : Int32) (v37 : Int32) (v38 : Int32) (v39 : Int32) (v40 : Int32) (v41 : Int32) (v42 : Int32) (v43 : Int32) (hv1 : v1 = ((x0 &&& (2147483647 : Int32)) % (3 : Int32))) (hv2 : v2 = (x1 &&& (1 : Int32))) (hv3 : v3 = ((x2 &&& (2147483647 : Int32)) % (3 : Int32))) (hv4 : v4 = (x3 &&& (1 : Int32))) (hv6 : v6 = (if (x4 &&& (1 : Int32)) = (0 : Int32) then (0 : Int32) else (1 : Int32))) (hv36 : v36 = (if v6 = (0 : Int32) then (1 : Int32) else F4 v1 v2 (0 : Int32) (-1 : Int32) (-1 : Int32) (-1 : Int32) (0 : Int32) (0 : Int32) (0 : Int32))) (hv37 : v37 = (if v6 = (0 : Int32) then (0 : Int32) else (if (own_el3 v1 (-1 : Int32) (-1 : Int32) (-1 : Int32)) = (-1 : Int32) then ((0 : Int32) + (1 : Int32)) else (0 : Int32)))) (hv38 : v38 = (if v6 = (0 : Int32) then (-1 : Int32) else (if (own_el3 v1 (-1 : Int32) (-1 : Int32) (-1 : Int32)) = (-1 : Int32) then (if v1 = (0 : Int32) then v2 else (-1 : Int32)) else (-1 : Int32)))) (hv39 : v39 = (if v6 = (0 : Int32) then (-1 : Int32) else (if (own_el3 v1 (-1 : Int32) (-1 : Int32) (-1 : Int32)) = (-1 : Int32) then (if v1 = (1 : Int32) then v2 else (-1 : Int32)) else (-1 : Int32)))) (hv40 : v40 = (if v6 = (0 : Int32) then (-1 : Int32) else (if (own_el3 v1 (-1 : Int32) (-1 : Int32) (-1 : Int32)) = (-1 : Int32) then (if v1 = (2 : Int32) then v2 else (-1 : Int32)) else (-1 : Int32)))) (hv41 : v41 = (if v6 = (0 : Int32) then (0 : Int32) else (if (own_el3 v1 (-1 : Int32) (-1 : Int32) (-1 : Int32)) = (-1 : Int32) then (if (0 : Int32) = (0 : Int32) then v1 else (0 : Int32)) else (0 : Int32)))) (hv42 : v42 = (if v6 = (0 : Int32) then (0 : Int32) else (if (own_el3 v1 (-1 : Int32) (-1 : Int32) (-1 : Int32)) = (-1 : Int32) then (if (0 : Int32) = (1 : Int32) then v1 else (0 : Int32)) else (0 : Int32)))) (hv43 : v43 = (if v6 = (0 : Int32) then (0 : Int32) else (if (own_el3 v1 (-1 : Int32) (-1 : Int32) (-1 : Int32)) = (-1 : Int32) then (if (0 : Int32) = (2 : Int32) then v1 else (0 : Int32)) else (0 : Int32)))) : v37 = (0 : Int32) ∨ v37 = (1 : Int32) ∨ v37 = (2 : Int32) := by
  exact own_v37 hv37
set_option maxHeartbeats 8000000 in
theorem own_need0_85_0 (x0 : Int32) (x1 : Int32) (x2 : Int32) (x3 : Int32) (x4 : Int32) (v1 : Int32) (v2 : Int32) (v3 : Int32) (v4 : Int32) (v6 : Int32) (v36 : Int32) (v37 : Int32) (v38 : Int32) (v39 : Int32) (v40 : Int32) (v41 : Int32) (v42 : Int32) (v43 : Int32) (r47 : Int32) (v59 : Int32) (v63 : Int32) (v66 : Int32) (v69 : Int32) (v71 : Int32) (v73 : Int32) (v77 : Int32) (hv1 : v1 = ((x0 &&& (2147483647 : Int32)) % (3 : Int32))) (hv2 : v2 = (x1 &&& (1 : Int32))) (hv3 : v3 = ((x2 &&& (2147483647 : Int32)) % (3 : Int32))) (hv4 : v4 = (x3 &&& (1 : Int32))) (hv6 : v6 = (if (x4 &&& (1 : Int32)) = (0 : Int32) then (0 : Int32) else (1 : Int32))) (hv36 : v36 = (if v6 = (0 : Int32) then (1 : Int32) else F4 v1 v2 (0 : Int32) (-1 : Int32) (-1 : Int32) (-1 : Int32) (0 : Int32) (0 : Int32) (0 : Int32))) (hv37 : v37 = (if v6 = (0 : Int32) then (0 : Int32) else (if (own_el3 v1 (-1 : Int32) (-1 : Int32) (-1 : Int32)) = (-1 : Int32) then ((0 : Int32) + (1 : Int32)) else (0 : Int32)))) (hv38 : v38 = (if v6 = (0 : Int32) then (-1 : Int32) else (if (own_el3 v1 (-1 : Int32) (-1 : Int32) (-1 : Int32)) = (-1 : Int32) then (if v1 = (0 : Int32) then v2 else (-1 : Int32)) else (-1 : Int32)))) (hv39 : v39 = (if v6 = (0 : Int32) then (-1 : Int32) else (if (own_el3 v1 (-1 : Int32) (-1 : Int32) (-1 : Int32)) = (-1 : Int32) then (if v1 = (1 : Int32) then v2 else (-1 : Int32)) else (-1 : Int32)))) (hv40 : v40 = (if v6 = (0 : Int32) then (-1 : Int32) else (if (own_el3 v1 (-1 : Int32) (-1 : Int32) (-1 : Int32)) = (-1 : Int32) then (if v1 = (2 : Int32) then v2 else (-1 : Int32)) else (-1 : Int32)))) (hv41 : v41 = (if v6 = (0 : Int32) then (0 : Int32) else (if (own_el3 v1 (-1 : Int32) (-1 : Int32) (-1 : Int32)) = (-1 : Int32) then (if (0 : Int32) = (0 : Int32) then v1 else (0 : Int32)) else (0 : Int32)))) (hv42 : v42 = (if v6 = (0 : Int32) then (0 : Int32) else (if (own_el3 v1 (-1 : Int32) (-1 : Int32) (-1 : Int32)) = (-1 : Int32) then (if (0 : Int32) = (1 : Int32) then v1 else (0 : Int32)) else (0 : Int32)))) (hv43 : v43 = (if v6 = (0 : Int32) then (0 : Int32) else (if (own_el3 v1 (-1 : Int32) (-1 : Int32) (-1 : Int32)) = (-1 : Int32) then (if (0 : Int32) = (2 : Int32) then v1 else (0 : Int32)) else (0 : Int32)))) (P47 : r47 = F4 v3 v4 v37 v38 v39 v40 v41 v42 v43) (hv59 : v59 = (if v6 = (0 : Int32) then (0 : Int32) else (if v1 = v3 then (1 : Int32) else (0 : Int32)))) (hv63 : v63 = (if v59 = (0 : Int32) then (1 : Int32) else (if v2 = v4 then (1 : Int32) else (0 : Int32)))) (hv66 : v66 = (if v6 = (0 : Int32) then (0 : Int32) else (1 : Int32))) (hv69 : v69 = (if v59 = (0 : Int32) then (1 : Int32) else (0 : Int32))) (hv71 : v71 = (v66 + v69)) (hv73 : v73 = (if v6 = (0 : Int32) then v3 else v1)) (hv77 : v77 = (if v36 = (0 : Int32) then (0 : Int32) else (if r47 = v63 then (1 : Int32) else (0 : Int32)))) (hc80 : ¬ (v77 = (0 : Int32))) : (0 : Int32) = (0 : Int32) ∨ (0 : Int32) = (1 : Int32) ∨ (0 : Int32) = (2 : Int32) := by
  exact Or.inl rfl
theorem pd_3 : parseMethodDescriptor "(I)I" = some ⟨[.int], some .int⟩ := by decide +kernel
theorem pd_4 : parseMethodDescriptor "(IZIIII)I" = some ⟨[.int, .boolean, .int, .int, .int, .int], some .int⟩ := by decide +kernel
set_option maxHeartbeats 8000000 in
theorem own_need0_103_0 (x0 : Int32) (x1 : Int32) (x2 : Int32) (x3 : Int32) (x4 : Int32) (v1 : Int32) (v2 : Int32) (v3 : Int32) (v4 : Int32) (v6 : Int32) (v36 : Int32) (v37 : Int32) (v38 : Int32) (v39 : Int32) (v40 : Int32) (v41 : Int32) (v42 : Int32) (v43 : Int32) (r47 : Int32) (v59 : Int32) (v63 : Int32) (v66 : Int32) (v69 : Int32) (v71 : Int32) (v73 : Int32) (v77 : Int32) (v95 : Int32) (hv1 : v1 = ((x0 &&& (2147483647 : Int32)) % (3 : Int32))) (hv2 : v2 = (x1 &&& (1 : Int32))) (hv3 : v3 = ((x2 &&& (2147483647 : Int32)) % (3 : Int32))) (hv4 : v4 = (x3 &&& (1 : Int32))) (hv6 : v6 = (if (x4 &&& (1 : Int32)) = (0 : Int32) then (0 : Int32) else (1 : Int32))) (hv36 : v36 = (if v6 = (0 : Int32) then (1 : Int32) else F4 v1 v2 (0 : Int32) (-1 : Int32) (-1 : Int32) (-1 : Int32) (0 : Int32) (0 : Int32) (0 : Int32))) (hv37 : v37 = (if v6 = (0 : Int32) then (0 : Int32) else (if (own_el3 v1 (-1 : Int32) (-1 : Int32) (-1 : Int32)) = (-1 : Int32) then ((0 : Int32) + (1 : Int32)) else (0 : Int32)))) (hv38 : v38 = (if v6 = (0 : Int32) then (-1 : Int32) else (if (own_el3 v1 (-1 : Int32) (-1 : Int32) (-1 : Int32)) = (-1 : Int32) then (if v1 = (0 : Int32) then v2 else (-1 : Int32)) else (-1 : Int32)))) (hv39 : v39 = (if v6 = (0 : Int32) then (-1 : Int32) else (if (own_el3 v1 (-1 : Int32) (-1 : Int32) (-1 : Int32)) = (-1 : Int32) then (if v1 = (1 : Int32) then v2 else (-1 : Int32)) else (-1 : Int32)))) (hv40 : v40 = (if v6 = (0 : Int32) then (-1 : Int32) else (if (own_el3 v1 (-1 : Int32) (-1 : Int32) (-1 : Int32)) = (-1 : Int32) then (if v1 = (2 : Int32) then v2 else (-1 : Int32)) else (-1 : Int32)))) (hv41 : v41 = (if v6 = (0 : Int32) then (0 : Int32) else (if (own_el3 v1 (-1 : Int32) (-1 : Int32) (-1 : Int32)) = (-1 : Int32) then (if (0 : Int32) = (0 : Int32) then v1 else (0 : Int32)) else (0 : Int32)))) (hv42 : v42 = (if v6 = (0 : Int32) then (0 : Int32) else (if (own_el3 v1 (-1 : Int32) (-1 : Int32) (-1 : Int32)) = (-1 : Int32) then (if (0 : Int32) = (1 : Int32) then v1 else (0 : Int32)) else (0 : Int32)))) (hv43 : v43 = (if v6 = (0 : Int32) then (0 : Int32) else (if (own_el3 v1 (-1 : Int32) (-1 : Int32) (-1 : Int32)) = (-1 : Int32) then (if (0 : Int32) = (2 : Int32) then v1 else (0 : Int32)) else (0 : Int32)))) (P47 : r47 = F4 v3 v4 v37 v38 v39 v40 v41 v42 v43) (hv59 : v59 = (if v6 = (0 : Int32) then (0 : Int32) else (if v1 = v3 then (1 : Int32) else (0 : Int32)))) (hv63 : v63 = (if v59 = (0 : Int32) then (1 : Int32) else (if v2 = v4 then (1 : Int32) else (0 : Int32)))) (hv66 : v66 = (if v6 = (0 : Int32) then (0 : Int32) else (1 : Int32))) (hv69 : v69 = (if v59 = (0 : Int32) then (1 : Int32) else (0 : Int32))) (hv71 : v71 = (v66 + v69)) (hv73 : v73 = (if v6 = (0 : Int32) then v3 else v1)) (hv77 : v77 = (if v36 = (0 : Int32) then (0 : Int32) else (if r47 = v63 then (1 : Int32) else (0 : Int32)))) (hv95 : v95 = (if v77 = (0 : Int32) then (0 : Int32) else (if F5 (0 : Int32) (if (own_el3 v3 v38 v39 v40) = (-1 : Int32) then (if v3 = (0 : Int32) then v4 else v38) else v38) (if (own_el3 v3 v38 v39 v40) = (-1 : Int32) then (if v3 = (1 : Int32) then v4 else v39) else v39) (if (own_el3 v3 v38 v39 v40) = (-1 : Int32) then (if v3 = (2 : Int32) then v4 else v40) else v40) = F6 (0 : Int32) v6 v1 v2 v3 v4 then (1 : Int32) else (0 : Int32)))) (hc98 : ¬ (v95 = (0 : Int32))) : (1 : Int32) = (0 : Int32) ∨ (1 : Int32) = (1 : Int32) ∨ (1 : Int32) = (2 : Int32) := by
  exact Or.inr (Or.inl rfl)
set_option maxHeartbeats 8000000 in
theorem own_need0_121_0 (x0 : Int32) (x1 : Int32) (x2 : Int32) (x3 : Int32) (x4 : Int32) (v1 : Int32) (v2 : Int32) (v3 : Int32) (v4 : Int32) (v6 : Int32) (v36 : Int32) (v37 : Int32) (v38 : Int32) (v39 : Int32) (v40 : Int32) (v41 : Int32) (v42 : Int32) (v43 : Int32) (r47 : Int32) (v59 : Int32) (v63 : Int32) (v66 : Int32) (v69 : Int32) (v71 : Int32) (v73 : Int32) (v77 : Int32) (v95 : Int32) (v113 : Int32) (hv1 : v1 = ((x0 &&& (2147483647 : Int32)) % (3 : Int32))) (hv2 : v2 = (x1 &&& (1 : Int32))) (hv3 : v3 = ((x2 &&& (2147483647 : Int32)) % (3 : Int32))) (hv4 : v4 = (x3 &&& (1 : Int32))) (hv6 : v6 = (if (x4 &&& (1 : Int32)) = (0 : Int32) then (0 : Int32) else (1 : Int32))) (hv36 : v36 = (if v6 = (0 : Int32) then (1 : Int32) else F4 v1 v2 (0 : Int32) (-1 : Int32) (-1 : Int32) (-1 : Int32) (0 : Int32) (0 : Int32) (0 : Int32))) (hv37 : v37 = (if v6 = (0 : Int32) then (0 : Int32) else (if (own_el3 v1 (-1 : Int32) (-1 : Int32) (-1 : Int32)) = (-1 : Int32) then ((0 : Int32) + (1 : Int32)) else (0 : Int32)))) (hv38 : v38 = (if v6 = (0 : Int32) then (-1 : Int32) else (if (own_el3 v1 (-1 : Int32) (-1 : Int32) (-1 : Int32)) = (-1 : Int32) then (if v1 = (0 : Int32) then v2 else (-1 : Int32)) else (-1 : Int32)))) (hv39 : v39 = (if v6 = (0 : Int32) then (-1 : Int32) else (if (own_el3 v1 (-1 : Int32) (-1 : Int32) (-1 : Int32)) = (-1 : Int32) then (if v1 = (1 : Int32) then v2 else (-1 : Int32)) else (-1 : Int32)))) (hv40 : v40 = (if v6 = (0 : Int32) then (-1 : Int32) else (if (own_el3 v1 (-1 : Int32) (-1 : Int32) (-1 : Int32)) = (-1 : Int32) then (if v1 = (2 : Int32) then v2 else (-1 : Int32)) else (-1 : Int32)))) (hv41 : v41 = (if v6 = (0 : Int32) then (0 : Int32) else (if (own_el3 v1 (-1 : Int32) (-1 : Int32) (-1 : Int32)) = (-1 : Int32) then (if (0 : Int32) = (0 : Int32) then v1 else (0 : Int32)) else (0 : Int32)))) (hv42 : v42 = (if v6 = (0 : Int32) then (0 : Int32) else (if (own_el3 v1 (-1 : Int32) (-1 : Int32) (-1 : Int32)) = (-1 : Int32) then (if (0 : Int32) = (1 : Int32) then v1 else (0 : Int32)) else (0 : Int32)))) (hv43 : v43 = (if v6 = (0 : Int32) then (0 : Int32) else (if (own_el3 v1 (-1 : Int32) (-1 : Int32) (-1 : Int32)) = (-1 : Int32) then (if (0 : Int32) = (2 : Int32) then v1 else (0 : Int32)) else (0 : Int32)))) (P47 : r47 = F4 v3 v4 v37 v38 v39 v40 v41 v42 v43) (hv59 : v59 = (if v6 = (0 : Int32) then (0 : Int32) else (if v1 = v3 then (1 : Int32) else (0 : Int32)))) (hv63 : v63 = (if v59 = (0 : Int32) then (1 : Int32) else (if v2 = v4 then (1 : Int32) else (0 : Int32)))) (hv66 : v66 = (if v6 = (0 : Int32) then (0 : Int32) else (1 : Int32))) (hv69 : v69 = (if v59 = (0 : Int32) then (1 : Int32) else (0 : Int32))) (hv71 : v71 = (v66 + v69)) (hv73 : v73 = (if v6 = (0 : Int32) then v3 else v1)) (hv77 : v77 = (if v36 = (0 : Int32) then (0 : Int32) else (if r47 = v63 then (1 : Int32) else (0 : Int32)))) (hv95 : v95 = (if v77 = (0 : Int32) then (0 : Int32) else (if F5 (0 : Int32) (if (own_el3 v3 v38 v39 v40) = (-1 : Int32) then (if v3 = (0 : Int32) then v4 else v38) else v38) (if (own_el3 v3 v38 v39 v40) = (-1 : Int32) then (if v3 = (1 : Int32) then v4 else v39) else v39) (if (own_el3 v3 v38 v39 v40) = (-1 : Int32) then (if v3 = (2 : Int32) then v4 else v40) else v40) = F6 (0 : Int32) v6 v1 v2 v3 v4 then (1 : Int32) else (0 : Int32)))) (hv113 : v113 = (if v95 = (0 : Int32) then (0 : Int32) else (if F5 (1 : Int32) (if (own_el3 v3 v38 v39 v40) = (-1 : Int32) then (if v3 = (0 : Int32) then v4 else v38) else v38) (if (own_el3 v3 v38 v39 v40) = (-1 : Int32) then (if v3 = (1 : Int32) then v4 else v39) else v39) (if (own_el3 v3 v38 v39 v40) = (-1 : Int32) then (if v3 = (2 : Int32) then v4 else v40) else v40) = F6 (1 : Int32) v6 v1 v2 v3 v4 then (1 : Int32) else (0 : Int32)))) (hc116 : ¬ (v113 = (0 : Int32))) : (2 : Int32) = (0 : Int32) ∨ (2 : Int32) = (1 : Int32) ∨ (2 : Int32) = (2 : Int32) := by
  exact Or.inr (Or.inr rfl)
theorem pd_5 : parseMethodDescriptor "()I" = some ⟨[], some .int⟩ := by decide +kernel
set_option maxHeartbeats 8000000 in
theorem own_need0_152_0 (x0 : Int32) (x1 : Int32) (x2 : Int32) (x3 : Int32) (x4 : Int32) (v1 : Int32) (v2 : Int32) (v3 : Int32) (v4 : Int32) (v6 : Int32) (v36 : Int32) (v37 : Int32) (v38 : Int32) (v39 : Int32) (v40 : Int32) (v41 : Int32) (v42 : Int32) (v43 : Int32) (r47 : Int32) (v59 : Int32) (v63 : Int32) (v66 : Int32) (v69 : Int32) (v71 : Int32) (v73 : Int32) (v77 : Int32) (v95 : Int32) (v113 : Int32) (v131 : Int32) (v144 : Int32) (hv1 : v1 = ((x0 &&& (2147483647 : Int32)) % (3 : Int32))) (hv2 : v2 = (x1 &&& (1 : Int32))) (hv3 : v3 = ((x2 &&& (2147483647 : Int32)) % (3 : Int32))) (hv4 : v4 = (x3 &&& (1 : Int32))) (hv6 : v6 = (if (x4 &&& (1 : Int32)) = (0 : Int32) then (0 : Int32) else (1 : Int32))) (hv36 : v36 = (if v6 = (0 : Int32) then (1 : Int32) else F4 v1 v2 (0 : Int32) (-1 : Int32) (-1 : Int32) (-1 : Int32) (0 : Int32) (0 : Int32) (0 : Int32))) (hv37 : v37 = (if v6 = (0 : Int32) then (0 : Int32) else (if (own_el3 v1 (-1 : Int32) (-1 : Int32) (-1 : Int32)) = (-1 : Int32) then ((0 : Int32) + (1 : Int32)) else (0 : Int32)))) (hv38 : v38 = (if v6 = (0 : Int32) then (-1 : Int32) else (if (own_el3 v1 (-1 : Int32) (-1 : Int32) (-1 : Int32)) = (-1 : Int32) then (if v1 = (0 : Int32) then v2 else (-1 : Int32)) else (-1 : Int32)))) (hv39 : v39 = (if v6 = (0 : Int32) then (-1 : Int32) else (if (own_el3 v1 (-1 : Int32) (-1 : Int32) (-1 : Int32)) = (-1 : Int32) then (if v1 = (1 : Int32) then v2 else (-1 : Int32)) else (-1 : Int32)))) (hv40 : v40 = (if v6 = (0 : Int32) then (-1 : Int32) else (if (own_el3 v1 (-1 : Int32) (-1 : Int32) (-1 : Int32)) = (-1 : Int32) then (if v1 = (2 : Int32) then v2 else (-1 : Int32)) else (-1 : Int32)))) (hv41 : v41 = (if v6 = (0 : Int32) then (0 : Int32) else (if (own_el3 v1 (-1 : Int32) (-1 : Int32) (-1 : Int32)) = (-1 : Int32) then (if (0 : Int32) = (0 : Int32) then v1 else (0 : Int32)) else (0 : Int32)))) (hv42 : v42 = (if v6 = (0 : Int32) then (0 : Int32) else (if (own_el3 v1 (-1 : Int32) (-1 : Int32) (-1 : Int32)) = (-1 : Int32) then (if (0 : Int32) = (1 : Int32) then v1 else (0 : Int32)) else (0 : Int32)))) (hv43 : v43 = (if v6 = (0 : Int32) then (0 : Int32) else (if (own_el3 v1 (-1 : Int32) (-1 : Int32) (-1 : Int32)) = (-1 : Int32) then (if (0 : Int32) = (2 : Int32) then v1 else (0 : Int32)) else (0 : Int32)))) (P47 : r47 = F4 v3 v4 v37 v38 v39 v40 v41 v42 v43) (hv59 : v59 = (if v6 = (0 : Int32) then (0 : Int32) else (if v1 = v3 then (1 : Int32) else (0 : Int32)))) (hv63 : v63 = (if v59 = (0 : Int32) then (1 : Int32) else (if v2 = v4 then (1 : Int32) else (0 : Int32)))) (hv66 : v66 = (if v6 = (0 : Int32) then (0 : Int32) else (1 : Int32))) (hv69 : v69 = (if v59 = (0 : Int32) then (1 : Int32) else (0 : Int32))) (hv71 : v71 = (v66 + v69)) (hv73 : v73 = (if v6 = (0 : Int32) then v3 else v1)) (hv77 : v77 = (if v36 = (0 : Int32) then (0 : Int32) else (if r47 = v63 then (1 : Int32) else (0 : Int32)))) (hv95 : v95 = (if v77 = (0 : Int32) then (0 : Int32) else (if F5 (0 : Int32) (if (own_el3 v3 v38 v39 v40) = (-1 : Int32) then (if v3 = (0 : Int32) then v4 else v38) else v38) (if (own_el3 v3 v38 v39 v40) = (-1 : Int32) then (if v3 = (1 : Int32) then v4 else v39) else v39) (if (own_el3 v3 v38 v39 v40) = (-1 : Int32) then (if v3 = (2 : Int32) then v4 else v40) else v40) = F6 (0 : Int32) v6 v1 v2 v3 v4 then (1 : Int32) else (0 : Int32)))) (hv113 : v113 = (if v95 = (0 : Int32) then (0 : Int32) else (if F5 (1 : Int32) (if (own_el3 v3 v38 v39 v40) = (-1 : Int32) then (if v3 = (0 : Int32) then v4 else v38) else v38) (if (own_el3 v3 v38 v39 v40) = (-1 : Int32) then (if v3 = (1 : Int32) then v4 else v39) else v39) (if (own_el3 v3 v38 v39 v40) = (-1 : Int32) then (if v3 = (2 : Int32) then v4 else v40) else v40) = F6 (1 : Int32) v6 v1 v2 v3 v4 then (1 : Int32) else (0 : Int32)))) (hv131 : v131 = (if v113 = (0 : Int32) then (0 : Int32) else (if F5 (2 : Int32) (if (own_el3 v3 v38 v39 v40) = (-1 : Int32) then (if v3 = (0 : Int32) then v4 else v38) else v38) (if (own_el3 v3 v38 v39 v40) = (-1 : Int32) then (if v3 = (1 : Int32) then v4 else v39) else v39) (if (own_el3 v3 v38 v39 v40) = (-1 : Int32) then (if v3 = (2 : Int32) then v4 else v40) else v40) = F6 (2 : Int32) v6 v1 v2 v3 v4 then (1 : Int32) else (0 : Int32)))) (hv144 : v144 = (if v131 = (0 : Int32) then (0 : Int32) else (if F7 (if (own_el3 v3 v38 v39 v40) = (-1 : Int32) then (v37 + (1 : Int32)) else v37) = v71 then (1 : Int32) else (0 : Int32)))) (hc147 : ¬ (v144 = (0 : Int32))) : (0 : Int32) = (0 : Int32) ∨ (0 : Int32) = (1 : Int32) ∨ (0 : Int32) = (2 : Int32) := by
  exact Or.inl rfl
set_option maxHeartbeats 8000000 in
theorem own_need0_168_0 (x0 : Int32) (x1 : Int32) (x2 : Int32) (x3 : Int32) (x4 : Int32) (v1 : Int32) (v2 : Int32) (v3 : Int32) (v4 : Int32) (v6 : Int32) (v36 : Int32) (v37 : Int32) (v38 : Int32) (v39 : Int32) (v40 : Int32) (v41 : Int32) (v42 : Int32) (v43 : Int32) (r47 : Int32) (v59 : Int32) (v63 : Int32) (v66 : Int32) (v69 : Int32) (v71 : Int32) (v73 : Int32) (v77 : Int32) (v95 : Int32) (v113 : Int32) (v131 : Int32) (v144 : Int32) (v158 : Int32) (hv1 : v1 = ((x0 &&& (2147483647 : Int32)) % (3 : Int32))) (hv2 : v2 = (x1 &&& (1 : Int32))) (hv3 : v3 = ((x2 &&& (2147483647 : Int32)) % (3 : Int32))) (hv4 : v4 = (x3 &&& (1 : Int32))) (hv6 : v6 = (if (x4 &&& (1 : Int32)) = (0 : Int32) then (0 : Int32) else (1 : Int32))) (hv36 : v36 = (if v6 = (0 : Int32) then (1 : Int32) else F4 v1 v2 (0 : Int32) (-1 : Int32) (-1 : Int32) (-1 : Int32) (0 : Int32) (0 : Int32) (0 : Int32))) (hv37 : v37 = (if v6 = (0 : Int32) then (0 : Int32) else (if (own_el3 v1 (-1 : Int32) (-1 : Int32) (-1 : Int32)) = (-1 : Int32) then ((0 : Int32) + (1 : Int32)) else (0 : Int32)))) (hv38 : v38 = (if v6 = (0 : Int32) then (-1 : Int32) else (if (own_el3 v1 (-1 : Int32) (-1 : Int32) (-1 : Int32)) = (-1 : Int32) then (if v1 = (0 : Int32) then v2 else (-1 : Int32)) else (-1 : Int32)))) (hv39 : v39 = (if v6 = (0 : Int32) then (-1 : Int32) else (if (own_el3 v1 (-1 : Int32) (-1 : Int32) (-1 : Int32)) = (-1 : Int32) then (if v1 = (1 : Int32) then v2 else (-1 : Int32)) else (-1 : Int32)))) (hv40 : v40 = (if v6 = (0 : Int32) then (-1 : Int32) else (if (own_el3 v1 (-1 : Int32) (-1 : Int32) (-1 : Int32)) = (-1 : Int32) then (if v1 = (2 : Int32) then v2 else (-1 : Int32)) else (-1 : Int32)))) (hv41 : v41 = (if v6 = (0 : Int32) then (0 : Int32) else (if (own_el3 v1 (-1 : Int32) (-1 : Int32) (-1 : Int32)) = (-1 : Int32) then (if (0 : Int32) = (0 : Int32) then v1 else (0 : Int32)) else (0 : Int32)))) (hv42 : v42 = (if v6 = (0 : Int32) then (0 : Int32) else (if (own_el3 v1 (-1 : Int32) (-1 : Int32) (-1 : Int32)) = (-1 : Int32) then (if (0 : Int32) = (1 : Int32) then v1 else (0 : Int32)) else (0 : Int32)))) (hv43 : v43 = (if v6 = (0 : Int32) then (0 : Int32) else (if (own_el3 v1 (-1 : Int32) (-1 : Int32) (-1 : Int32)) = (-1 : Int32) then (if (0 : Int32) = (2 : Int32) then v1 else (0 : Int32)) else (0 : Int32)))) (P47 : r47 = F4 v3 v4 v37 v38 v39 v40 v41 v42 v43) (hv59 : v59 = (if v6 = (0 : Int32) then (0 : Int32) else (if v1 = v3 then (1 : Int32) else (0 : Int32)))) (hv63 : v63 = (if v59 = (0 : Int32) then (1 : Int32) else (if v2 = v4 then (1 : Int32) else (0 : Int32)))) (hv66 : v66 = (if v6 = (0 : Int32) then (0 : Int32) else (1 : Int32))) (hv69 : v69 = (if v59 = (0 : Int32) then (1 : Int32) else (0 : Int32))) (hv71 : v71 = (v66 + v69)) (hv73 : v73 = (if v6 = (0 : Int32) then v3 else v1)) (hv77 : v77 = (if v36 = (0 : Int32) then (0 : Int32) else (if r47 = v63 then (1 : Int32) else (0 : Int32)))) (hv95 : v95 = (if v77 = (0 : Int32) then (0 : Int32) else (if F5 (0 : Int32) (if (own_el3 v3 v38 v39 v40) = (-1 : Int32) then (if v3 = (0 : Int32) then v4 else v38) else v38) (if (own_el3 v3 v38 v39 v40) = (-1 : Int32) then (if v3 = (1 : Int32) then v4 else v39) else v39) (if (own_el3 v3 v38 v39 v40) = (-1 : Int32) then (if v3 = (2 : Int32) then v4 else v40) else v40) = F6 (0 : Int32) v6 v1 v2 v3 v4 then (1 : Int32) else (0 : Int32)))) (hv113 : v113 = (if v95 = (0 : Int32) then (0 : Int32) else (if F5 (1 : Int32) (if (own_el3 v3 v38 v39 v40) = (-1 : Int32) then (if v3 = (0 : Int32) then v4 else v38) else v38) (if (own_el3 v3 v38 v39 v40) = (-1 : Int32) then (if v3 = (1 : Int32) then v4 else v39) else v39) (if (own_el3 v3 v38 v39 v40) = (-1 : Int32) then (if v3 = (2 : Int32) then v4 else v40) else v40) = F6 (1 : Int32) v6 v1 v2 v3 v4 then (1 : Int32) else (0 : Int32)))) (hv131 : v131 = (if v113 = (0 : Int32) then (0 : Int32) else (if F5 (2 : Int32) (if (own_el3 v3 v38 v39 v40) = (-1 : Int32) then (if v3 = (0 : Int32) then v4 else v38) else v38) (if (own_el3 v3 v38 v39 v40) = (-1 : Int32) then (if v3 = (1 : Int32) then v4 else v39) else v39) (if (own_el3 v3 v38 v39 v40) = (-1 : Int32) then (if v3 = (2 : Int32) then v4 else v40) else v40) = F6 (2 : Int32) v6 v1 v2 v3 v4 then (1 : Int32) else (0 : Int32)))) (hv144 : v144 = (if v131 = (0 : Int32) then (0 : Int32) else (if F7 (if (own_el3 v3 v38 v39 v40) = (-1 : Int32) then (v37 + (1 : Int32)) else v37) = v71 then (1 : Int32) else (0 : Int32)))) (hv158 : v158 = (if v144 = (0 : Int32) then (0 : Int32) else (if F8 (0 : Int32) (if (own_el3 v3 v38 v39 v40) = (-1 : Int32) then (if v37 = (0 : Int32) then v3 else v41) else v41) (if (own_el3 v3 v38 v39 v40) = (-1 : Int32) then (if v37 = (1 : Int32) then v3 else v42) else v42) (if (own_el3 v3 v38 v39 v40) = (-1 : Int32) then (if v37 = (2 : Int32) then v3 else v43) else v43) = v73 then (1 : Int32) else (0 : Int32)))) (hc161 : v71 = (2 : Int32)) (hc163 : ¬ (v158 = (0 : Int32))) : (1 : Int32) = (0 : Int32) ∨ (1 : Int32) = (1 : Int32) ∨ (1 : Int32) = (2 : Int32) := by
  exact Or.inr (Or.inl rfl)
set_option maxHeartbeats 8000000 in
theorem own_fin (x0 : Int32) (x1 : Int32) (x2 : Int32) (x3 : Int32) (x4 : Int32) (v1 : Int32) (v2 : Int32) (v3 : Int32) (v4 : Int32) (v6 : Int32) (v36 : Int32) (v37 : Int32) (v38 : Int32) (v39 : Int32) (v40 : Int32) (v41 : Int32) (v42 : Int32) (v43 : Int32) (r47 : Int32) (v59 : Int32) (v63 : Int32) (v66 : Int32) (v69 : Int32) (v71 : Int32) (v73 : Int32) (v77 : Int32) (v95 : Int32) (v113 : Int32) (v131 : Int32) (v144 : Int32) (v158 : Int32) (v179 : Int32) (hv1 : v1 = ((x0 &&& (2147483647 : Int32)) % (3 : Int32))) (hv2 : v2 = (x1 &&& (1 : Int32))) (hv3 : v3 = ((x2 &&& (2147483647 : Int32)) % (3 : Int32))) (hv4 : v4 = (x3 &&& (1 : Int32))) (hv6 : v6 = (if (x4 &&& (1 : Int32)) = (0 : Int32) then (0 : Int32) else (1 : Int32))) (hv36 : v36 = (if v6 = (0 : Int32) then (1 : Int32) else F4 v1 v2 (0 : Int32) (-1 : Int32) (-1 : Int32) (-1 : Int32) (0 : Int32) (0 : Int32) (0 : Int32))) (hv37 : v37 = (if v6 = (0 : Int32) then (0 : Int32) else (if (own_el3 v1 (-1 : Int32) (-1 : Int32) (-1 : Int32)) = (-1 : Int32) then ((0 : Int32) + (1 : Int32)) else (0 : Int32)))) (hv38 : v38 = (if v6 = (0 : Int32) then (-1 : Int32) else (if (own_el3 v1 (-1 : Int32) (-1 : Int32) (-1 : Int32)) = (-1 : Int32) then (if v1 = (0 : Int32) then v2 else (-1 : Int32)) else (-1 : Int32)))) (hv39 : v39 = (if v6 = (0 : Int32) then (-1 : Int32) else (if (own_el3 v1 (-1 : Int32) (-1 : Int32) (-1 : Int32)) = (-1 : Int32) then (if v1 = (1 : Int32) then v2 else (-1 : Int32)) else (-1 : Int32)))) (hv40 : v40 = (if v6 = (0 : Int32) then (-1 : Int32) else (if (own_el3 v1 (-1 : Int32) (-1 : Int32) (-1 : Int32)) = (-1 : Int32) then (if v1 = (2 : Int32) then v2 else (-1 : Int32)) else (-1 : Int32)))) (hv41 : v41 = (if v6 = (0 : Int32) then (0 : Int32) else (if (own_el3 v1 (-1 : Int32) (-1 : Int32) (-1 : Int32)) = (-1 : Int32) then (if (0 : Int32) = (0 : Int32) then v1 else (0 : Int32)) else (0 : Int32)))) (hv42 : v42 = (if v6 = (0 : Int32) then (0 : Int32) else (if (own_el3 v1 (-1 : Int32) (-1 : Int32) (-1 : Int32)) = (-1 : Int32) then (if (0 : Int32) = (1 : Int32) then v1 else (0 : Int32)) else (0 : Int32)))) (hv43 : v43 = (if v6 = (0 : Int32) then (0 : Int32) else (if (own_el3 v1 (-1 : Int32) (-1 : Int32) (-1 : Int32)) = (-1 : Int32) then (if (0 : Int32) = (2 : Int32) then v1 else (0 : Int32)) else (0 : Int32)))) (P47 : r47 = F4 v3 v4 v37 v38 v39 v40 v41 v42 v43) (hv59 : v59 = (if v6 = (0 : Int32) then (0 : Int32) else (if v1 = v3 then (1 : Int32) else (0 : Int32)))) (hv63 : v63 = (if v59 = (0 : Int32) then (1 : Int32) else (if v2 = v4 then (1 : Int32) else (0 : Int32)))) (hv66 : v66 = (if v6 = (0 : Int32) then (0 : Int32) else (1 : Int32))) (hv69 : v69 = (if v59 = (0 : Int32) then (1 : Int32) else (0 : Int32))) (hv71 : v71 = (v66 + v69)) (hv73 : v73 = (if v6 = (0 : Int32) then v3 else v1)) (hv77 : v77 = (if v36 = (0 : Int32) then (0 : Int32) else (if r47 = v63 then (1 : Int32) else (0 : Int32)))) (hv95 : v95 = (if v77 = (0 : Int32) then (0 : Int32) else (if F5 (0 : Int32) (if (own_el3 v3 v38 v39 v40) = (-1 : Int32) then (if v3 = (0 : Int32) then v4 else v38) else v38) (if (own_el3 v3 v38 v39 v40) = (-1 : Int32) then (if v3 = (1 : Int32) then v4 else v39) else v39) (if (own_el3 v3 v38 v39 v40) = (-1 : Int32) then (if v3 = (2 : Int32) then v4 else v40) else v40) = F6 (0 : Int32) v6 v1 v2 v3 v4 then (1 : Int32) else (0 : Int32)))) (hv113 : v113 = (if v95 = (0 : Int32) then (0 : Int32) else (if F5 (1 : Int32) (if (own_el3 v3 v38 v39 v40) = (-1 : Int32) then (if v3 = (0 : Int32) then v4 else v38) else v38) (if (own_el3 v3 v38 v39 v40) = (-1 : Int32) then (if v3 = (1 : Int32) then v4 else v39) else v39) (if (own_el3 v3 v38 v39 v40) = (-1 : Int32) then (if v3 = (2 : Int32) then v4 else v40) else v40) = F6 (1 : Int32) v6 v1 v2 v3 v4 then (1 : Int32) else (0 : Int32)))) (hv131 : v131 = (if v113 = (0 : Int32) then (0 : Int32) else (if F5 (2 : Int32) (if (own_el3 v3 v38 v39 v40) = (-1 : Int32) then (if v3 = (0 : Int32) then v4 else v38) else v38) (if (own_el3 v3 v38 v39 v40) = (-1 : Int32) then (if v3 = (1 : Int32) then v4 else v39) else v39) (if (own_el3 v3 v38 v39 v40) = (-1 : Int32) then (if v3 = (2 : Int32) then v4 else v40) else v40) = F6 (2 : Int32) v6 v1 v2 v3 v4 then (1 : Int32) else (0 : Int32)))) (hv144 : v144 = (if v131 = (0 : Int32) then (0 : Int32) else (if F7 (if (own_el3 v3 v38 v39 v40) = (-1 : Int32) then (v37 + (1 : Int32)) else v37) = v71 then (1 : Int32) else (0 : Int32)))) (hv158 : v158 = (if v144 = (0 : Int32) then (0 : Int32) else (if F8 (0 : Int32) (if (own_el3 v3 v38 v39 v40) = (-1 : Int32) then (if v37 = (0 : Int32) then v3 else v41) else v41) (if (own_el3 v3 v38 v39 v40) = (-1 : Int32) then (if v37 = (1 : Int32) then v3 else v42) else v42) (if (own_el3 v3 v38 v39 v40) = (-1 : Int32) then (if v37 = (2 : Int32) then v3 else v43) else v43) = v73 then (1 : Int32) else (0 : Int32)))) (hv179 : v179 = (if v71 = (2 : Int32) then (if v158 = (0 : Int32) then (0 : Int32) else (if F8 (1 : Int32) (if (own_el3 v3 v38 v39 v40) = (-1 : Int32) then (if v37 = (0 : Int32) then v3 else v41) else v41) (if (own_el3 v3 v38 v39 v40) = (-1 : Int32) then (if v37 = (1 : Int32) then v3 else v42) else v42) (if (own_el3 v3 v38 v39 v40) = (-1 : Int32) then (if v37 = (2 : Int32) then v3 else v43) else v43) = v3 then (1 : Int32) else (0 : Int32))) else v158)) : v179 = (1 : Int32) := by
  have b1 := own_m3 hv1
  have b2 := own_a1 hv2
  have b3 := own_m3 hv3
  have b4 := own_a1 hv4
  have b6 := own_01 hv6
  clear hv1 hv2 hv3 hv4 hv6
  rcases b6 with rfl | rfl <;> rcases b1 with rfl | rfl | rfl <;> rcases b2 with rfl | rfl <;> ((try simp +decide only [F4, F5, F6, F7, F8, own_el3] at hv36); subst hv36; (try simp +decide only [F4, F5, F6, F7, F8, own_el3] at hv37); subst hv37; (try simp +decide only [F4, F5, F6, F7, F8, own_el3] at hv38); subst hv38; (try simp +decide only [F4, F5, F6, F7, F8, own_el3] at hv39); subst hv39; (try simp +decide only [F4, F5, F6, F7, F8, own_el3] at hv40); subst hv40; (try simp +decide only [F4, F5, F6, F7, F8, own_el3] at hv41); subst hv41; (try simp +decide only [F4, F5, F6, F7, F8, own_el3] at hv42); subst hv42; (try simp +decide only [F4, F5, F6, F7, F8, own_el3] at hv43); subst hv43; rcases b3 with rfl | rfl | rfl <;> rcases b4 with rfl | rfl <;> ((try simp +decide only [F4, F5, F6, F7, F8, own_el3] at P47); subst P47; (try simp +decide only [F4, F5, F6, F7, F8, own_el3] at hv59); subst hv59; (try simp +decide only [F4, F5, F6, F7, F8, own_el3] at hv63); subst hv63; (try simp +decide only [F4, F5, F6, F7, F8, own_el3] at hv66); subst hv66; (try simp +decide only [F4, F5, F6, F7, F8, own_el3] at hv69); subst hv69; (try simp +decide only [F4, F5, F6, F7, F8, own_el3] at hv71); subst hv71; (try simp +decide only [F4, F5, F6, F7, F8, own_el3] at hv73); subst hv73; (try simp +decide only [F4, F5, F6, F7, F8, own_el3] at hv77); subst hv77; (try simp +decide only [F4, F5, F6, F7, F8, own_el3] at hv95); subst hv95; (try simp +decide only [F4, F5, F6, F7, F8, own_el3] at hv113); subst hv113; (try simp +decide only [F4, F5, F6, F7, F8, own_el3] at hv131); subst hv131; (try simp +decide only [F4, F5, F6, F7, F8, own_el3] at hv144); subst hv144; (try simp +decide only [F4, F5, F6, F7, F8, own_el3] at hv158); subst hv158; (try simp +decide only [F4, F5, F6, F7, F8, own_el3] at hv179); subst hv179; rfl))
theorem ef_0 (m : MethodId) (x0 : Int32) (x1 : Int32) (x2 : Int32) (x3 : Int32) (x4 : Int32) : entryFrame m #[(.int x0), (.int x1), (.int x2), (.int x3), (.int x4)] maxLocals = mkF m 0 #[.val (.int x0), .val (.int x1), .val (.int x2), .val (.int x3), .val (.int x4), .unset, .unset, .unset, .unset, .unset, .unset, .unset, .unset, .unset, .unset, .unset, .unset, .unset] [] := by first | (simp [entryFrame, mkF, argsToLocals, Value.category, maxLocals]; done) | rfl
def Q0 (Z : State) (x0 : Int32) (x1 : Int32) (x2 : Int32) (x3 : Int32) (x4 : Int32) (h0 : Heap) (n0 : Nat) (v : Option Value) (h : Heap) (L : List Loc) : Prop := v = some (.int 1) ∧ Fr n0 L
set_option maxRecDepth 65536 in
set_option maxHeartbeats 40000000 in
theorem rm0 (l : Launch) (Z : State) (a0 : Array Value) (hw : ∀ d ∈ tables_1, d.before a0 Z = true) (ws : List Jvm.Cond) (x0 : Int32) (x1 : Int32) (x2 : Int32) (x3 : Int32) (x4 : Int32) (h0 : Heap) (n0 : Nat) (Z0 : n0 ≤ h0.size) :
    MetFree l x (head1 (Jvm.Cond.code x code maxLocals ret :: ws) room_1) (fun aa U => aa = #[(.int x0), (.int x1), (.int x2), (.int x3), (.int x4)] ∧ Z.Warmed39 U.vm ∧ U.heap = h0) (fun _ _ _ _ _ => True) (fun _ U o U' => ∃ v L, o = .returned v ∧ Q0 Z x0 x1 x2 x3 x4 h0 n0 v U'.heap L ∧ FrameEnd U o U' L room_1.cells room_1.slots) := by
  refine MetFree.of_bodySF (plainFor_of_name pn_2) hisR ?_
  intro p e s m args below meth c s₁ Bd hml0 hP hK
  obtain ⟨rfl, hZ, hh⟩ := hP
  have hx := Bd.exec
  have hby := Bd.bytes
  have hml : c.maxLocals = 18 := hml0
  have hown : s.vm.findClass "com/example/clocks_to_automata/clockstoautomata/semantics/AssignmentForcePinLaw" = some m.cls := findClass_of_methodNamed Bd.named
  have hnm := (name_of_methodNamed Bd.named Bd.method).1
  have X0 : Stand p l e room_1 s m #[(.int x0), (.int x1), (.int x2), (.int x3), (.int x4)] below meth c s₁ [] 0 0 := Stand.of_body Bd
  have e0 : s₁.heap = h0 := by rw [← hh, Bd.state]; rfl
  have N0 := Fr.nil n0
  have pre0 : ∀ t, Steps p.tables e below (s₁.setTop (mkF m 0 #[.val (.int x0), .val (.int x1), .val (.int x2), .val (.int x3), .val (.int x4), .unset, .unset, .unset, .unset, .unset, .unset, .unset, .unset, .unset, .unset, .unset, .unset, .unset] [])) t → Steps p.tables e below (s₁.setTop (entryFrame m #[(.int x0), (.int x1), (.int x2), (.int x3), (.int x4)] maxLocals)) t := fun t k => castTop (ef_0 m x0 x1 x2 x3 x4) k
  obtain ⟨v1, hv1⟩ : ∃ z : Int32, z = ((x0 &&& (2147483647 : Int32)) % (3 : Int32)) := ⟨_, rfl⟩
  obtain ⟨v2, hv2⟩ : ∃ z : Int32, z = (x1 &&& (1 : Int32)) := ⟨_, rfl⟩
  obtain ⟨v3, hv3⟩ : ∃ z : Int32, z = ((x2 &&& (2147483647 : Int32)) % (3 : Int32)) := ⟨_, rfl⟩
  obtain ⟨v4, hv4⟩ : ∃ z : Int32, z = (x3 &&& (1 : Int32)) := ⟨_, rfl⟩
  obtain ⟨v6, hv6⟩ : ∃ z : Int32, z = (if (x4 &&& (1 : Int32)) = (0 : Int32) then (0 : Int32) else (1 : Int32)) := ⟨_, rfl⟩
  have pre7 : ∀ t, Steps p.tables e below (s₁.setTop (mkF m 38 #[.val (.int x0), .val (.int x1), .val (.int x2), .val (.int x3), .val (.int x4), .val (.int v1), .val (.int v2), .val (.int v3), .val (.int v4), .unset, .unset, .unset, .unset, .unset, .unset, .unset, .unset, .unset] [(.int v6)])) t → Steps p.tables e below (s₁.setTop (entryFrame m #[(.int x0), (.int x1), (.int x2), (.int x3), (.int x4)] maxLocals)) t := fun t k => pre0 t (by
    subst hv4
    subst hv3
    subst hv2
    subst hv1
    show Steps p.tables e below (s₁.setTop (mkF m 0 #[.val (.int x0), .val (.int x1), .val (.int x2), .val (.int x3), .val (.int x4), .unset, .unset, .unset, .unset, .unset, .unset, .unset, .unset, .unset, .unset, .unset, .unset, .unset] [])) _
    refine XS.iloadN X0.here hx rfl (hb hby at_0) rfl ?_
    show Steps p.tables e below (s₁.setTop (mkF m 1 #[.val (.int x0), .val (.int x1), .val (.int x2), .val (.int x3), .val (.int x4), .unset, .unset, .unset, .unset, .unset, .unset, .unset, .unset, .unset, .unset, .unset, .unset, .unset] [(.int x0)])) _
    refine X0.ldcInt hx hown (mvT hZ (hw _ (List.mem_of_getElem? (i := 0) rfl))) (g := (mkF m 1 #[.val (.int x0), .val (.int x1), .val (.int x2), .val (.int x3), .val (.int x4), .unset, .unset, .unset, .unset, .unset, .unset, .unset, .unset, .unset, .unset, .unset, .unset, .unset] [(.int x0)])) rfl (hb hby at_1) _ ?_
    show Steps p.tables e below (s₁.setTop (mkF m 3 #[.val (.int x0), .val (.int x1), .val (.int x2), .val (.int x3), .val (.int x4), .unset, .unset, .unset, .unset, .unset, .unset, .unset, .unset, .unset, .unset, .unset, .unset, .unset] [(.int (2147483647 : Int32)), (.int x0)])) _
    refine XS.iand X0.here hx rfl (hb hby at_3) rfl ?_
    show Steps p.tables e below (s₁.setTop (mkF m 4 #[.val (.int x0), .val (.int x1), .val (.int x2), .val (.int x3), .val (.int x4), .unset, .unset, .unset, .unset, .unset, .unset, .unset, .unset, .unset, .unset, .unset, .unset, .unset] [(.int (x0 &&& (2147483647 : Int32)))])) _
    refine XS.iconst X0.here hx rfl (hb hby at_4) ?_
    show Steps p.tables e below (s₁.setTop (mkF m 5 #[.val (.int x0), .val (.int x1), .val (.int x2), .val (.int x3), .val (.int x4), .unset, .unset, .unset, .unset, .unset, .unset, .unset, .unset, .unset, .unset, .unset, .unset, .unset] [(.int (3 : Int32)), (.int (x0 &&& (2147483647 : Int32)))])) _
    refine iremM X0 hx rfl (hb hby at_5) rfl (by decide) ?_
    show Steps p.tables e below (s₁.setTop (mkF m 6 #[.val (.int x0), .val (.int x1), .val (.int x2), .val (.int x3), .val (.int x4), .unset, .unset, .unset, .unset, .unset, .unset, .unset, .unset, .unset, .unset, .unset, .unset, .unset] [(.int ((x0 &&& (2147483647 : Int32)) % (3 : Int32)))])) _
    refine XS.istore X0.here hx rfl (hb hby at_6) rfl (l' := #[.val (.int x0), .val (.int x1), .val (.int x2), .val (.int x3), .val (.int x4), .val (.int ((x0 &&& (2147483647 : Int32)) % (3 : Int32))), .unset, .unset, .unset, .unset, .unset, .unset, .unset, .unset, .unset, .unset, .unset, .unset]) rfl ?_
    show Steps p.tables e below (s₁.setTop (mkF m 8 #[.val (.int x0), .val (.int x1), .val (.int x2), .val (.int x3), .val (.int x4), .val (.int ((x0 &&& (2147483647 : Int32)) % (3 : Int32))), .unset, .unset, .unset, .unset, .unset, .unset, .unset, .unset, .unset, .unset, .unset, .unset] [])) _
    refine XS.iloadN X0.here hx rfl (hb hby at_8) rfl ?_
    show Steps p.tables e below (s₁.setTop (mkF m 9 #[.val (.int x0), .val (.int x1), .val (.int x2), .val (.int x3), .val (.int x4), .val (.int ((x0 &&& (2147483647 : Int32)) % (3 : Int32))), .unset, .unset, .unset, .unset, .unset, .unset, .unset, .unset, .unset, .unset, .unset, .unset] [(.int x1)])) _
    refine XS.iconst X0.here hx rfl (hb hby at_9) ?_
    show Steps p.tables e below (s₁.setTop (mkF m 10 #[.val (.int x0), .val (.int x1), .val (.int x2), .val (.int x3), .val (.int x4), .val (.int ((x0 &&& (2147483647 : Int32)) % (3 : Int32))), .unset, .unset, .unset, .unset, .unset, .unset, .unset, .unset, .unset, .unset, .unset, .unset] [(.int (1 : Int32)), (.int x1)])) _
    refine XS.iand X0.here hx rfl (hb hby at_10) rfl ?_
    show Steps p.tables e below (s₁.setTop (mkF m 11 #[.val (.int x0), .val (.int x1), .val (.int x2), .val (.int x3), .val (.int x4), .val (.int ((x0 &&& (2147483647 : Int32)) % (3 : Int32))), .unset, .unset, .unset, .unset, .unset, .unset, .unset, .unset, .unset, .unset, .unset, .unset] [(.int (x1 &&& (1 : Int32)))])) _
    refine XS.istore X0.here hx rfl (hb hby at_11) rfl (l' := #[.val (.int x0), .val (.int x1), .val (.int x2), .val (.int x3), .val (.int x4), .val (.int ((x0 &&& (2147483647 : Int32)) % (3 : Int32))), .val (.int (x1 &&& (1 : Int32))), .unset, .unset, .unset, .unset, .unset, .unset, .unset, .unset, .unset, .unset, .unset]) rfl ?_
    show Steps p.tables e below (s₁.setTop (mkF m 13 #[.val (.int x0), .val (.int x1), .val (.int x2), .val (.int x3), .val (.int x4), .val (.int ((x0 &&& (2147483647 : Int32)) % (3 : Int32))), .val (.int (x1 &&& (1 : Int32))), .unset, .unset, .unset, .unset, .unset, .unset, .unset, .unset, .unset, .unset, .unset] [])) _
    refine XS.iloadN X0.here hx rfl (hb hby at_13) rfl ?_
    show Steps p.tables e below (s₁.setTop (mkF m 14 #[.val (.int x0), .val (.int x1), .val (.int x2), .val (.int x3), .val (.int x4), .val (.int ((x0 &&& (2147483647 : Int32)) % (3 : Int32))), .val (.int (x1 &&& (1 : Int32))), .unset, .unset, .unset, .unset, .unset, .unset, .unset, .unset, .unset, .unset, .unset] [(.int x2)])) _
    refine X0.ldcInt hx hown (mvT hZ (hw _ (List.mem_of_getElem? (i := 0) rfl))) (g := (mkF m 14 #[.val (.int x0), .val (.int x1), .val (.int x2), .val (.int x3), .val (.int x4), .val (.int ((x0 &&& (2147483647 : Int32)) % (3 : Int32))), .val (.int (x1 &&& (1 : Int32))), .unset, .unset, .unset, .unset, .unset, .unset, .unset, .unset, .unset, .unset, .unset] [(.int x2)])) rfl (hb hby at_14) _ ?_
    show Steps p.tables e below (s₁.setTop (mkF m 16 #[.val (.int x0), .val (.int x1), .val (.int x2), .val (.int x3), .val (.int x4), .val (.int ((x0 &&& (2147483647 : Int32)) % (3 : Int32))), .val (.int (x1 &&& (1 : Int32))), .unset, .unset, .unset, .unset, .unset, .unset, .unset, .unset, .unset, .unset, .unset] [(.int (2147483647 : Int32)), (.int x2)])) _
    refine XS.iand X0.here hx rfl (hb hby at_16) rfl ?_
    show Steps p.tables e below (s₁.setTop (mkF m 17 #[.val (.int x0), .val (.int x1), .val (.int x2), .val (.int x3), .val (.int x4), .val (.int ((x0 &&& (2147483647 : Int32)) % (3 : Int32))), .val (.int (x1 &&& (1 : Int32))), .unset, .unset, .unset, .unset, .unset, .unset, .unset, .unset, .unset, .unset, .unset] [(.int (x2 &&& (2147483647 : Int32)))])) _
    refine XS.iconst X0.here hx rfl (hb hby at_17) ?_
    show Steps p.tables e below (s₁.setTop (mkF m 18 #[.val (.int x0), .val (.int x1), .val (.int x2), .val (.int x3), .val (.int x4), .val (.int ((x0 &&& (2147483647 : Int32)) % (3 : Int32))), .val (.int (x1 &&& (1 : Int32))), .unset, .unset, .unset, .unset, .unset, .unset, .unset, .unset, .unset, .unset, .unset] [(.int (3 : Int32)), (.int (x2 &&& (2147483647 : Int32)))])) _
    refine iremM X0 hx rfl (hb hby at_18) rfl (by decide) ?_
    show Steps p.tables e below (s₁.setTop (mkF m 19 #[.val (.int x0), .val (.int x1), .val (.int x2), .val (.int x3), .val (.int x4), .val (.int ((x0 &&& (2147483647 : Int32)) % (3 : Int32))), .val (.int (x1 &&& (1 : Int32))), .unset, .unset, .unset, .unset, .unset, .unset, .unset, .unset, .unset, .unset, .unset] [(.int ((x2 &&& (2147483647 : Int32)) % (3 : Int32)))])) _
    refine XS.istore X0.here hx rfl (hb hby at_19) rfl (l' := #[.val (.int x0), .val (.int x1), .val (.int x2), .val (.int x3), .val (.int x4), .val (.int ((x0 &&& (2147483647 : Int32)) % (3 : Int32))), .val (.int (x1 &&& (1 : Int32))), .val (.int ((x2 &&& (2147483647 : Int32)) % (3 : Int32))), .unset, .unset, .unset, .unset, .unset, .unset, .unset, .unset, .unset, .unset]) rfl ?_
    show Steps p.tables e below (s₁.setTop (mkF m 21 #[.val (.int x0), .val (.int x1), .val (.int x2), .val (.int x3), .val (.int x4), .val (.int ((x0 &&& (2147483647 : Int32)) % (3 : Int32))), .val (.int (x1 &&& (1 : Int32))), .val (.int ((x2 &&& (2147483647 : Int32)) % (3 : Int32))), .unset, .unset, .unset, .unset, .unset, .unset, .unset, .unset, .unset, .unset] [])) _
    refine XS.iloadN X0.here hx rfl (hb hby at_21) rfl ?_
    show Steps p.tables e below (s₁.setTop (mkF m 22 #[.val (.int x0), .val (.int x1), .val (.int x2), .val (.int x3), .val (.int x4), .val (.int ((x0 &&& (2147483647 : Int32)) % (3 : Int32))), .val (.int (x1 &&& (1 : Int32))), .val (.int ((x2 &&& (2147483647 : Int32)) % (3 : Int32))), .unset, .unset, .unset, .unset, .unset, .unset, .unset, .unset, .unset, .unset] [(.int x3)])) _
    refine XS.iconst X0.here hx rfl (hb hby at_22) ?_
    show Steps p.tables e below (s₁.setTop (mkF m 23 #[.val (.int x0), .val (.int x1), .val (.int x2), .val (.int x3), .val (.int x4), .val (.int ((x0 &&& (2147483647 : Int32)) % (3 : Int32))), .val (.int (x1 &&& (1 : Int32))), .val (.int ((x2 &&& (2147483647 : Int32)) % (3 : Int32))), .unset, .unset, .unset, .unset, .unset, .unset, .unset, .unset, .unset, .unset] [(.int (1 : Int32)), (.int x3)])) _
    refine XS.iand X0.here hx rfl (hb hby at_23) rfl ?_
    show Steps p.tables e below (s₁.setTop (mkF m 24 #[.val (.int x0), .val (.int x1), .val (.int x2), .val (.int x3), .val (.int x4), .val (.int ((x0 &&& (2147483647 : Int32)) % (3 : Int32))), .val (.int (x1 &&& (1 : Int32))), .val (.int ((x2 &&& (2147483647 : Int32)) % (3 : Int32))), .unset, .unset, .unset, .unset, .unset, .unset, .unset, .unset, .unset, .unset] [(.int (x3 &&& (1 : Int32)))])) _
    refine XS.istore X0.here hx rfl (hb hby at_24) rfl (l' := #[.val (.int x0), .val (.int x1), .val (.int x2), .val (.int x3), .val (.int x4), .val (.int ((x0 &&& (2147483647 : Int32)) % (3 : Int32))), .val (.int (x1 &&& (1 : Int32))), .val (.int ((x2 &&& (2147483647 : Int32)) % (3 : Int32))), .val (.int (x3 &&& (1 : Int32))), .unset, .unset, .unset, .unset, .unset, .unset, .unset, .unset, .unset]) rfl ?_
    show Steps p.tables e below (s₁.setTop (mkF m 26 #[.val (.int x0), .val (.int x1), .val (.int x2), .val (.int x3), .val (.int x4), .val (.int ((x0 &&& (2147483647 : Int32)) % (3 : Int32))), .val (.int (x1 &&& (1 : Int32))), .val (.int ((x2 &&& (2147483647 : Int32)) % (3 : Int32))), .val (.int (x3 &&& (1 : Int32))), .unset, .unset, .unset, .unset, .unset, .unset, .unset, .unset, .unset] [])) _
    refine XS.iload X0.here hx rfl (hb hby at_26) rfl ?_
    show Steps p.tables e below (s₁.setTop (mkF m 28 #[.val (.int x0), .val (.int x1), .val (.int x2), .val (.int x3), .val (.int x4), .val (.int ((x0 &&& (2147483647 : Int32)) % (3 : Int32))), .val (.int (x1 &&& (1 : Int32))), .val (.int ((x2 &&& (2147483647 : Int32)) % (3 : Int32))), .val (.int (x3 &&& (1 : Int32))), .unset, .unset, .unset, .unset, .unset, .unset, .unset, .unset, .unset] [(.int x4)])) _
    refine XS.iconst X0.here hx rfl (hb hby at_28) ?_
    show Steps p.tables e below (s₁.setTop (mkF m 29 #[.val (.int x0), .val (.int x1), .val (.int x2), .val (.int x3), .val (.int x4), .val (.int ((x0 &&& (2147483647 : Int32)) % (3 : Int32))), .val (.int (x1 &&& (1 : Int32))), .val (.int ((x2 &&& (2147483647 : Int32)) % (3 : Int32))), .val (.int (x3 &&& (1 : Int32))), .unset, .unset, .unset, .unset, .unset, .unset, .unset, .unset, .unset] [(.int (1 : Int32)), (.int x4)])) _
    refine XS.iand X0.here hx rfl (hb hby at_29) rfl ?_
    show Steps p.tables e below (s₁.setTop (mkF m 30 #[.val (.int x0), .val (.int x1), .val (.int x2), .val (.int x3), .val (.int x4), .val (.int ((x0 &&& (2147483647 : Int32)) % (3 : Int32))), .val (.int (x1 &&& (1 : Int32))), .val (.int ((x2 &&& (2147483647 : Int32)) % (3 : Int32))), .val (.int (x3 &&& (1 : Int32))), .unset, .unset, .unset, .unset, .unset, .unset, .unset, .unset, .unset] [(.int (x4 &&& (1 : Int32)))])) _
    by_cases hc5 : (x4 &&& (1 : Int32)) = (0 : Int32)
    · skip
      refine XS.ifYes X0.here hx rfl (pc0 := 30) (pc' := 37) rfl (hb hby at_30) rfl ((if0 _ _).trans (teq hc5).1) (by decide) (by decide) ?_
      show Steps p.tables e below (s₁.setTop (mkF m 37 #[.val (.int x0), .val (.int x1), .val (.int x2), .val (.int x3), .val (.int x4), .val (.int ((x0 &&& (2147483647 : Int32)) % (3 : Int32))), .val (.int (x1 &&& (1 : Int32))), .val (.int ((x2 &&& (2147483647 : Int32)) % (3 : Int32))), .val (.int (x3 &&& (1 : Int32))), .unset, .unset, .unset, .unset, .unset, .unset, .unset, .unset, .unset] [])) _
      refine XS.iconst X0.here hx rfl (hb hby at_37) ?_
      show Steps p.tables e below (s₁.setTop (mkF m 38 #[.val (.int x0), .val (.int x1), .val (.int x2), .val (.int x3), .val (.int x4), .val (.int ((x0 &&& (2147483647 : Int32)) % (3 : Int32))), .val (.int (x1 &&& (1 : Int32))), .val (.int ((x2 &&& (2147483647 : Int32)) % (3 : Int32))), .val (.int (x3 &&& (1 : Int32))), .unset, .unset, .unset, .unset, .unset, .unset, .unset, .unset, .unset] [(.int (0 : Int32))])) _
      rw [show v6 = (0 : Int32) from by rw [hv6, if_pos hc5]] at k
      exact k
    · skip
      refine XS.ifNo X0.here hx rfl (hb hby at_30) rfl ((if0 _ _).trans (feq hc5).1) ?_
      show Steps p.tables e below (s₁.setTop (mkF m 33 #[.val (.int x0), .val (.int x1), .val (.int x2), .val (.int x3), .val (.int x4), .val (.int ((x0 &&& (2147483647 : Int32)) % (3 : Int32))), .val (.int (x1 &&& (1 : Int32))), .val (.int ((x2 &&& (2147483647 : Int32)) % (3 : Int32))), .val (.int (x3 &&& (1 : Int32))), .unset, .unset, .unset, .unset, .unset, .unset, .unset, .unset, .unset] [])) _
      refine XS.iconst X0.here hx rfl (hb hby at_33) ?_
      show Steps p.tables e below (s₁.setTop (mkF m 34 #[.val (.int x0), .val (.int x1), .val (.int x2), .val (.int x3), .val (.int x4), .val (.int ((x0 &&& (2147483647 : Int32)) % (3 : Int32))), .val (.int (x1 &&& (1 : Int32))), .val (.int ((x2 &&& (2147483647 : Int32)) % (3 : Int32))), .val (.int (x3 &&& (1 : Int32))), .unset, .unset, .unset, .unset, .unset, .unset, .unset, .unset, .unset] [(.int (1 : Int32))])) _
      refine XS.goto X0.here hx rfl (pc0 := 34) (pc' := 38) rfl (hb hby at_34) (by decide) (by decide) ?_
      show Steps p.tables e below (s₁.setTop (mkF m 38 #[.val (.int x0), .val (.int x1), .val (.int x2), .val (.int x3), .val (.int x4), .val (.int ((x0 &&& (2147483647 : Int32)) % (3 : Int32))), .val (.int (x1 &&& (1 : Int32))), .val (.int ((x2 &&& (2147483647 : Int32)) % (3 : Int32))), .val (.int (x3 &&& (1 : Int32))), .unset, .unset, .unset, .unset, .unset, .unset, .unset, .unset, .unset] [(.int (1 : Int32))])) _
      rw [show v6 = (1 : Int32) from by rw [hv6, if_neg hc5]] at k
      exact k)
  have pre8 : ∀ t, Steps p.tables e below (s₁.setTop (mkF m 40 #[.val (.int x0), .val (.int x1), .val (.int x2), .val (.int x3), .val (.int x4), .val (.int v1), .val (.int v2), .val (.int v3), .val (.int v4), .val (.int v6), .unset, .unset, .unset, .unset, .unset, .unset, .unset, .unset] [])) t → Steps p.tables e below (s₁.setTop (entryFrame m #[(.int x0), (.int x1), (.int x2), (.int x3), (.int x4)] maxLocals)) t := fun t k => pre7 t (by
    show Steps p.tables e below (s₁.setTop (mkF m 38 #[.val (.int x0), .val (.int x1), .val (.int x2), .val (.int x3), .val (.int x4), .val (.int v1), .val (.int v2), .val (.int v3), .val (.int v4), .unset, .unset, .unset, .unset, .unset, .unset, .unset, .unset, .unset] [(.int v6)])) _
    refine XS.istore X0.here hx rfl (hb hby at_38) rfl (l' := #[.val (.int x0), .val (.int x1), .val (.int x2), .val (.int x3), .val (.int x4), .val (.int v1), .val (.int v2), .val (.int v3), .val (.int v4), .val (.int v6), .unset, .unset, .unset, .unset, .unset, .unset, .unset, .unset]) rfl ?_
    show Steps p.tables e below (s₁.setTop (mkF m 40 #[.val (.int x0), .val (.int x1), .val (.int x2), .val (.int x3), .val (.int x4), .val (.int v1), .val (.int v2), .val (.int v3), .val (.int v4), .val (.int v6), .unset, .unset, .unset, .unset, .unset, .unset, .unset, .unset] [])) _
    exact k)
  obtain ⟨T9, h9, X9, e9, E9, A9, D9, -, st9⟩ := newO X0 hx hZ hown (hw _ (List.mem_of_getElem? (i := 1) rfl)) (hw _ (List.mem_of_getElem? (i := 2) rfl)) (hw _ (List.mem_of_getElem? (i := 3) rfl)) e0 (g := (mkF m 40 #[.val (.int x0), .val (.int x1), .val (.int x2), .val (.int x3), .val (.int x4), .val (.int v1), .val (.int v2), .val (.int v3), .val (.int v4), .val (.int v6), .unset, .unset, .unset, .unset, .unset, .unset, .unset, .unset] [])) rfl (hb hby at_40) (by decide) (by decide)
  obtain ⟨b9, g9⟩ : ∃ z, z = h0.size := ⟨_, rfl⟩
  rw [← g9] at A9 D9 st9
  have g_b9 : n0 ≤ b9 := Nat.le_trans Z0 (Nat.le_of_eq g9.symm)
  have Zz9 : n0 ≤ h9.size := Nat.le_trans Z0 E9.1
  have F_values_b9 : Fld Z h9 b9 "com/example/clocks_to_automata/clockstoautomata/semantics/Assignment" "values" "[I" .null := D9 (Or.inr (hw _ (List.mem_of_getElem? (i := 12) rfl))) (ty := (.array .int)) (by decide)
  have F_trail_b9 : Fld Z h9 b9 "com/example/clocks_to_automata/clockstoautomata/semantics/Assignment" "trail" "[I" .null := D9 (Or.inr (hw _ (List.mem_of_getElem? (i := 18) rfl))) (ty := (.array .int)) (by decide)
  have F_trailSize_b9 : Fld Z h9 b9 "com/example/clocks_to_automata/clockstoautomata/semantics/Assignment" "trailSize" "I" (.int (0 : Int32)) := D9 (Or.inl (hw _ (List.mem_of_getElem? (i := 25) rfl))) (ty := .int) (by decide)
  have pre10 : ∀ t, Steps p.tables e below (T9.setTop (mkF m 43 #[.val (.int x0), .val (.int x1), .val (.int x2), .val (.int x3), .val (.int x4), .val (.int v1), .val (.int v2), .val (.int v3), .val (.int v4), .val (.int v6), .unset, .unset, .unset, .unset, .unset, .unset, .unset, .unset] [(.ref b9)])) t → Steps p.tables e below (s₁.setTop (entryFrame m #[(.int x0), (.int x1), (.int x2), (.int x3), (.int x4)] maxLocals)) t := fun t k => pre8 t (st9 _ k)
  have pre11 : ∀ t, Steps p.tables e below (T9.setTop (mkF m 45 #[.val (.int x0), .val (.int x1), .val (.int x2), .val (.int x3), .val (.int x4), .val (.int v1), .val (.int v2), .val (.int v3), .val (.int v4), .val (.int v6), .unset, .unset, .unset, .unset, .unset, .unset, .unset, .unset] [(.int (3 : Int32)), (.ref b9), (.ref b9)])) t → Steps p.tables e below (s₁.setTop (entryFrame m #[(.int x0), (.int x1), (.int x2), (.int x3), (.int x4)] maxLocals)) t := fun t k => pre10 t (by
    show Steps p.tables e below (T9.setTop (mkF m 43 #[.val (.int x0), .val (.int x1), .val (.int x2), .val (.int x3), .val (.int x4), .val (.int v1), .val (.int v2), .val (.int v3), .val (.int v4), .val (.int v6), .unset, .unset, .unset, .unset, .unset, .unset, .unset, .unset] [(.ref b9)])) _
    refine XS.dup X9.here hx rfl (hb hby at_43) rfl rfl ?_
    show Steps p.tables e below (T9.setTop (mkF m 44 #[.val (.int x0), .val (.int x1), .val (.int x2), .val (.int x3), .val (.int x4), .val (.int v1), .val (.int v2), .val (.int v3), .val (.int v4), .val (.int v6), .unset, .unset, .unset, .unset, .unset, .unset, .unset, .unset] [(.ref b9), (.ref b9)])) _
    refine XS.iconst X9.here hx rfl (hb hby at_44) ?_
    show Steps p.tables e below (T9.setTop (mkF m 45 #[.val (.int x0), .val (.int x1), .val (.int x2), .val (.int x3), .val (.int x4), .val (.int v1), .val (.int v2), .val (.int v3), .val (.int v4), .val (.int v6), .unset, .unset, .unset, .unset, .unset, .unset, .unset, .unset] [(.int (3 : Int32)), (.ref b9), (.ref b9)])) _
    exact k)
  obtain ⟨_, _, ⟨T13, L13, k13, n13⟩, -, X13, ⟨Lc13, hQ13, l13, y13, z13⟩, st13⟩ := X9.specialBack hx (y := (⟨"com/example/clocks_to_automata/clockstoautomata/semantics/Assignment", "<init>", "(I)V"⟩ : MethodName)) rfl hown (mvT hZ (hw _ (List.mem_of_getElem? (i := 4) rfl))) (mvT hZ (hw _ (List.mem_of_getElem? (i := 5) rfl))) (mvT hZ (hw _ (List.mem_of_getElem? (i := 6) rfl))) (by decide) (backOf (W := 1) (rm1 l Z a0 hw [] b9  h9 n0 Zz9 A9 F_values_b9 F_trail_b9 F_trailSize_b9 g_b9) hZ (hw _ (List.mem_of_getElem? (i := 6) rfl)) (hw _ (List.mem_of_getElem? (i := 3) rfl)) (by decide) (by decide)) (g := (mkF m 45 #[.val (.int x0), .val (.int x1), .val (.int x2), .val (.int x3), .val (.int x4), .val (.int v1), .val (.int v2), .val (.int v3), .val (.int v4), .val (.int v6), .unset, .unset, .unset, .unset, .unset, .unset, .unset, .unset] [(.int (3 : Int32)), (.ref b9), (.ref b9)])) rfl (by rw [hml]; rfl) (Steps.refl _) (a := b9) (argsL := [(.int (3 : Int32))]) (rest := [(.ref b9)]) (lenOf pd_1 rfl) rfl (by show 2 * 0 + _ ≤ _; exact Nat.le_of_eq rfl) (hb hby at_45) (fun _ _ => ⟨rfl, e9, (by decide : 1 + 2 ≤ _), (by decide : 3 + 6 ≤ _)⟩)
  dsimp only [Pt.U, Pt.locs, Pt.cells, Pt.slots] at X13 l13 y13 z13 st13 hQ13
  subst l13 y13 z13
  obtain ⟨bv_13, bt_13, kv_13, kt_13, rfl, N13q, K13, o13_0, o13_1, o13_2, o13_3, o13_4, o13_5, o13_6, o13_7, o13_8, o13_9, o13_10⟩ := hQ13
  have N13 := Fr.app N0 N13q
  have pre14 : ∀ t, Steps p.tables e below (T13.setTop (mkF m 48 #[.val (.int x0), .val (.int x1), .val (.int x2), .val (.int x3), .val (.int x4), .val (.int v1), .val (.int v2), .val (.int v3), .val (.int v4), .val (.int v6), .unset, .unset, .unset, .unset, .unset, .unset, .unset, .unset] [(.ref b9)])) t → Steps p.tables e below (s₁.setTop (entryFrame m #[(.int x0), (.int x1), (.int x2), (.int x3), (.int x4)] maxLocals)) t := fun t k => pre11 t (st13.trans k)
  have Zz13 : n0 ≤ T13.heap.size := Nat.le_trans Zz9 K13.1
  have c15 := (A9).keep K13
  have pre19 : ∀ t, Steps p.tables e below (T13.setTop (mkF m 55 #[.val (.int x0), .val (.int x1), .val (.int x2), .val (.int x3), .val (.int x4), .val (.int v1), .val (.int v2), .val (.int v3), .val (.int v4), .val (.int v6), .val (.ref b9), .val (.int (1 : Int32)), .unset, .unset, .unset, .unset, .unset, .unset] [(.int v6)])) t → Steps p.tables e below (s₁.setTop (entryFrame m #[(.int x0), (.int x1), (.int x2), (.int x3), (.int x4)] maxLocals)) t := fun t k => pre14 t (by
    show Steps p.tables e below (T13.setTop (mkF m 48 #[.val (.int x0), .val (.int x1), .val (.int x2), .val (.int x3), .val (.int x4), .val (.int v1), .val (.int v2), .val (.int v3), .val (.int v4), .val (.int v6), .unset, .unset, .unset, .unset, .unset, .unset, .unset, .unset] [(.ref b9)])) _
    refine XS.astore X13.here hx rfl (hb hby at_48) rfl rfl (l' := #[.val (.int x0), .val (.int x1), .val (.int x2), .val (.int x3), .val (.int x4), .val (.int v1), .val (.int v2), .val (.int v3), .val (.int v4), .val (.int v6), .val (.ref b9), .unset, .unset, .unset, .unset, .unset, .unset, .unset]) rfl ?_
    show Steps p.tables e below (T13.setTop (mkF m 50 #[.val (.int x0), .val (.int x1), .val (.int x2), .val (.int x3), .val (.int x4), .val (.int v1), .val (.int v2), .val (.int v3), .val (.int v4), .val (.int v6), .val (.ref b9), .unset, .unset, .unset, .unset, .unset, .unset, .unset] [])) _
    refine XS.iconst X13.here hx rfl (hb hby at_50) ?_
    show Steps p.tables e below (T13.setTop (mkF m 51 #[.val (.int x0), .val (.int x1), .val (.int x2), .val (.int x3), .val (.int x4), .val (.int v1), .val (.int v2), .val (.int v3), .val (.int v4), .val (.int v6), .val (.ref b9), .unset, .unset, .unset, .unset, .unset, .unset, .unset] [(.int (1 : Int32))])) _
    refine XS.istore X13.here hx rfl (hb hby at_51) rfl (l' := #[.val (.int x0), .val (.int x1), .val (.int x2), .val (.int x3), .val (.int x4), .val (.int v1), .val (.int v2), .val (.int v3), .val (.int v4), .val (.int v6), .val (.ref b9), .val (.int (1 : Int32)), .unset, .unset, .unset, .unset, .unset, .unset]) rfl ?_
    show Steps p.tables e below (T13.setTop (mkF m 53 #[.val (.int x0), .val (.int x1), .val (.int x2), .val (.int x3), .val (.int x4), .val (.int v1), .val (.int v2), .val (.int v3), .val (.int v4), .val (.int v6), .val (.ref b9), .val (.int (1 : Int32)), .unset, .unset, .unset, .unset, .unset, .unset] [])) _
    refine XS.iload X13.here hx rfl (hb hby at_53) rfl ?_
    show Steps p.tables e below (T13.setTop (mkF m 55 #[.val (.int x0), .val (.int x1), .val (.int x2), .val (.int x3), .val (.int x4), .val (.int v1), .val (.int v2), .val (.int v3), .val (.int v4), .val (.int v6), .val (.ref b9), .val (.int (1 : Int32)), .unset, .unset, .unset, .unset, .unset, .unset] [(.int v6)])) _
    exact k)
  obtain ⟨v36, hv36⟩ : ∃ z : Int32, z = (if v6 = (0 : Int32) then (1 : Int32) else F4 v1 v2 (0 : Int32) (-1 : Int32) (-1 : Int32) (-1 : Int32) (0 : Int32) (0 : Int32) (0 : Int32)) := ⟨_, rfl⟩
  obtain ⟨v37, hv37⟩ : ∃ z : Int32, z = (if v6 = (0 : Int32) then (0 : Int32) else (if (own_el3 v1 (-1 : Int32) (-1 : Int32) (-1 : Int32)) = (-1 : Int32) then ((0 : Int32) + (1 : Int32)) else (0 : Int32))) := ⟨_, rfl⟩
  obtain ⟨v38, hv38⟩ : ∃ z : Int32, z = (if v6 = (0 : Int32) then (-1 : Int32) else (if (own_el3 v1 (-1 : Int32) (-1 : Int32) (-1 : Int32)) = (-1 : Int32) then (if v1 = (0 : Int32) then v2 else (-1 : Int32)) else (-1 : Int32))) := ⟨_, rfl⟩
  obtain ⟨v39, hv39⟩ : ∃ z : Int32, z = (if v6 = (0 : Int32) then (-1 : Int32) else (if (own_el3 v1 (-1 : Int32) (-1 : Int32) (-1 : Int32)) = (-1 : Int32) then (if v1 = (1 : Int32) then v2 else (-1 : Int32)) else (-1 : Int32))) := ⟨_, rfl⟩
  obtain ⟨v40, hv40⟩ : ∃ z : Int32, z = (if v6 = (0 : Int32) then (-1 : Int32) else (if (own_el3 v1 (-1 : Int32) (-1 : Int32) (-1 : Int32)) = (-1 : Int32) then (if v1 = (2 : Int32) then v2 else (-1 : Int32)) else (-1 : Int32))) := ⟨_, rfl⟩
  obtain ⟨v41, hv41⟩ : ∃ z : Int32, z = (if v6 = (0 : Int32) then (0 : Int32) else (if (own_el3 v1 (-1 : Int32) (-1 : Int32) (-1 : Int32)) = (-1 : Int32) then (if (0 : Int32) = (0 : Int32) then v1 else (0 : Int32)) else (0 : Int32))) := ⟨_, rfl⟩
  obtain ⟨v42, hv42⟩ : ∃ z : Int32, z = (if v6 = (0 : Int32) then (0 : Int32) else (if (own_el3 v1 (-1 : Int32) (-1 : Int32) (-1 : Int32)) = (-1 : Int32) then (if (0 : Int32) = (1 : Int32) then v1 else (0 : Int32)) else (0 : Int32))) := ⟨_, rfl⟩
  obtain ⟨v43, hv43⟩ : ∃ z : Int32, z = (if v6 = (0 : Int32) then (0 : Int32) else (if (own_el3 v1 (-1 : Int32) (-1 : Int32) (-1 : Int32)) = (-1 : Int32) then (if (0 : Int32) = (2 : Int32) then v1 else (0 : Int32)) else (0 : Int32))) := ⟨_, rfl⟩
  obtain ⟨T35, L35, X35, N35, Zz35, f35_0, f35_1, f35_2, f35_3, f35_4, f35_5, pre44⟩ : ∃ (T35 : State) (L35 : List Loc), Stand p l e room_1 s m #[(.int x0), (.int x1), (.int x2), (.int x3), (.int x4)] below meth c T35 L35 3 9 ∧ Fr n0 L35 ∧ n0 ≤ T35.heap.size ∧ (Exa Z T35.heap b9 "com/example/clocks_to_automata/clockstoautomata/semantics/Assignment") ∧ (Fld Z T35.heap b9 "com/example/clocks_to_automata/clockstoautomata/semantics/Assignment" "values" "[I" (.ref bv_13)) ∧ (Fld Z T35.heap b9 "com/example/clocks_to_automata/clockstoautomata/semantics/Assignment" "trail" "[I" (.ref bt_13)) ∧ (Fld Z T35.heap b9 "com/example/clocks_to_automata/clockstoautomata/semantics/Assignment" "trailSize" "I" (.int v37)) ∧ (Arv Z T35.heap bv_13 kv_13 .int (3 : Int32) [(.int v38), (.int v39), (.int v40)] (.int (0 : Int32))) ∧ (Arv Z T35.heap bt_13 kt_13 .int (3 : Int32) [(.int v41), (.int v42), (.int v43)] (.int (0 : Int32))) ∧ ∀ t, Steps p.tables e below (T35.setTop (mkF m 69 #[.val (.int x0), .val (.int x1), .val (.int x2), .val (.int x3), .val (.int x4), .val (.int v1), .val (.int v2), .val (.int v3), .val (.int v4), .val (.int v6), .val (.ref b9), .val (.int v36), .unset, .unset, .unset, .unset, .unset, .unset] [])) t → Steps p.tables e below (s₁.setTop (entryFrame m #[(.int x0), (.int x1), (.int x2), (.int x3), (.int x4)] maxLocals)) t := by
    by_cases hc20 : v6 = (0 : Int32)
    · skip
      have pre21 : ∀ t, Steps p.tables e below (T13.setTop (mkF m 69 #[.val (.int x0), .val (.int x1), .val (.int x2), .val (.int x3), .val (.int x4), .val (.int v1), .val (.int v2), .val (.int v3), .val (.int v4), .val (.int v6), .val (.ref b9), .val (.int (1 : Int32)), .unset, .unset, .unset, .unset, .unset, .unset] [])) t → Steps p.tables e below (s₁.setTop (entryFrame m #[(.int x0), (.int x1), (.int x2), (.int x3), (.int x4)] maxLocals)) t := fun t k => pre19 t (by
        show Steps p.tables e below (T13.setTop (mkF m 55 #[.val (.int x0), .val (.int x1), .val (.int x2), .val (.int x3), .val (.int x4), .val (.int v1), .val (.int v2), .val (.int v3), .val (.int v4), .val (.int v6), .val (.ref b9), .val (.int (1 : Int32)), .unset, .unset, .unset, .unset, .unset, .unset] [(.int v6)])) _
        refine XS.ifYes X13.here hx rfl (pc0 := 55) (pc' := 69) rfl (hb hby at_55) rfl ((if0 _ _).trans (teq hc20).1) (by decide) (by decide) ?_
        show Steps p.tables e below (T13.setTop (mkF m 69 #[.val (.int x0), .val (.int x1), .val (.int x2), .val (.int x3), .val (.int x4), .val (.int v1), .val (.int v2), .val (.int v3), .val (.int v4), .val (.int v6), .val (.ref b9), .val (.int (1 : Int32)), .unset, .unset, .unset, .unset, .unset, .unset] [])) _
        exact k)
      rw [if_pos hc20] at hv36
      rw [if_pos hc20] at hv37
      rw [if_pos hc20] at hv38
      rw [if_pos hc20] at hv39
      rw [if_pos hc20] at hv40
      rw [if_pos hc20] at hv41
      rw [if_pos hc20] at hv42
      rw [if_pos hc20] at hv43
      subst hv36 hv37 hv38 hv39 hv40 hv41 hv42 hv43
      exact ⟨_, _, X13, N13, Zz13, o13_0, o13_1, o13_2, o13_3, o13_4, o13_5, pre21⟩
    · skip
      have pre22 : ∀ t, Steps p.tables e below (T13.setTop (mkF m 64 #[.val (.int x0), .val (.int x1), .val (.int x2), .val (.int x3), .val (.int x4), .val (.int v1), .val (.int v2), .val (.int v3), .val (.int v4), .val (.int v6), .val (.ref b9), .val (.int (1 : Int32)), .unset, .unset, .unset, .unset, .unset, .unset] [(.int v2), (.int v1), (.ref b9)])) t → Steps p.tables e below (s₁.setTop (entryFrame m #[(.int x0), (.int x1), (.int x2), (.int x3), (.int x4)] maxLocals)) t := fun t k => pre19 t (by
        show Steps p.tables e below (T13.setTop (mkF m 55 #[.val (.int x0), .val (.int x1), .val (.int x2), .val (.int x3), .val (.int x4), .val (.int v1), .val (.int v2), .val (.int v3), .val (.int v4), .val (.int v6), .val (.ref b9), .val (.int (1 : Int32)), .unset, .unset, .unset, .unset, .unset, .unset] [(.int v6)])) _
        refine XS.ifNo X13.here hx rfl (hb hby at_55) rfl ((if0 _ _).trans (feq hc20).1) ?_
        show Steps p.tables e below (T13.setTop (mkF m 58 #[.val (.int x0), .val (.int x1), .val (.int x2), .val (.int x3), .val (.int x4), .val (.int v1), .val (.int v2), .val (.int v3), .val (.int v4), .val (.int v6), .val (.ref b9), .val (.int (1 : Int32)), .unset, .unset, .unset, .unset, .unset, .unset] [])) _
        refine XS.aload X13.here hx rfl (hb hby at_58) rfl rfl ?_
        show Steps p.tables e below (T13.setTop (mkF m 60 #[.val (.int x0), .val (.int x1), .val (.int x2), .val (.int x3), .val (.int x4), .val (.int v1), .val (.int v2), .val (.int v3), .val (.int v4), .val (.int v6), .val (.ref b9), .val (.int (1 : Int32)), .unset, .unset, .unset, .unset, .unset, .unset] [(.ref b9)])) _
        refine XS.iload X13.here hx rfl (hb hby at_60) rfl ?_
        show Steps p.tables e below (T13.setTop (mkF m 62 #[.val (.int x0), .val (.int x1), .val (.int x2), .val (.int x3), .val (.int x4), .val (.int v1), .val (.int v2), .val (.int v3), .val (.int v4), .val (.int v6), .val (.ref b9), .val (.int (1 : Int32)), .unset, .unset, .unset, .unset, .unset, .unset] [(.int v1), (.ref b9)])) _
        refine XS.iload X13.here hx rfl (hb hby at_62) rfl ?_
        show Steps p.tables e below (T13.setTop (mkF m 64 #[.val (.int x0), .val (.int x1), .val (.int x2), .val (.int x3), .val (.int x4), .val (.int v1), .val (.int v2), .val (.int v3), .val (.int v4), .val (.int v6), .val (.ref b9), .val (.int (1 : Int32)), .unset, .unset, .unset, .unset, .unset, .unset] [(.int v2), (.int v1), (.ref b9)])) _
        exact k)
      obtain ⟨cq24, kq24, q24a, q24b, q24c⟩ := isOf hZ rfl o13_0
      obtain ⟨_, _, ⟨T24, L24, k24, n24⟩, -, X24, ⟨Lc24, hQ24, l24, y24, z24⟩, st24⟩ := X13.virtualBack hx (y := (⟨"com/example/clocks_to_automata/clockstoautomata/semantics/Assignment", "force", "(II)Z"⟩ : MethodName)) (z := (⟨"com/example/clocks_to_automata/clockstoautomata/semantics/Assignment", "force", "(II)Z"⟩ : MethodName)) hown (mvT hZ (hw _ (List.mem_of_getElem? (i := 19) rfl))) (mvT hZ (hw _ (List.mem_of_getElem? (i := 20) rfl))) (notFace_of_selects (args := #[]) (mvT hZ (hw _ (List.mem_of_getElem? (i := 22) rfl)))) (mvT hZ (hw _ (List.mem_of_getElem? (i := 22) rfl))) (mvT hZ (hw _ (List.mem_of_getElem? (i := 21) rfl))) (by decide) (backOf (W := 0) (rm4 l Z a0 hw [] b9 v1 v2 bv_13 bt_13 kv_13 kt_13 (0 : Int32) (-1 : Int32) (-1 : Int32) (-1 : Int32) (0 : Int32) (0 : Int32) (0 : Int32) T13.heap n0 Zz13 o13_0 o13_1 o13_2 o13_3 o13_4 o13_5 g_b9 o13_6 o13_7 o13_8 o13_9 o13_10 (own_need0_25_0 x0 x1 x2 x3 x4 v1 v2 v3 v4 v6 hv1 hv2 hv3 hv4 hv6 hc20) (own_need0_26_1 x0 x1 x2 x3 x4 v1 v2 v3 v4 v6 hv1 hv2 hv3 hv4 hv6 hc20)) hZ (hw _ (List.mem_of_getElem? (i := 23) rfl)) (hw _ (List.mem_of_getElem? (i := 3) rfl)) (by decide) (by decide)) q24a q24c (g := (mkF m 64 #[.val (.int x0), .val (.int x1), .val (.int x2), .val (.int x3), .val (.int x4), .val (.int v1), .val (.int v2), .val (.int v3), .val (.int v4), .val (.int v6), .val (.ref b9), .val (.int (1 : Int32)), .unset, .unset, .unset, .unset, .unset, .unset] [(.int v2), (.int v1), (.ref b9)])) rfl (by rw [hml]; rfl) (Steps.refl _) (argsL := [(.int v1), (.int v2)]) (rest := []) (lenOf pd_2 rfl) rfl (by show 2 * 0 + _ ≤ _; exact Nat.le_of_eq rfl) (hb hby at_64) (fun _ _ => ⟨rfl, rfl, (by decide : 3 + 0 ≤ _), (by decide : 9 + 0 ≤ _)⟩)
      dsimp only [Pt.U, Pt.locs, Pt.cells, Pt.slots] at X24 l24 y24 z24 st24 hQ24
      subst l24 y24 z24
      obtain ⟨r24, rfl, N24q, K24, o24_0, o24_1, o24_2, o24_3, o24_4, o24_5, P24⟩ := hQ24
      have N24 := Fr.app N13 N24q
      have pre27 : ∀ t, Steps p.tables e below (T24.setTop (mkF m 67 #[.val (.int x0), .val (.int x1), .val (.int x2), .val (.int x3), .val (.int x4), .val (.int v1), .val (.int v2), .val (.int v3), .val (.int v4), .val (.int v6), .val (.ref b9), .val (.int (1 : Int32)), .unset, .unset, .unset, .unset, .unset, .unset] [(.int r24)])) t → Steps p.tables e below (s₁.setTop (entryFrame m #[(.int x0), (.int x1), (.int x2), (.int x3), (.int x4)] maxLocals)) t := fun t k => pre22 t (st24.trans k)
      have Zz24 : n0 ≤ T24.heap.size := Nat.le_trans Zz13 K24.1
      have c28 := (o13_0).keep K24
      have pre34 : ∀ t, Steps p.tables e below (T24.setTop (mkF m 69 #[.val (.int x0), .val (.int x1), .val (.int x2), .val (.int x3), .val (.int x4), .val (.int v1), .val (.int v2), .val (.int v3), .val (.int v4), .val (.int v6), .val (.ref b9), .val (.int r24), .unset, .unset, .unset, .unset, .unset, .unset] [])) t → Steps p.tables e below (s₁.setTop (entryFrame m #[(.int x0), (.int x1), (.int x2), (.int x3), (.int x4)] maxLocals)) t := fun t k => pre27 t (by
        show Steps p.tables e below (T24.setTop (mkF m 67 #[.val (.int x0), .val (.int x1), .val (.int x2), .val (.int x3), .val (.int x4), .val (.int v1), .val (.int v2), .val (.int v3), .val (.int v4), .val (.int v6), .val (.ref b9), .val (.int (1 : Int32)), .unset, .unset, .unset, .unset, .unset, .unset] [(.int r24)])) _
        refine XS.istore X24.here hx rfl (hb hby at_67) rfl (l' := #[.val (.int x0), .val (.int x1), .val (.int x2), .val (.int x3), .val (.int x4), .val (.int v1), .val (.int v2), .val (.int v3), .val (.int v4), .val (.int v6), .val (.ref b9), .val (.int r24), .unset, .unset, .unset, .unset, .unset, .unset]) rfl ?_
        show Steps p.tables e below (T24.setTop (mkF m 69 #[.val (.int x0), .val (.int x1), .val (.int x2), .val (.int x3), .val (.int x4), .val (.int v1), .val (.int v2), .val (.int v3), .val (.int v4), .val (.int v6), .val (.ref b9), .val (.int r24), .unset, .unset, .unset, .unset, .unset, .unset] [])) _
        exact k)
      rw [if_neg hc20] at hv36
      rw [if_neg hc20] at hv37
      rw [if_neg hc20] at hv38
      rw [if_neg hc20] at hv39
      rw [if_neg hc20] at hv40
      rw [if_neg hc20] at hv41
      rw [if_neg hc20] at hv42
      rw [if_neg hc20] at hv43
      subst P24
      subst hv36 hv37 hv38 hv39 hv40 hv41 hv42 hv43
      exact ⟨_, _, X24, N24, Zz24, o24_0, o24_1, o24_2, o24_3, o24_4, o24_5, pre34⟩
  have pre45 : ∀ t, Steps p.tables e below (T35.setTop (mkF m 75 #[.val (.int x0), .val (.int x1), .val (.int x2), .val (.int x3), .val (.int x4), .val (.int v1), .val (.int v2), .val (.int v3), .val (.int v4), .val (.int v6), .val (.ref b9), .val (.int v36), .unset, .unset, .unset, .unset, .unset, .unset] [(.int v4), (.int v3), (.ref b9)])) t → Steps p.tables e below (s₁.setTop (entryFrame m #[(.int x0), (.int x1), (.int x2), (.int x3), (.int x4)] maxLocals)) t := fun t k => pre44 t (by
    show Steps p.tables e below (T35.setTop (mkF m 69 #[.val (.int x0), .val (.int x1), .val (.int x2), .val (.int x3), .val (.int x4), .val (.int v1), .val (.int v2), .val (.int v3), .val (.int v4), .val (.int v6), .val (.ref b9), .val (.int v36), .unset, .unset, .unset, .unset, .unset, .unset] [])) _
    refine XS.aload X35.here hx rfl (hb hby at_69) rfl rfl ?_
    show Steps p.tables e below (T35.setTop (mkF m 71 #[.val (.int x0), .val (.int x1), .val (.int x2), .val (.int x3), .val (.int x4), .val (.int v1), .val (.int v2), .val (.int v3), .val (.int v4), .val (.int v6), .val (.ref b9), .val (.int v36), .unset, .unset, .unset, .unset, .unset, .unset] [(.ref b9)])) _
    refine XS.iload X35.here hx rfl (hb hby at_71) rfl ?_
    show Steps p.tables e below (T35.setTop (mkF m 73 #[.val (.int x0), .val (.int x1), .val (.int x2), .val (.int x3), .val (.int x4), .val (.int v1), .val (.int v2), .val (.int v3), .val (.int v4), .val (.int v6), .val (.ref b9), .val (.int v36), .unset, .unset, .unset, .unset, .unset, .unset] [(.int v3), (.ref b9)])) _
    refine XS.iload X35.here hx rfl (hb hby at_73) rfl ?_
    show Steps p.tables e below (T35.setTop (mkF m 75 #[.val (.int x0), .val (.int x1), .val (.int x2), .val (.int x3), .val (.int x4), .val (.int v1), .val (.int v2), .val (.int v3), .val (.int v4), .val (.int v6), .val (.ref b9), .val (.int v36), .unset, .unset, .unset, .unset, .unset, .unset] [(.int v4), (.int v3), (.ref b9)])) _
    exact k)
  obtain ⟨cq47, kq47, q47a, q47b, q47c⟩ := isOf hZ rfl f35_0
  obtain ⟨_, _, ⟨T47, L47, k47, n47⟩, -, X47, ⟨Lc47, hQ47, l47, y47, z47⟩, st47⟩ := X35.virtualBack hx (y := (⟨"com/example/clocks_to_automata/clockstoautomata/semantics/Assignment", "force", "(II)Z"⟩ : MethodName)) (z := (⟨"com/example/clocks_to_automata/clockstoautomata/semantics/Assignment", "force", "(II)Z"⟩ : MethodName)) hown (mvT hZ (hw _ (List.mem_of_getElem? (i := 19) rfl))) (mvT hZ (hw _ (List.mem_of_getElem? (i := 20) rfl))) (notFace_of_selects (args := #[]) (mvT hZ (hw _ (List.mem_of_getElem? (i := 22) rfl)))) (mvT hZ (hw _ (List.mem_of_getElem? (i := 22) rfl))) (mvT hZ (hw _ (List.mem_of_getElem? (i := 21) rfl))) (by decide) (backOf (W := 0) (rm4 l Z a0 hw [] b9 v3 v4 bv_13 bt_13 kv_13 kt_13 v37 v38 v39 v40 v41 v42 v43 T35.heap n0 Zz35 f35_0 f35_1 f35_2 f35_3 f35_4 f35_5 g_b9 o13_6 o13_7 o13_8 o13_9 o13_10 (own_need0_48_0 x0 x1 x2 x3 x4 v1 v2 v3 v4 v6 v36 v37 v38 v39 v40 v41 v42 v43 hv1 hv2 hv3 hv4 hv6 hv36 hv37 hv38 hv39 hv40 hv41 hv42 hv43) (own_need0_49_1 x0 x1 x2 x3 x4 v1 v2 v3 v4 v6 v36 v37 v38 v39 v40 v41 v42 v43 hv1 hv2 hv3 hv4 hv6 hv36 hv37 hv38 hv39 hv40 hv41 hv42 hv43)) hZ (hw _ (List.mem_of_getElem? (i := 23) rfl)) (hw _ (List.mem_of_getElem? (i := 3) rfl)) (by decide) (by decide)) q47a q47c (g := (mkF m 75 #[.val (.int x0), .val (.int x1), .val (.int x2), .val (.int x3), .val (.int x4), .val (.int v1), .val (.int v2), .val (.int v3), .val (.int v4), .val (.int v6), .val (.ref b9), .val (.int v36), .unset, .unset, .unset, .unset, .unset, .unset] [(.int v4), (.int v3), (.ref b9)])) rfl (by rw [hml]; rfl) (Steps.refl _) (argsL := [(.int v3), (.int v4)]) (rest := []) (lenOf pd_2 rfl) rfl (by show 2 * 0 + _ ≤ _; exact Nat.le_of_eq rfl) (hb hby at_75) (fun _ _ => ⟨rfl, rfl, (by decide : 3 + 0 ≤ _), (by decide : 9 + 0 ≤ _)⟩)
  dsimp only [Pt.U, Pt.locs, Pt.cells, Pt.slots] at X47 l47 y47 z47 st47 hQ47
  subst l47 y47 z47
  obtain ⟨r47, rfl, N47q, K47, o47_0, o47_1, o47_2, o47_3, o47_4, o47_5, P47⟩ := hQ47
  have N47 := Fr.app N35 N47q
  have pre50 : ∀ t, Steps p.tables e below (T47.setTop (mkF m 78 #[.val (.int x0), .val (.int x1), .val (.int x2), .val (.int x3), .val (.int x4), .val (.int v1), .val (.int v2), .val (.int v3), .val (.int v4), .val (.int v6), .val (.ref b9), .val (.int v36), .unset, .unset, .unset, .unset, .unset, .unset] [(.int r47)])) t → Steps p.tables e below (s₁.setTop (entryFrame m #[(.int x0), (.int x1), (.int x2), (.int x3), (.int x4)] maxLocals)) t := fun t k => pre45 t (st47.trans k)
  have Zz47 : n0 ≤ T47.heap.size := Nat.le_trans Zz35 K47.1
  have c51 := (f35_0).keep K47
  obtain ⟨v59, hv59⟩ : ∃ z : Int32, z = (if v6 = (0 : Int32) then (0 : Int32) else (if v1 = v3 then (1 : Int32) else (0 : Int32))) := ⟨_, rfl⟩
  have pre60 : ∀ t, Steps p.tables e below (T47.setTop (mkF m 97 #[.val (.int x0), .val (.int x1), .val (.int x2), .val (.int x3), .val (.int x4), .val (.int v1), .val (.int v2), .val (.int v3), .val (.int v4), .val (.int v6), .val (.ref b9), .val (.int v36), .val (.int r47), .unset, .unset, .unset, .unset, .unset] [(.int v59)])) t → Steps p.tables e below (s₁.setTop (entryFrame m #[(.int x0), (.int x1), (.int x2), (.int x3), (.int x4)] maxLocals)) t := fun t k => pre50 t (by
    show Steps p.tables e below (T47.setTop (mkF m 78 #[.val (.int x0), .val (.int x1), .val (.int x2), .val (.int x3), .val (.int x4), .val (.int v1), .val (.int v2), .val (.int v3), .val (.int v4), .val (.int v6), .val (.ref b9), .val (.int v36), .unset, .unset, .unset, .unset, .unset, .unset] [(.int r47)])) _
    refine XS.istore X47.here hx rfl (hb hby at_78) rfl (l' := #[.val (.int x0), .val (.int x1), .val (.int x2), .val (.int x3), .val (.int x4), .val (.int v1), .val (.int v2), .val (.int v3), .val (.int v4), .val (.int v6), .val (.ref b9), .val (.int v36), .val (.int r47), .unset, .unset, .unset, .unset, .unset]) rfl ?_
    show Steps p.tables e below (T47.setTop (mkF m 80 #[.val (.int x0), .val (.int x1), .val (.int x2), .val (.int x3), .val (.int x4), .val (.int v1), .val (.int v2), .val (.int v3), .val (.int v4), .val (.int v6), .val (.ref b9), .val (.int v36), .val (.int r47), .unset, .unset, .unset, .unset, .unset] [])) _
    refine XS.iload X47.here hx rfl (hb hby at_80) rfl ?_
    show Steps p.tables e below (T47.setTop (mkF m 82 #[.val (.int x0), .val (.int x1), .val (.int x2), .val (.int x3), .val (.int x4), .val (.int v1), .val (.int v2), .val (.int v3), .val (.int v4), .val (.int v6), .val (.ref b9), .val (.int v36), .val (.int r47), .unset, .unset, .unset, .unset, .unset] [(.int v6)])) _
    by_cases hc57 : v6 = (0 : Int32)
    · skip
      refine XS.ifYes X47.here hx rfl (pc0 := 82) (pc' := 96) rfl (hb hby at_82) rfl ((if0 _ _).trans (teq hc57).1) (by decide) (by decide) ?_
      show Steps p.tables e below (T47.setTop (mkF m 96 #[.val (.int x0), .val (.int x1), .val (.int x2), .val (.int x3), .val (.int x4), .val (.int v1), .val (.int v2), .val (.int v3), .val (.int v4), .val (.int v6), .val (.ref b9), .val (.int v36), .val (.int r47), .unset, .unset, .unset, .unset, .unset] [])) _
      refine XS.iconst X47.here hx rfl (hb hby at_96) ?_
      show Steps p.tables e below (T47.setTop (mkF m 97 #[.val (.int x0), .val (.int x1), .val (.int x2), .val (.int x3), .val (.int x4), .val (.int v1), .val (.int v2), .val (.int v3), .val (.int v4), .val (.int v6), .val (.ref b9), .val (.int v36), .val (.int r47), .unset, .unset, .unset, .unset, .unset] [(.int (0 : Int32))])) _
      rw [show v59 = (0 : Int32) from by rw [hv59, if_pos hc57]] at k
      exact k
    · skip
      refine XS.ifNo X47.here hx rfl (hb hby at_82) rfl ((if0 _ _).trans (feq hc57).1) ?_
      show Steps p.tables e below (T47.setTop (mkF m 85 #[.val (.int x0), .val (.int x1), .val (.int x2), .val (.int x3), .val (.int x4), .val (.int v1), .val (.int v2), .val (.int v3), .val (.int v4), .val (.int v6), .val (.ref b9), .val (.int v36), .val (.int r47), .unset, .unset, .unset, .unset, .unset] [])) _
      refine XS.iload X47.here hx rfl (hb hby at_85) rfl ?_
      show Steps p.tables e below (T47.setTop (mkF m 87 #[.val (.int x0), .val (.int x1), .val (.int x2), .val (.int x3), .val (.int x4), .val (.int v1), .val (.int v2), .val (.int v3), .val (.int v4), .val (.int v6), .val (.ref b9), .val (.int v36), .val (.int r47), .unset, .unset, .unset, .unset, .unset] [(.int v1)])) _
      refine XS.iload X47.here hx rfl (hb hby at_87) rfl ?_
      show Steps p.tables e below (T47.setTop (mkF m 89 #[.val (.int x0), .val (.int x1), .val (.int x2), .val (.int x3), .val (.int x4), .val (.int v1), .val (.int v2), .val (.int v3), .val (.int v4), .val (.int v6), .val (.ref b9), .val (.int v36), .val (.int r47), .unset, .unset, .unset, .unset, .unset] [(.int v3), (.int v1)])) _
      by_cases hc58 : v1 = v3
      · skip
        refine XS.icmpNo X47.here hx rfl (hb hby at_89) rfl (teq hc58).2 ?_
        show Steps p.tables e below (T47.setTop (mkF m 92 #[.val (.int x0), .val (.int x1), .val (.int x2), .val (.int x3), .val (.int x4), .val (.int v1), .val (.int v2), .val (.int v3), .val (.int v4), .val (.int v6), .val (.ref b9), .val (.int v36), .val (.int r47), .unset, .unset, .unset, .unset, .unset] [])) _
        refine XS.iconst X47.here hx rfl (hb hby at_92) ?_
        show Steps p.tables e below (T47.setTop (mkF m 93 #[.val (.int x0), .val (.int x1), .val (.int x2), .val (.int x3), .val (.int x4), .val (.int v1), .val (.int v2), .val (.int v3), .val (.int v4), .val (.int v6), .val (.ref b9), .val (.int v36), .val (.int r47), .unset, .unset, .unset, .unset, .unset] [(.int (1 : Int32))])) _
        refine XS.goto X47.here hx rfl (pc0 := 93) (pc' := 97) rfl (hb hby at_93) (by decide) (by decide) ?_
        show Steps p.tables e below (T47.setTop (mkF m 97 #[.val (.int x0), .val (.int x1), .val (.int x2), .val (.int x3), .val (.int x4), .val (.int v1), .val (.int v2), .val (.int v3), .val (.int v4), .val (.int v6), .val (.ref b9), .val (.int v36), .val (.int r47), .unset, .unset, .unset, .unset, .unset] [(.int (1 : Int32))])) _
        rw [show v59 = (1 : Int32) from by rw [hv59, if_neg hc57, if_pos hc58]] at k
        exact k
      · skip
        refine XS.icmpYes X47.here hx rfl (pc0 := 89) (pc' := 96) rfl (hb hby at_89) rfl (feq hc58).2 (by decide) (by decide) ?_
        show Steps p.tables e below (T47.setTop (mkF m 96 #[.val (.int x0), .val (.int x1), .val (.int x2), .val (.int x3), .val (.int x4), .val (.int v1), .val (.int v2), .val (.int v3), .val (.int v4), .val (.int v6), .val (.ref b9), .val (.int v36), .val (.int r47), .unset, .unset, .unset, .unset, .unset] [])) _
        refine XS.iconst X47.here hx rfl (hb hby at_96) ?_
        show Steps p.tables e below (T47.setTop (mkF m 97 #[.val (.int x0), .val (.int x1), .val (.int x2), .val (.int x3), .val (.int x4), .val (.int v1), .val (.int v2), .val (.int v3), .val (.int v4), .val (.int v6), .val (.ref b9), .val (.int v36), .val (.int r47), .unset, .unset, .unset, .unset, .unset] [(.int (0 : Int32))])) _
        rw [show v59 = (0 : Int32) from by rw [hv59, if_neg hc57, if_neg hc58]] at k
        exact k)
  obtain ⟨v63, hv63⟩ : ∃ z : Int32, z = (if v59 = (0 : Int32) then (1 : Int32) else (if v2 = v4 then (1 : Int32) else (0 : Int32))) := ⟨_, rfl⟩
  have pre64 : ∀ t, Steps p.tables e below (T47.setTop (mkF m 116 #[.val (.int x0), .val (.int x1), .val (.int x2), .val (.int x3), .val (.int x4), .val (.int v1), .val (.int v2), .val (.int v3), .val (.int v4), .val (.int v6), .val (.ref b9), .val (.int v36), .val (.int r47), .val (.int v59), .unset, .unset, .unset, .unset] [(.int v63)])) t → Steps p.tables e below (s₁.setTop (entryFrame m #[(.int x0), (.int x1), (.int x2), (.int x3), (.int x4)] maxLocals)) t := fun t k => pre60 t (by
    show Steps p.tables e below (T47.setTop (mkF m 97 #[.val (.int x0), .val (.int x1), .val (.int x2), .val (.int x3), .val (.int x4), .val (.int v1), .val (.int v2), .val (.int v3), .val (.int v4), .val (.int v6), .val (.ref b9), .val (.int v36), .val (.int r47), .unset, .unset, .unset, .unset, .unset] [(.int v59)])) _
    refine XS.istore X47.here hx rfl (hb hby at_97) rfl (l' := #[.val (.int x0), .val (.int x1), .val (.int x2), .val (.int x3), .val (.int x4), .val (.int v1), .val (.int v2), .val (.int v3), .val (.int v4), .val (.int v6), .val (.ref b9), .val (.int v36), .val (.int r47), .val (.int v59), .unset, .unset, .unset, .unset]) rfl ?_
    show Steps p.tables e below (T47.setTop (mkF m 99 #[.val (.int x0), .val (.int x1), .val (.int x2), .val (.int x3), .val (.int x4), .val (.int v1), .val (.int v2), .val (.int v3), .val (.int v4), .val (.int v6), .val (.ref b9), .val (.int v36), .val (.int r47), .val (.int v59), .unset, .unset, .unset, .unset] [])) _
    refine XS.iload X47.here hx rfl (hb hby at_99) rfl ?_
    show Steps p.tables e below (T47.setTop (mkF m 101 #[.val (.int x0), .val (.int x1), .val (.int x2), .val (.int x3), .val (.int x4), .val (.int v1), .val (.int v2), .val (.int v3), .val (.int v4), .val (.int v6), .val (.ref b9), .val (.int v36), .val (.int r47), .val (.int v59), .unset, .unset, .unset, .unset] [(.int v59)])) _
    by_cases hc61 : v59 = (0 : Int32)
    · skip
      refine XS.ifYes X47.here hx rfl (pc0 := 101) (pc' := 111) rfl (hb hby at_101) rfl ((if0 _ _).trans (teq hc61).1) (by decide) (by decide) ?_
      show Steps p.tables e below (T47.setTop (mkF m 111 #[.val (.int x0), .val (.int x1), .val (.int x2), .val (.int x3), .val (.int x4), .val (.int v1), .val (.int v2), .val (.int v3), .val (.int v4), .val (.int v6), .val (.ref b9), .val (.int v36), .val (.int r47), .val (.int v59), .unset, .unset, .unset, .unset] [])) _
      refine XS.iconst X47.here hx rfl (hb hby at_111) ?_
      show Steps p.tables e below (T47.setTop (mkF m 112 #[.val (.int x0), .val (.int x1), .val (.int x2), .val (.int x3), .val (.int x4), .val (.int v1), .val (.int v2), .val (.int v3), .val (.int v4), .val (.int v6), .val (.ref b9), .val (.int v36), .val (.int r47), .val (.int v59), .unset, .unset, .unset, .unset] [(.int (1 : Int32))])) _
      refine XS.goto X47.here hx rfl (pc0 := 112) (pc' := 116) rfl (hb hby at_112) (by decide) (by decide) ?_
      show Steps p.tables e below (T47.setTop (mkF m 116 #[.val (.int x0), .val (.int x1), .val (.int x2), .val (.int x3), .val (.int x4), .val (.int v1), .val (.int v2), .val (.int v3), .val (.int v4), .val (.int v6), .val (.ref b9), .val (.int v36), .val (.int r47), .val (.int v59), .unset, .unset, .unset, .unset] [(.int (1 : Int32))])) _
      rw [show v63 = (1 : Int32) from by rw [hv63, if_pos hc61]] at k
      exact k
    · skip
      refine XS.ifNo X47.here hx rfl (hb hby at_101) rfl ((if0 _ _).trans (feq hc61).1) ?_
      show Steps p.tables e below (T47.setTop (mkF m 104 #[.val (.int x0), .val (.int x1), .val (.int x2), .val (.int x3), .val (.int x4), .val (.int v1), .val (.int v2), .val (.int v3), .val (.int v4), .val (.int v6), .val (.ref b9), .val (.int v36), .val (.int r47), .val (.int v59), .unset, .unset, .unset, .unset] [])) _
      refine XS.iload X47.here hx rfl (hb hby at_104) rfl ?_
      show Steps p.tables e below (T47.setTop (mkF m 106 #[.val (.int x0), .val (.int x1), .val (.int x2), .val (.int x3), .val (.int x4), .val (.int v1), .val (.int v2), .val (.int v3), .val (.int v4), .val (.int v6), .val (.ref b9), .val (.int v36), .val (.int r47), .val (.int v59), .unset, .unset, .unset, .unset] [(.int v2)])) _
      refine XS.iload X47.here hx rfl (hb hby at_106) rfl ?_
      show Steps p.tables e below (T47.setTop (mkF m 108 #[.val (.int x0), .val (.int x1), .val (.int x2), .val (.int x3), .val (.int x4), .val (.int v1), .val (.int v2), .val (.int v3), .val (.int v4), .val (.int v6), .val (.ref b9), .val (.int v36), .val (.int r47), .val (.int v59), .unset, .unset, .unset, .unset] [(.int v4), (.int v2)])) _
      by_cases hc62 : v2 = v4
      · skip
        refine XS.icmpNo X47.here hx rfl (hb hby at_108) rfl (teq hc62).2 ?_
        show Steps p.tables e below (T47.setTop (mkF m 111 #[.val (.int x0), .val (.int x1), .val (.int x2), .val (.int x3), .val (.int x4), .val (.int v1), .val (.int v2), .val (.int v3), .val (.int v4), .val (.int v6), .val (.ref b9), .val (.int v36), .val (.int r47), .val (.int v59), .unset, .unset, .unset, .unset] [])) _
        refine XS.iconst X47.here hx rfl (hb hby at_111) ?_
        show Steps p.tables e below (T47.setTop (mkF m 112 #[.val (.int x0), .val (.int x1), .val (.int x2), .val (.int x3), .val (.int x4), .val (.int v1), .val (.int v2), .val (.int v3), .val (.int v4), .val (.int v6), .val (.ref b9), .val (.int v36), .val (.int r47), .val (.int v59), .unset, .unset, .unset, .unset] [(.int (1 : Int32))])) _
        refine XS.goto X47.here hx rfl (pc0 := 112) (pc' := 116) rfl (hb hby at_112) (by decide) (by decide) ?_
        show Steps p.tables e below (T47.setTop (mkF m 116 #[.val (.int x0), .val (.int x1), .val (.int x2), .val (.int x3), .val (.int x4), .val (.int v1), .val (.int v2), .val (.int v3), .val (.int v4), .val (.int v6), .val (.ref b9), .val (.int v36), .val (.int r47), .val (.int v59), .unset, .unset, .unset, .unset] [(.int (1 : Int32))])) _
        rw [show v63 = (1 : Int32) from by rw [hv63, if_neg hc61, if_pos hc62]] at k
        exact k
      · skip
        refine XS.icmpYes X47.here hx rfl (pc0 := 108) (pc' := 115) rfl (hb hby at_108) rfl (feq hc62).2 (by decide) (by decide) ?_
        show Steps p.tables e below (T47.setTop (mkF m 115 #[.val (.int x0), .val (.int x1), .val (.int x2), .val (.int x3), .val (.int x4), .val (.int v1), .val (.int v2), .val (.int v3), .val (.int v4), .val (.int v6), .val (.ref b9), .val (.int v36), .val (.int r47), .val (.int v59), .unset, .unset, .unset, .unset] [])) _
        refine XS.iconst X47.here hx rfl (hb hby at_115) ?_
        show Steps p.tables e below (T47.setTop (mkF m 116 #[.val (.int x0), .val (.int x1), .val (.int x2), .val (.int x3), .val (.int x4), .val (.int v1), .val (.int v2), .val (.int v3), .val (.int v4), .val (.int v6), .val (.ref b9), .val (.int v36), .val (.int r47), .val (.int v59), .unset, .unset, .unset, .unset] [(.int (0 : Int32))])) _
        rw [show v63 = (0 : Int32) from by rw [hv63, if_neg hc61, if_neg hc62]] at k
        exact k)
  obtain ⟨v66, hv66⟩ : ∃ z : Int32, z = (if v6 = (0 : Int32) then (0 : Int32) else (1 : Int32)) := ⟨_, rfl⟩
  have pre67 : ∀ t, Steps p.tables e below (T47.setTop (mkF m 128 #[.val (.int x0), .val (.int x1), .val (.int x2), .val (.int x3), .val (.int x4), .val (.int v1), .val (.int v2), .val (.int v3), .val (.int v4), .val (.int v6), .val (.ref b9), .val (.int v36), .val (.int r47), .val (.int v59), .val (.int v63), .unset, .unset, .unset] [(.int v66)])) t → Steps p.tables e below (s₁.setTop (entryFrame m #[(.int x0), (.int x1), (.int x2), (.int x3), (.int x4)] maxLocals)) t := fun t k => pre64 t (by
    show Steps p.tables e below (T47.setTop (mkF m 116 #[.val (.int x0), .val (.int x1), .val (.int x2), .val (.int x3), .val (.int x4), .val (.int v1), .val (.int v2), .val (.int v3), .val (.int v4), .val (.int v6), .val (.ref b9), .val (.int v36), .val (.int r47), .val (.int v59), .unset, .unset, .unset, .unset] [(.int v63)])) _
    refine XS.istore X47.here hx rfl (hb hby at_116) rfl (l' := #[.val (.int x0), .val (.int x1), .val (.int x2), .val (.int x3), .val (.int x4), .val (.int v1), .val (.int v2), .val (.int v3), .val (.int v4), .val (.int v6), .val (.ref b9), .val (.int v36), .val (.int r47), .val (.int v59), .val (.int v63), .unset, .unset, .unset]) rfl ?_
    show Steps p.tables e below (T47.setTop (mkF m 118 #[.val (.int x0), .val (.int x1), .val (.int x2), .val (.int x3), .val (.int x4), .val (.int v1), .val (.int v2), .val (.int v3), .val (.int v4), .val (.int v6), .val (.ref b9), .val (.int v36), .val (.int r47), .val (.int v59), .val (.int v63), .unset, .unset, .unset] [])) _
    refine XS.iload X47.here hx rfl (hb hby at_118) rfl ?_
    show Steps p.tables e below (T47.setTop (mkF m 120 #[.val (.int x0), .val (.int x1), .val (.int x2), .val (.int x3), .val (.int x4), .val (.int v1), .val (.int v2), .val (.int v3), .val (.int v4), .val (.int v6), .val (.ref b9), .val (.int v36), .val (.int r47), .val (.int v59), .val (.int v63), .unset, .unset, .unset] [(.int v6)])) _
    by_cases hc65 : v6 = (0 : Int32)
    · skip
      refine XS.ifYes X47.here hx rfl (pc0 := 120) (pc' := 127) rfl (hb hby at_120) rfl ((if0 _ _).trans (teq hc65).1) (by decide) (by decide) ?_
      show Steps p.tables e below (T47.setTop (mkF m 127 #[.val (.int x0), .val (.int x1), .val (.int x2), .val (.int x3), .val (.int x4), .val (.int v1), .val (.int v2), .val (.int v3), .val (.int v4), .val (.int v6), .val (.ref b9), .val (.int v36), .val (.int r47), .val (.int v59), .val (.int v63), .unset, .unset, .unset] [])) _
      refine XS.iconst X47.here hx rfl (hb hby at_127) ?_
      show Steps p.tables e below (T47.setTop (mkF m 128 #[.val (.int x0), .val (.int x1), .val (.int x2), .val (.int x3), .val (.int x4), .val (.int v1), .val (.int v2), .val (.int v3), .val (.int v4), .val (.int v6), .val (.ref b9), .val (.int v36), .val (.int r47), .val (.int v59), .val (.int v63), .unset, .unset, .unset] [(.int (0 : Int32))])) _
      rw [show v66 = (0 : Int32) from by rw [hv66, if_pos hc65]] at k
      exact k
    · skip
      refine XS.ifNo X47.here hx rfl (hb hby at_120) rfl ((if0 _ _).trans (feq hc65).1) ?_
      show Steps p.tables e below (T47.setTop (mkF m 123 #[.val (.int x0), .val (.int x1), .val (.int x2), .val (.int x3), .val (.int x4), .val (.int v1), .val (.int v2), .val (.int v3), .val (.int v4), .val (.int v6), .val (.ref b9), .val (.int v36), .val (.int r47), .val (.int v59), .val (.int v63), .unset, .unset, .unset] [])) _
      refine XS.iconst X47.here hx rfl (hb hby at_123) ?_
      show Steps p.tables e below (T47.setTop (mkF m 124 #[.val (.int x0), .val (.int x1), .val (.int x2), .val (.int x3), .val (.int x4), .val (.int v1), .val (.int v2), .val (.int v3), .val (.int v4), .val (.int v6), .val (.ref b9), .val (.int v36), .val (.int r47), .val (.int v59), .val (.int v63), .unset, .unset, .unset] [(.int (1 : Int32))])) _
      refine XS.goto X47.here hx rfl (pc0 := 124) (pc' := 128) rfl (hb hby at_124) (by decide) (by decide) ?_
      show Steps p.tables e below (T47.setTop (mkF m 128 #[.val (.int x0), .val (.int x1), .val (.int x2), .val (.int x3), .val (.int x4), .val (.int v1), .val (.int v2), .val (.int v3), .val (.int v4), .val (.int v6), .val (.ref b9), .val (.int v36), .val (.int r47), .val (.int v59), .val (.int v63), .unset, .unset, .unset] [(.int (1 : Int32))])) _
      rw [show v66 = (1 : Int32) from by rw [hv66, if_neg hc65]] at k
      exact k)
  obtain ⟨v69, hv69⟩ : ∃ z : Int32, z = (if v59 = (0 : Int32) then (1 : Int32) else (0 : Int32)) := ⟨_, rfl⟩
  have pre70 : ∀ t, Steps p.tables e below (T47.setTop (mkF m 138 #[.val (.int x0), .val (.int x1), .val (.int x2), .val (.int x3), .val (.int x4), .val (.int v1), .val (.int v2), .val (.int v3), .val (.int v4), .val (.int v6), .val (.ref b9), .val (.int v36), .val (.int r47), .val (.int v59), .val (.int v63), .unset, .unset, .unset] [(.int v69), (.int v66)])) t → Steps p.tables e below (s₁.setTop (entryFrame m #[(.int x0), (.int x1), (.int x2), (.int x3), (.int x4)] maxLocals)) t := fun t k => pre67 t (by
    show Steps p.tables e below (T47.setTop (mkF m 128 #[.val (.int x0), .val (.int x1), .val (.int x2), .val (.int x3), .val (.int x4), .val (.int v1), .val (.int v2), .val (.int v3), .val (.int v4), .val (.int v6), .val (.ref b9), .val (.int v36), .val (.int r47), .val (.int v59), .val (.int v63), .unset, .unset, .unset] [(.int v66)])) _
    refine XS.iload X47.here hx rfl (hb hby at_128) rfl ?_
    show Steps p.tables e below (T47.setTop (mkF m 130 #[.val (.int x0), .val (.int x1), .val (.int x2), .val (.int x3), .val (.int x4), .val (.int v1), .val (.int v2), .val (.int v3), .val (.int v4), .val (.int v6), .val (.ref b9), .val (.int v36), .val (.int r47), .val (.int v59), .val (.int v63), .unset, .unset, .unset] [(.int v59), (.int v66)])) _
    by_cases hc68 : v59 = (0 : Int32)
    · skip
      refine XS.ifYes X47.here hx rfl (pc0 := 130) (pc' := 137) rfl (hb hby at_130) rfl ((if0 _ _).trans (teq hc68).1) (by decide) (by decide) ?_
      show Steps p.tables e below (T47.setTop (mkF m 137 #[.val (.int x0), .val (.int x1), .val (.int x2), .val (.int x3), .val (.int x4), .val (.int v1), .val (.int v2), .val (.int v3), .val (.int v4), .val (.int v6), .val (.ref b9), .val (.int v36), .val (.int r47), .val (.int v59), .val (.int v63), .unset, .unset, .unset] [(.int v66)])) _
      refine XS.iconst X47.here hx rfl (hb hby at_137) ?_
      show Steps p.tables e below (T47.setTop (mkF m 138 #[.val (.int x0), .val (.int x1), .val (.int x2), .val (.int x3), .val (.int x4), .val (.int v1), .val (.int v2), .val (.int v3), .val (.int v4), .val (.int v6), .val (.ref b9), .val (.int v36), .val (.int r47), .val (.int v59), .val (.int v63), .unset, .unset, .unset] [(.int (1 : Int32)), (.int v66)])) _
      rw [show v69 = (1 : Int32) from by rw [hv69, if_pos hc68]] at k
      exact k
    · skip
      refine XS.ifNo X47.here hx rfl (hb hby at_130) rfl ((if0 _ _).trans (feq hc68).1) ?_
      show Steps p.tables e below (T47.setTop (mkF m 133 #[.val (.int x0), .val (.int x1), .val (.int x2), .val (.int x3), .val (.int x4), .val (.int v1), .val (.int v2), .val (.int v3), .val (.int v4), .val (.int v6), .val (.ref b9), .val (.int v36), .val (.int r47), .val (.int v59), .val (.int v63), .unset, .unset, .unset] [(.int v66)])) _
      refine XS.iconst X47.here hx rfl (hb hby at_133) ?_
      show Steps p.tables e below (T47.setTop (mkF m 134 #[.val (.int x0), .val (.int x1), .val (.int x2), .val (.int x3), .val (.int x4), .val (.int v1), .val (.int v2), .val (.int v3), .val (.int v4), .val (.int v6), .val (.ref b9), .val (.int v36), .val (.int r47), .val (.int v59), .val (.int v63), .unset, .unset, .unset] [(.int (0 : Int32)), (.int v66)])) _
      refine XS.goto X47.here hx rfl (pc0 := 134) (pc' := 138) rfl (hb hby at_134) (by decide) (by decide) ?_
      show Steps p.tables e below (T47.setTop (mkF m 138 #[.val (.int x0), .val (.int x1), .val (.int x2), .val (.int x3), .val (.int x4), .val (.int v1), .val (.int v2), .val (.int v3), .val (.int v4), .val (.int v6), .val (.ref b9), .val (.int v36), .val (.int r47), .val (.int v59), .val (.int v63), .unset, .unset, .unset] [(.int (0 : Int32)), (.int v66)])) _
      rw [show v69 = (0 : Int32) from by rw [hv69, if_neg hc68]] at k
      exact k)
  obtain ⟨v71, hv71⟩ : ∃ z : Int32, z = (v66 + v69) := ⟨_, rfl⟩
  obtain ⟨v73, hv73⟩ : ∃ z : Int32, z = (if v6 = (0 : Int32) then v3 else v1) := ⟨_, rfl⟩
  have pre74 : ∀ t, Steps p.tables e below (T47.setTop (mkF m 153 #[.val (.int x0), .val (.int x1), .val (.int x2), .val (.int x3), .val (.int x4), .val (.int v1), .val (.int v2), .val (.int v3), .val (.int v4), .val (.int v6), .val (.ref b9), .val (.int v36), .val (.int r47), .val (.int v59), .val (.int v63), .val (.int v71), .unset, .unset] [(.int v73)])) t → Steps p.tables e below (s₁.setTop (entryFrame m #[(.int x0), (.int x1), (.int x2), (.int x3), (.int x4)] maxLocals)) t := fun t k => pre70 t (by
    subst hv71
    show Steps p.tables e below (T47.setTop (mkF m 138 #[.val (.int x0), .val (.int x1), .val (.int x2), .val (.int x3), .val (.int x4), .val (.int v1), .val (.int v2), .val (.int v3), .val (.int v4), .val (.int v6), .val (.ref b9), .val (.int v36), .val (.int r47), .val (.int v59), .val (.int v63), .unset, .unset, .unset] [(.int v69), (.int v66)])) _
    refine XS.iadd X47.here hx rfl (hb hby at_138) rfl ?_
    show Steps p.tables e below (T47.setTop (mkF m 139 #[.val (.int x0), .val (.int x1), .val (.int x2), .val (.int x3), .val (.int x4), .val (.int v1), .val (.int v2), .val (.int v3), .val (.int v4), .val (.int v6), .val (.ref b9), .val (.int v36), .val (.int r47), .val (.int v59), .val (.int v63), .unset, .unset, .unset] [(.int (v66 + v69))])) _
    refine XS.istore X47.here hx rfl (hb hby at_139) rfl (l' := #[.val (.int x0), .val (.int x1), .val (.int x2), .val (.int x3), .val (.int x4), .val (.int v1), .val (.int v2), .val (.int v3), .val (.int v4), .val (.int v6), .val (.ref b9), .val (.int v36), .val (.int r47), .val (.int v59), .val (.int v63), .val (.int (v66 + v69)), .unset, .unset]) rfl ?_
    show Steps p.tables e below (T47.setTop (mkF m 141 #[.val (.int x0), .val (.int x1), .val (.int x2), .val (.int x3), .val (.int x4), .val (.int v1), .val (.int v2), .val (.int v3), .val (.int v4), .val (.int v6), .val (.ref b9), .val (.int v36), .val (.int r47), .val (.int v59), .val (.int v63), .val (.int (v66 + v69)), .unset, .unset] [])) _
    refine XS.iload X47.here hx rfl (hb hby at_141) rfl ?_
    show Steps p.tables e below (T47.setTop (mkF m 143 #[.val (.int x0), .val (.int x1), .val (.int x2), .val (.int x3), .val (.int x4), .val (.int v1), .val (.int v2), .val (.int v3), .val (.int v4), .val (.int v6), .val (.ref b9), .val (.int v36), .val (.int r47), .val (.int v59), .val (.int v63), .val (.int (v66 + v69)), .unset, .unset] [(.int v6)])) _
    by_cases hc72 : v6 = (0 : Int32)
    · skip
      refine XS.ifYes X47.here hx rfl (pc0 := 143) (pc' := 151) rfl (hb hby at_143) rfl ((if0 _ _).trans (teq hc72).1) (by decide) (by decide) ?_
      show Steps p.tables e below (T47.setTop (mkF m 151 #[.val (.int x0), .val (.int x1), .val (.int x2), .val (.int x3), .val (.int x4), .val (.int v1), .val (.int v2), .val (.int v3), .val (.int v4), .val (.int v6), .val (.ref b9), .val (.int v36), .val (.int r47), .val (.int v59), .val (.int v63), .val (.int (v66 + v69)), .unset, .unset] [])) _
      refine XS.iload X47.here hx rfl (hb hby at_151) rfl ?_
      show Steps p.tables e below (T47.setTop (mkF m 153 #[.val (.int x0), .val (.int x1), .val (.int x2), .val (.int x3), .val (.int x4), .val (.int v1), .val (.int v2), .val (.int v3), .val (.int v4), .val (.int v6), .val (.ref b9), .val (.int v36), .val (.int r47), .val (.int v59), .val (.int v63), .val (.int (v66 + v69)), .unset, .unset] [(.int v3)])) _
      rw [show v73 = v3 from by rw [hv73, if_pos hc72]] at k
      exact k
    · skip
      refine XS.ifNo X47.here hx rfl (hb hby at_143) rfl ((if0 _ _).trans (feq hc72).1) ?_
      show Steps p.tables e below (T47.setTop (mkF m 146 #[.val (.int x0), .val (.int x1), .val (.int x2), .val (.int x3), .val (.int x4), .val (.int v1), .val (.int v2), .val (.int v3), .val (.int v4), .val (.int v6), .val (.ref b9), .val (.int v36), .val (.int r47), .val (.int v59), .val (.int v63), .val (.int (v66 + v69)), .unset, .unset] [])) _
      refine XS.iload X47.here hx rfl (hb hby at_146) rfl ?_
      show Steps p.tables e below (T47.setTop (mkF m 148 #[.val (.int x0), .val (.int x1), .val (.int x2), .val (.int x3), .val (.int x4), .val (.int v1), .val (.int v2), .val (.int v3), .val (.int v4), .val (.int v6), .val (.ref b9), .val (.int v36), .val (.int r47), .val (.int v59), .val (.int v63), .val (.int (v66 + v69)), .unset, .unset] [(.int v1)])) _
      refine XS.goto X47.here hx rfl (pc0 := 148) (pc' := 153) rfl (hb hby at_148) (by decide) (by decide) ?_
      show Steps p.tables e below (T47.setTop (mkF m 153 #[.val (.int x0), .val (.int x1), .val (.int x2), .val (.int x3), .val (.int x4), .val (.int v1), .val (.int v2), .val (.int v3), .val (.int v4), .val (.int v6), .val (.ref b9), .val (.int v36), .val (.int r47), .val (.int v59), .val (.int v63), .val (.int (v66 + v69)), .unset, .unset] [(.int v1)])) _
      rw [show v73 = v1 from by rw [hv73, if_neg hc72]] at k
      exact k)
  obtain ⟨v77, hv77⟩ : ∃ z : Int32, z = (if v36 = (0 : Int32) then (0 : Int32) else (if r47 = v63 then (1 : Int32) else (0 : Int32))) := ⟨_, rfl⟩
  have pre78 : ∀ t, Steps p.tables e below (T47.setTop (mkF m 172 #[.val (.int x0), .val (.int x1), .val (.int x2), .val (.int x3), .val (.int x4), .val (.int v1), .val (.int v2), .val (.int v3), .val (.int v4), .val (.int v6), .val (.ref b9), .val (.int v36), .val (.int r47), .val (.int v59), .val (.int v63), .val (.int v71), .val (.int v73), .unset] [(.int v77)])) t → Steps p.tables e below (s₁.setTop (entryFrame m #[(.int x0), (.int x1), (.int x2), (.int x3), (.int x4)] maxLocals)) t := fun t k => pre74 t (by
    show Steps p.tables e below (T47.setTop (mkF m 153 #[.val (.int x0), .val (.int x1), .val (.int x2), .val (.int x3), .val (.int x4), .val (.int v1), .val (.int v2), .val (.int v3), .val (.int v4), .val (.int v6), .val (.ref b9), .val (.int v36), .val (.int r47), .val (.int v59), .val (.int v63), .val (.int v71), .unset, .unset] [(.int v73)])) _
    refine XS.istore X47.here hx rfl (hb hby at_153) rfl (l' := #[.val (.int x0), .val (.int x1), .val (.int x2), .val (.int x3), .val (.int x4), .val (.int v1), .val (.int v2), .val (.int v3), .val (.int v4), .val (.int v6), .val (.ref b9), .val (.int v36), .val (.int r47), .val (.int v59), .val (.int v63), .val (.int v71), .val (.int v73), .unset]) rfl ?_
    show Steps p.tables e below (T47.setTop (mkF m 155 #[.val (.int x0), .val (.int x1), .val (.int x2), .val (.int x3), .val (.int x4), .val (.int v1), .val (.int v2), .val (.int v3), .val (.int v4), .val (.int v6), .val (.ref b9), .val (.int v36), .val (.int r47), .val (.int v59), .val (.int v63), .val (.int v71), .val (.int v73), .unset] [])) _
    refine XS.iload X47.here hx rfl (hb hby at_155) rfl ?_
    show Steps p.tables e below (T47.setTop (mkF m 157 #[.val (.int x0), .val (.int x1), .val (.int x2), .val (.int x3), .val (.int x4), .val (.int v1), .val (.int v2), .val (.int v3), .val (.int v4), .val (.int v6), .val (.ref b9), .val (.int v36), .val (.int r47), .val (.int v59), .val (.int v63), .val (.int v71), .val (.int v73), .unset] [(.int v36)])) _
    by_cases hc75 : v36 = (0 : Int32)
    · skip
      refine XS.ifYes X47.here hx rfl (pc0 := 157) (pc' := 171) rfl (hb hby at_157) rfl ((if0 _ _).trans (teq hc75).1) (by decide) (by decide) ?_
      show Steps p.tables e below (T47.setTop (mkF m 171 #[.val (.int x0), .val (.int x1), .val (.int x2), .val (.int x3), .val (.int x4), .val (.int v1), .val (.int v2), .val (.int v3), .val (.int v4), .val (.int v6), .val (.ref b9), .val (.int v36), .val (.int r47), .val (.int v59), .val (.int v63), .val (.int v71), .val (.int v73), .unset] [])) _
      refine XS.iconst X47.here hx rfl (hb hby at_171) ?_
      show Steps p.tables e below (T47.setTop (mkF m 172 #[.val (.int x0), .val (.int x1), .val (.int x2), .val (.int x3), .val (.int x4), .val (.int v1), .val (.int v2), .val (.int v3), .val (.int v4), .val (.int v6), .val (.ref b9), .val (.int v36), .val (.int r47), .val (.int v59), .val (.int v63), .val (.int v71), .val (.int v73), .unset] [(.int (0 : Int32))])) _
      rw [show v77 = (0 : Int32) from by rw [hv77, if_pos hc75]] at k
      exact k
    · skip
      refine XS.ifNo X47.here hx rfl (hb hby at_157) rfl ((if0 _ _).trans (feq hc75).1) ?_
      show Steps p.tables e below (T47.setTop (mkF m 160 #[.val (.int x0), .val (.int x1), .val (.int x2), .val (.int x3), .val (.int x4), .val (.int v1), .val (.int v2), .val (.int v3), .val (.int v4), .val (.int v6), .val (.ref b9), .val (.int v36), .val (.int r47), .val (.int v59), .val (.int v63), .val (.int v71), .val (.int v73), .unset] [])) _
      refine XS.iload X47.here hx rfl (hb hby at_160) rfl ?_
      show Steps p.tables e below (T47.setTop (mkF m 162 #[.val (.int x0), .val (.int x1), .val (.int x2), .val (.int x3), .val (.int x4), .val (.int v1), .val (.int v2), .val (.int v3), .val (.int v4), .val (.int v6), .val (.ref b9), .val (.int v36), .val (.int r47), .val (.int v59), .val (.int v63), .val (.int v71), .val (.int v73), .unset] [(.int r47)])) _
      refine XS.iload X47.here hx rfl (hb hby at_162) rfl ?_
      show Steps p.tables e below (T47.setTop (mkF m 164 #[.val (.int x0), .val (.int x1), .val (.int x2), .val (.int x3), .val (.int x4), .val (.int v1), .val (.int v2), .val (.int v3), .val (.int v4), .val (.int v6), .val (.ref b9), .val (.int v36), .val (.int r47), .val (.int v59), .val (.int v63), .val (.int v71), .val (.int v73), .unset] [(.int v63), (.int r47)])) _
      by_cases hc76 : r47 = v63
      · skip
        refine XS.icmpNo X47.here hx rfl (hb hby at_164) rfl (teq hc76).2 ?_
        show Steps p.tables e below (T47.setTop (mkF m 167 #[.val (.int x0), .val (.int x1), .val (.int x2), .val (.int x3), .val (.int x4), .val (.int v1), .val (.int v2), .val (.int v3), .val (.int v4), .val (.int v6), .val (.ref b9), .val (.int v36), .val (.int r47), .val (.int v59), .val (.int v63), .val (.int v71), .val (.int v73), .unset] [])) _
        refine XS.iconst X47.here hx rfl (hb hby at_167) ?_
        show Steps p.tables e below (T47.setTop (mkF m 168 #[.val (.int x0), .val (.int x1), .val (.int x2), .val (.int x3), .val (.int x4), .val (.int v1), .val (.int v2), .val (.int v3), .val (.int v4), .val (.int v6), .val (.ref b9), .val (.int v36), .val (.int r47), .val (.int v59), .val (.int v63), .val (.int v71), .val (.int v73), .unset] [(.int (1 : Int32))])) _
        refine XS.goto X47.here hx rfl (pc0 := 168) (pc' := 172) rfl (hb hby at_168) (by decide) (by decide) ?_
        show Steps p.tables e below (T47.setTop (mkF m 172 #[.val (.int x0), .val (.int x1), .val (.int x2), .val (.int x3), .val (.int x4), .val (.int v1), .val (.int v2), .val (.int v3), .val (.int v4), .val (.int v6), .val (.ref b9), .val (.int v36), .val (.int r47), .val (.int v59), .val (.int v63), .val (.int v71), .val (.int v73), .unset] [(.int (1 : Int32))])) _
        rw [show v77 = (1 : Int32) from by rw [hv77, if_neg hc75, if_pos hc76]] at k
        exact k
      · skip
        refine XS.icmpYes X47.here hx rfl (pc0 := 164) (pc' := 171) rfl (hb hby at_164) rfl (feq hc76).2 (by decide) (by decide) ?_
        show Steps p.tables e below (T47.setTop (mkF m 171 #[.val (.int x0), .val (.int x1), .val (.int x2), .val (.int x3), .val (.int x4), .val (.int v1), .val (.int v2), .val (.int v3), .val (.int v4), .val (.int v6), .val (.ref b9), .val (.int v36), .val (.int r47), .val (.int v59), .val (.int v63), .val (.int v71), .val (.int v73), .unset] [])) _
        refine XS.iconst X47.here hx rfl (hb hby at_171) ?_
        show Steps p.tables e below (T47.setTop (mkF m 172 #[.val (.int x0), .val (.int x1), .val (.int x2), .val (.int x3), .val (.int x4), .val (.int v1), .val (.int v2), .val (.int v3), .val (.int v4), .val (.int v6), .val (.ref b9), .val (.int v36), .val (.int r47), .val (.int v59), .val (.int v63), .val (.int v71), .val (.int v73), .unset] [(.int (0 : Int32))])) _
        rw [show v77 = (0 : Int32) from by rw [hv77, if_neg hc75, if_neg hc76]] at k
        exact k)
  have pre79 : ∀ t, Steps p.tables e below (T47.setTop (mkF m 176 #[.val (.int x0), .val (.int x1), .val (.int x2), .val (.int x3), .val (.int x4), .val (.int v1), .val (.int v2), .val (.int v3), .val (.int v4), .val (.int v6), .val (.ref b9), .val (.int v36), .val (.int r47), .val (.int v59), .val (.int v63), .val (.int v71), .val (.int v73), .val (.int v77)] [(.int v77)])) t → Steps p.tables e below (s₁.setTop (entryFrame m #[(.int x0), (.int x1), (.int x2), (.int x3), (.int x4)] maxLocals)) t := fun t k => pre78 t (by
    show Steps p.tables e below (T47.setTop (mkF m 172 #[.val (.int x0), .val (.int x1), .val (.int x2), .val (.int x3), .val (.int x4), .val (.int v1), .val (.int v2), .val (.int v3), .val (.int v4), .val (.int v6), .val (.ref b9), .val (.int v36), .val (.int r47), .val (.int v59), .val (.int v63), .val (.int v71), .val (.int v73), .unset] [(.int v77)])) _
    refine XS.istore X47.here hx rfl (hb hby at_172) rfl (l' := #[.val (.int x0), .val (.int x1), .val (.int x2), .val (.int x3), .val (.int x4), .val (.int v1), .val (.int v2), .val (.int v3), .val (.int v4), .val (.int v6), .val (.ref b9), .val (.int v36), .val (.int r47), .val (.int v59), .val (.int v63), .val (.int v71), .val (.int v73), .val (.int v77)]) rfl ?_
    show Steps p.tables e below (T47.setTop (mkF m 174 #[.val (.int x0), .val (.int x1), .val (.int x2), .val (.int x3), .val (.int x4), .val (.int v1), .val (.int v2), .val (.int v3), .val (.int v4), .val (.int v6), .val (.ref b9), .val (.int v36), .val (.int r47), .val (.int v59), .val (.int v63), .val (.int v71), .val (.int v73), .val (.int v77)] [])) _
    refine XS.iload X47.here hx rfl (hb hby at_174) rfl ?_
    show Steps p.tables e below (T47.setTop (mkF m 176 #[.val (.int x0), .val (.int x1), .val (.int x2), .val (.int x3), .val (.int x4), .val (.int v1), .val (.int v2), .val (.int v3), .val (.int v4), .val (.int v6), .val (.ref b9), .val (.int v36), .val (.int r47), .val (.int v59), .val (.int v63), .val (.int v71), .val (.int v73), .val (.int v77)] [(.int v77)])) _
    exact k)
  obtain ⟨v95, hv95⟩ : ∃ z : Int32, z = (if v77 = (0 : Int32) then (0 : Int32) else (if F5 (0 : Int32) (if (own_el3 v3 v38 v39 v40) = (-1 : Int32) then (if v3 = (0 : Int32) then v4 else v38) else v38) (if (own_el3 v3 v38 v39 v40) = (-1 : Int32) then (if v3 = (1 : Int32) then v4 else v39) else v39) (if (own_el3 v3 v38 v39 v40) = (-1 : Int32) then (if v3 = (2 : Int32) then v4 else v40) else v40) = F6 (0 : Int32) v6 v1 v2 v3 v4 then (1 : Int32) else (0 : Int32))) := ⟨_, rfl⟩
  obtain ⟨T94, L94, X94, N94, Zz94, eh94, pre96⟩ : ∃ (T94 : State) (L94 : List Loc), Stand p l e room_1 s m #[(.int x0), (.int x1), (.int x2), (.int x3), (.int x4)] below meth c T94 L94 3 9 ∧ Fr n0 L94 ∧ n0 ≤ T94.heap.size ∧ (T94.heap = T47.heap) ∧ ∀ t, Steps p.tables e below (T94.setTop (mkF m 207 #[.val (.int x0), .val (.int x1), .val (.int x2), .val (.int x3), .val (.int x4), .val (.int v1), .val (.int v2), .val (.int v3), .val (.int v4), .val (.int v6), .val (.ref b9), .val (.int v36), .val (.int r47), .val (.int v59), .val (.int v63), .val (.int v71), .val (.int v73), .val (.int v77)] [(.int v95)])) t → Steps p.tables e below (s₁.setTop (entryFrame m #[(.int x0), (.int x1), (.int x2), (.int x3), (.int x4)] maxLocals)) t := by
    by_cases hc80 : v77 = (0 : Int32)
    · skip
      have pre81 : ∀ t, Steps p.tables e below (T47.setTop (mkF m 207 #[.val (.int x0), .val (.int x1), .val (.int x2), .val (.int x3), .val (.int x4), .val (.int v1), .val (.int v2), .val (.int v3), .val (.int v4), .val (.int v6), .val (.ref b9), .val (.int v36), .val (.int r47), .val (.int v59), .val (.int v63), .val (.int v71), .val (.int v73), .val (.int v77)] [(.int (0 : Int32))])) t → Steps p.tables e below (s₁.setTop (entryFrame m #[(.int x0), (.int x1), (.int x2), (.int x3), (.int x4)] maxLocals)) t := fun t k => pre79 t (by
        show Steps p.tables e below (T47.setTop (mkF m 176 #[.val (.int x0), .val (.int x1), .val (.int x2), .val (.int x3), .val (.int x4), .val (.int v1), .val (.int v2), .val (.int v3), .val (.int v4), .val (.int v6), .val (.ref b9), .val (.int v36), .val (.int r47), .val (.int v59), .val (.int v63), .val (.int v71), .val (.int v73), .val (.int v77)] [(.int v77)])) _
        refine XS.ifYes X47.here hx rfl (pc0 := 176) (pc' := 206) rfl (hb hby at_176) rfl ((if0 _ _).trans (teq hc80).1) (by decide) (by decide) ?_
        show Steps p.tables e below (T47.setTop (mkF m 206 #[.val (.int x0), .val (.int x1), .val (.int x2), .val (.int x3), .val (.int x4), .val (.int v1), .val (.int v2), .val (.int v3), .val (.int v4), .val (.int v6), .val (.ref b9), .val (.int v36), .val (.int r47), .val (.int v59), .val (.int v63), .val (.int v71), .val (.int v73), .val (.int v77)] [])) _
        refine XS.iconst X47.here hx rfl (hb hby at_206) ?_
        show Steps p.tables e below (T47.setTop (mkF m 207 #[.val (.int x0), .val (.int x1), .val (.int x2), .val (.int x3), .val (.int x4), .val (.int v1), .val (.int v2), .val (.int v3), .val (.int v4), .val (.int v6), .val (.ref b9), .val (.int v36), .val (.int r47), .val (.int v59), .val (.int v63), .val (.int v71), .val (.int v73), .val (.int v77)] [(.int (0 : Int32))])) _
        exact k)
      rw [if_pos hc80] at hv95
      subst hv95
      exact ⟨_, _, X47, N47, Zz47, rfl, pre81⟩
    · skip
      have pre82 : ∀ t, Steps p.tables e below (T47.setTop (mkF m 182 #[.val (.int x0), .val (.int x1), .val (.int x2), .val (.int x3), .val (.int x4), .val (.int v1), .val (.int v2), .val (.int v3), .val (.int v4), .val (.int v6), .val (.ref b9), .val (.int v36), .val (.int r47), .val (.int v59), .val (.int v63), .val (.int v71), .val (.int v73), .val (.int v77)] [(.int (0 : Int32)), (.ref b9)])) t → Steps p.tables e below (s₁.setTop (entryFrame m #[(.int x0), (.int x1), (.int x2), (.int x3), (.int x4)] maxLocals)) t := fun t k => pre79 t (by
        show Steps p.tables e below (T47.setTop (mkF m 176 #[.val (.int x0), .val (.int x1), .val (.int x2), .val (.int x3), .val (.int x4), .val (.int v1), .val (.int v2), .val (.int v3), .val (.int v4), .val (.int v6), .val (.ref b9), .val (.int v36), .val (.int r47), .val (.int v59), .val (.int v63), .val (.int v71), .val (.int v73), .val (.int v77)] [(.int v77)])) _
        refine XS.ifNo X47.here hx rfl (hb hby at_176) rfl ((if0 _ _).trans (feq hc80).1) ?_
        show Steps p.tables e below (T47.setTop (mkF m 179 #[.val (.int x0), .val (.int x1), .val (.int x2), .val (.int x3), .val (.int x4), .val (.int v1), .val (.int v2), .val (.int v3), .val (.int v4), .val (.int v6), .val (.ref b9), .val (.int v36), .val (.int r47), .val (.int v59), .val (.int v63), .val (.int v71), .val (.int v73), .val (.int v77)] [])) _
        refine XS.aload X47.here hx rfl (hb hby at_179) rfl rfl ?_
        show Steps p.tables e below (T47.setTop (mkF m 181 #[.val (.int x0), .val (.int x1), .val (.int x2), .val (.int x3), .val (.int x4), .val (.int v1), .val (.int v2), .val (.int v3), .val (.int v4), .val (.int v6), .val (.ref b9), .val (.int v36), .val (.int r47), .val (.int v59), .val (.int v63), .val (.int v71), .val (.int v73), .val (.int v77)] [(.ref b9)])) _
        refine XS.iconst X47.here hx rfl (hb hby at_181) ?_
        show Steps p.tables e below (T47.setTop (mkF m 182 #[.val (.int x0), .val (.int x1), .val (.int x2), .val (.int x3), .val (.int x4), .val (.int v1), .val (.int v2), .val (.int v3), .val (.int v4), .val (.int v6), .val (.ref b9), .val (.int v36), .val (.int r47), .val (.int v59), .val (.int v63), .val (.int v71), .val (.int v73), .val (.int v77)] [(.int (0 : Int32)), (.ref b9)])) _
        exact k)
      obtain ⟨cq84, kq84, q84a, q84b, q84c⟩ := isOf hZ rfl o47_0
      obtain ⟨_, _, ⟨T84, L84, k84, n84⟩, -, X84, ⟨Lc84, hQ84, l84, y84, z84⟩, st84⟩ := X47.virtualBack hx (y := (⟨"com/example/clocks_to_automata/clockstoautomata/semantics/Assignment", "value", "(I)I"⟩ : MethodName)) (z := (⟨"com/example/clocks_to_automata/clockstoautomata/semantics/Assignment", "value", "(I)I"⟩ : MethodName)) hown (mvT hZ (hw _ (List.mem_of_getElem? (i := 26) rfl))) (mvT hZ (hw _ (List.mem_of_getElem? (i := 27) rfl))) (notFace_of_selects (args := #[]) (mvT hZ (hw _ (List.mem_of_getElem? (i := 29) rfl)))) (mvT hZ (hw _ (List.mem_of_getElem? (i := 29) rfl))) (mvT hZ (hw _ (List.mem_of_getElem? (i := 28) rfl))) (by decide) (backOf (W := 0) (rm5 l Z a0 hw [] b9 (0 : Int32) bv_13 kv_13 (if (own_el3 v3 v38 v39 v40) = (-1 : Int32) then (if v3 = (0 : Int32) then v4 else v38) else v38) (if (own_el3 v3 v38 v39 v40) = (-1 : Int32) then (if v3 = (1 : Int32) then v4 else v39) else v39) (if (own_el3 v3 v38 v39 v40) = (-1 : Int32) then (if v3 = (2 : Int32) then v4 else v40) else v40) T47.heap n0 Zz47 o47_1 o47_4 (own_need0_85_0 x0 x1 x2 x3 x4 v1 v2 v3 v4 v6 v36 v37 v38 v39 v40 v41 v42 v43 r47 v59 v63 v66 v69 v71 v73 v77 hv1 hv2 hv3 hv4 hv6 hv36 hv37 hv38 hv39 hv40 hv41 hv42 hv43 P47 hv59 hv63 hv66 hv69 hv71 hv73 hv77 hc80)) hZ (hw _ (List.mem_of_getElem? (i := 30) rfl)) (hw _ (List.mem_of_getElem? (i := 3) rfl)) (by decide) (by decide)) q84a q84c (g := (mkF m 182 #[.val (.int x0), .val (.int x1), .val (.int x2), .val (.int x3), .val (.int x4), .val (.int v1), .val (.int v2), .val (.int v3), .val (.int v4), .val (.int v6), .val (.ref b9), .val (.int v36), .val (.int r47), .val (.int v59), .val (.int v63), .val (.int v71), .val (.int v73), .val (.int v77)] [(.int (0 : Int32)), (.ref b9)])) rfl (by rw [hml]; rfl) (Steps.refl _) (argsL := [(.int (0 : Int32))]) (rest := []) (lenOf pd_3 rfl) rfl (by show 2 * 0 + _ ≤ _; exact Nat.le_of_eq rfl) (hb hby at_182) (fun _ _ => ⟨rfl, rfl, (by decide : 3 + 0 ≤ _), (by decide : 9 + 0 ≤ _)⟩)
      dsimp only [Pt.U, Pt.locs, Pt.cells, Pt.slots] at X84 l84 y84 z84 st84 hQ84
      subst l84 y84 z84
      obtain ⟨r84, rfl, N84q, e84, P84⟩ := hQ84
      have N84 := Fr.app N47 N84q
      have pre86 : ∀ t, Steps p.tables e below (T84.setTop (mkF m 185 #[.val (.int x0), .val (.int x1), .val (.int x2), .val (.int x3), .val (.int x4), .val (.int v1), .val (.int v2), .val (.int v3), .val (.int v4), .val (.int v6), .val (.ref b9), .val (.int v36), .val (.int r47), .val (.int v59), .val (.int v63), .val (.int v71), .val (.int v73), .val (.int v77)] [(.int r84)])) t → Steps p.tables e below (s₁.setTop (entryFrame m #[(.int x0), (.int x1), (.int x2), (.int x3), (.int x4)] maxLocals)) t := fun t k => pre82 t (st84.trans k)
      have pre87 : ∀ t, Steps p.tables e below (T84.setTop (mkF m 196 #[.val (.int x0), .val (.int x1), .val (.int x2), .val (.int x3), .val (.int x4), .val (.int v1), .val (.int v2), .val (.int v3), .val (.int v4), .val (.int v6), .val (.ref b9), .val (.int v36), .val (.int r47), .val (.int v59), .val (.int v63), .val (.int v71), .val (.int v73), .val (.int v77)] [(.int v4), (.int v3), (.int v2), (.int v1), (.int v6), (.int (0 : Int32)), (.int r84)])) t → Steps p.tables e below (s₁.setTop (entryFrame m #[(.int x0), (.int x1), (.int x2), (.int x3), (.int x4)] maxLocals)) t := fun t k => pre86 t (by
        show Steps p.tables e below (T84.setTop (mkF m 185 #[.val (.int x0), .val (.int x1), .val (.int x2), .val (.int x3), .val (.int x4), .val (.int v1), .val (.int v2), .val (.int v3), .val (.int v4), .val (.int v6), .val (.ref b9), .val (.int v36), .val (.int r47), .val (.int v59), .val (.int v63), .val (.int v71), .val (.int v73), .val (.int v77)] [(.int r84)])) _
        refine XS.iconst X84.here hx rfl (hb hby at_185) ?_
        show Steps p.tables e below (T84.setTop (mkF m 186 #[.val (.int x0), .val (.int x1), .val (.int x2), .val (.int x3), .val (.int x4), .val (.int v1), .val (.int v2), .val (.int v3), .val (.int v4), .val (.int v6), .val (.ref b9), .val (.int v36), .val (.int r47), .val (.int v59), .val (.int v63), .val (.int v71), .val (.int v73), .val (.int v77)] [(.int (0 : Int32)), (.int r84)])) _
        refine XS.iload X84.here hx rfl (hb hby at_186) rfl ?_
        show Steps p.tables e below (T84.setTop (mkF m 188 #[.val (.int x0), .val (.int x1), .val (.int x2), .val (.int x3), .val (.int x4), .val (.int v1), .val (.int v2), .val (.int v3), .val (.int v4), .val (.int v6), .val (.ref b9), .val (.int v36), .val (.int r47), .val (.int v59), .val (.int v63), .val (.int v71), .val (.int v73), .val (.int v77)] [(.int v6), (.int (0 : Int32)), (.int r84)])) _
        refine XS.iload X84.here hx rfl (hb hby at_188) rfl ?_
        show Steps p.tables e below (T84.setTop (mkF m 190 #[.val (.int x0), .val (.int x1), .val (.int x2), .val (.int x3), .val (.int x4), .val (.int v1), .val (.int v2), .val (.int v3), .val (.int v4), .val (.int v6), .val (.ref b9), .val (.int v36), .val (.int r47), .val (.int v59), .val (.int v63), .val (.int v71), .val (.int v73), .val (.int v77)] [(.int v1), (.int v6), (.int (0 : Int32)), (.int r84)])) _
        refine XS.iload X84.here hx rfl (hb hby at_190) rfl ?_
        show Steps p.tables e below (T84.setTop (mkF m 192 #[.val (.int x0), .val (.int x1), .val (.int x2), .val (.int x3), .val (.int x4), .val (.int v1), .val (.int v2), .val (.int v3), .val (.int v4), .val (.int v6), .val (.ref b9), .val (.int v36), .val (.int r47), .val (.int v59), .val (.int v63), .val (.int v71), .val (.int v73), .val (.int v77)] [(.int v2), (.int v1), (.int v6), (.int (0 : Int32)), (.int r84)])) _
        refine XS.iload X84.here hx rfl (hb hby at_192) rfl ?_
        show Steps p.tables e below (T84.setTop (mkF m 194 #[.val (.int x0), .val (.int x1), .val (.int x2), .val (.int x3), .val (.int x4), .val (.int v1), .val (.int v2), .val (.int v3), .val (.int v4), .val (.int v6), .val (.ref b9), .val (.int v36), .val (.int r47), .val (.int v59), .val (.int v63), .val (.int v71), .val (.int v73), .val (.int v77)] [(.int v3), (.int v2), (.int v1), (.int v6), (.int (0 : Int32)), (.int r84)])) _
        refine XS.iload X84.here hx rfl (hb hby at_194) rfl ?_
        show Steps p.tables e below (T84.setTop (mkF m 196 #[.val (.int x0), .val (.int x1), .val (.int x2), .val (.int x3), .val (.int x4), .val (.int v1), .val (.int v2), .val (.int v3), .val (.int v4), .val (.int v6), .val (.ref b9), .val (.int v36), .val (.int r47), .val (.int v59), .val (.int v63), .val (.int v71), .val (.int v73), .val (.int v77)] [(.int v4), (.int v3), (.int v2), (.int v1), (.int v6), (.int (0 : Int32)), (.int r84)])) _
        exact k)
      obtain ⟨_, _, ⟨T89, L89, k89, n89⟩, -, X89, ⟨Lc89, hQ89, l89, y89, z89⟩, st89⟩ := Jvm.LawKit.callS X84 hx (y := (⟨"com/example/clocks_to_automata/clockstoautomata/semantics/AssignmentForcePinLaw", "expectedValue", "(IZIIII)I"⟩ : MethodName)) hown (mvT hZ (hw _ (List.mem_of_getElem? (i := 31) rfl))) (mvT hZ (hw _ (List.mem_of_getElem? (i := 32) rfl))) (mvT hZ (hw _ (List.mem_of_getElem? (i := 33) rfl))) (mvT hZ (hw _ (List.mem_of_getElem? (i := 34) rfl))) (by decide) (backOf (W := 1) (rm6 l Z a0 hw [] (0 : Int32) v6 v1 v2 v3 v4  T47.heap n0 Zz47 ) hZ (hw _ (List.mem_of_getElem? (i := 34) rfl)) (hw _ (List.mem_of_getElem? (i := 33) rfl)) (by decide) (by decide)) (g := (mkF m 196 #[.val (.int x0), .val (.int x1), .val (.int x2), .val (.int x3), .val (.int x4), .val (.int v1), .val (.int v2), .val (.int v3), .val (.int v4), .val (.int v6), .val (.ref b9), .val (.int v36), .val (.int r47), .val (.int v59), .val (.int v63), .val (.int v71), .val (.int v73), .val (.int v77)] [(.int v4), (.int v3), (.int v2), (.int v1), (.int v6), (.int (0 : Int32)), (.int r84)])) rfl (by rw [hml]; rfl) (argsL := [(.int (0 : Int32)), (.int v6), (.int v1), (.int v2), (.int v3), (.int v4)]) (rest := [(.int r84)]) (lenOf pd_4 rfl) rfl (by show 2 * 0 + _ ≤ _; exact Nat.le_of_eq rfl) (hb hby at_196) (fun _ _ => ⟨rfl, e84, (by decide : 3 + 0 ≤ _), (by decide : 9 + 0 ≤ _)⟩)
      dsimp only [Pt.U, Pt.locs, Pt.cells, Pt.slots] at X89 l89 y89 z89 st89 hQ89
      subst l89 y89 z89
      obtain ⟨r89, rfl, N89q, e89, P89⟩ := hQ89
      have N89 := Fr.app N84 N89q
      have pre90 : ∀ t, Steps p.tables e below (T89.setTop (mkF m 199 #[.val (.int x0), .val (.int x1), .val (.int x2), .val (.int x3), .val (.int x4), .val (.int v1), .val (.int v2), .val (.int v3), .val (.int v4), .val (.int v6), .val (.ref b9), .val (.int v36), .val (.int r47), .val (.int v59), .val (.int v63), .val (.int v71), .val (.int v73), .val (.int v77)] [(.int r89), (.int r84)])) t → Steps p.tables e below (s₁.setTop (entryFrame m #[(.int x0), (.int x1), (.int x2), (.int x3), (.int x4)] maxLocals)) t := fun t k => pre87 t (st89 _ k)
      obtain ⟨v92, hv92⟩ : ∃ z : Int32, z = (if r84 = r89 then (1 : Int32) else (0 : Int32)) := ⟨_, rfl⟩
      have pre93 : ∀ t, Steps p.tables e below (T89.setTop (mkF m 207 #[.val (.int x0), .val (.int x1), .val (.int x2), .val (.int x3), .val (.int x4), .val (.int v1), .val (.int v2), .val (.int v3), .val (.int v4), .val (.int v6), .val (.ref b9), .val (.int v36), .val (.int r47), .val (.int v59), .val (.int v63), .val (.int v71), .val (.int v73), .val (.int v77)] [(.int v92)])) t → Steps p.tables e below (s₁.setTop (entryFrame m #[(.int x0), (.int x1), (.int x2), (.int x3), (.int x4)] maxLocals)) t := fun t k => pre90 t (by
        show Steps p.tables e below (T89.setTop (mkF m 199 #[.val (.int x0), .val (.int x1), .val (.int x2), .val (.int x3), .val (.int x4), .val (.int v1), .val (.int v2), .val (.int v3), .val (.int v4), .val (.int v6), .val (.ref b9), .val (.int v36), .val (.int r47), .val (.int v59), .val (.int v63), .val (.int v71), .val (.int v73), .val (.int v77)] [(.int r89), (.int r84)])) _
        by_cases hc91 : r84 = r89
        · skip
          refine XS.icmpNo X89.here hx rfl (hb hby at_199) rfl (teq hc91).2 ?_
          show Steps p.tables e below (T89.setTop (mkF m 202 #[.val (.int x0), .val (.int x1), .val (.int x2), .val (.int x3), .val (.int x4), .val (.int v1), .val (.int v2), .val (.int v3), .val (.int v4), .val (.int v6), .val (.ref b9), .val (.int v36), .val (.int r47), .val (.int v59), .val (.int v63), .val (.int v71), .val (.int v73), .val (.int v77)] [])) _
          refine XS.iconst X89.here hx rfl (hb hby at_202) ?_
          show Steps p.tables e below (T89.setTop (mkF m 203 #[.val (.int x0), .val (.int x1), .val (.int x2), .val (.int x3), .val (.int x4), .val (.int v1), .val (.int v2), .val (.int v3), .val (.int v4), .val (.int v6), .val (.ref b9), .val (.int v36), .val (.int r47), .val (.int v59), .val (.int v63), .val (.int v71), .val (.int v73), .val (.int v77)] [(.int (1 : Int32))])) _
          refine XS.goto X89.here hx rfl (pc0 := 203) (pc' := 207) rfl (hb hby at_203) (by decide) (by decide) ?_
          show Steps p.tables e below (T89.setTop (mkF m 207 #[.val (.int x0), .val (.int x1), .val (.int x2), .val (.int x3), .val (.int x4), .val (.int v1), .val (.int v2), .val (.int v3), .val (.int v4), .val (.int v6), .val (.ref b9), .val (.int v36), .val (.int r47), .val (.int v59), .val (.int v63), .val (.int v71), .val (.int v73), .val (.int v77)] [(.int (1 : Int32))])) _
          rw [show v92 = (1 : Int32) from by rw [hv92, if_pos hc91]] at k
          exact k
        · skip
          refine XS.icmpYes X89.here hx rfl (pc0 := 199) (pc' := 206) rfl (hb hby at_199) rfl (feq hc91).2 (by decide) (by decide) ?_
          show Steps p.tables e below (T89.setTop (mkF m 206 #[.val (.int x0), .val (.int x1), .val (.int x2), .val (.int x3), .val (.int x4), .val (.int v1), .val (.int v2), .val (.int v3), .val (.int v4), .val (.int v6), .val (.ref b9), .val (.int v36), .val (.int r47), .val (.int v59), .val (.int v63), .val (.int v71), .val (.int v73), .val (.int v77)] [])) _
          refine XS.iconst X89.here hx rfl (hb hby at_206) ?_
          show Steps p.tables e below (T89.setTop (mkF m 207 #[.val (.int x0), .val (.int x1), .val (.int x2), .val (.int x3), .val (.int x4), .val (.int v1), .val (.int v2), .val (.int v3), .val (.int v4), .val (.int v6), .val (.ref b9), .val (.int v36), .val (.int r47), .val (.int v59), .val (.int v63), .val (.int v71), .val (.int v73), .val (.int v77)] [(.int (0 : Int32))])) _
          rw [show v92 = (0 : Int32) from by rw [hv92, if_neg hc91]] at k
          exact k)
      rw [if_neg hc80] at hv95
      subst hv92
      subst P89
      subst P84
      subst hv95
      exact ⟨_, _, X89, N89, by rw [e89]; exact Zz47, e89, pre93⟩
  have pre97 : ∀ t, Steps p.tables e below (T94.setTop (mkF m 211 #[.val (.int x0), .val (.int x1), .val (.int x2), .val (.int x3), .val (.int x4), .val (.int v1), .val (.int v2), .val (.int v3), .val (.int v4), .val (.int v6), .val (.ref b9), .val (.int v36), .val (.int r47), .val (.int v59), .val (.int v63), .val (.int v71), .val (.int v73), .val (.int v95)] [(.int v95)])) t → Steps p.tables e below (s₁.setTop (entryFrame m #[(.int x0), (.int x1), (.int x2), (.int x3), (.int x4)] maxLocals)) t := fun t k => pre96 t (by
    show Steps p.tables e below (T94.setTop (mkF m 207 #[.val (.int x0), .val (.int x1), .val (.int x2), .val (.int x3), .val (.int x4), .val (.int v1), .val (.int v2), .val (.int v3), .val (.int v4), .val (.int v6), .val (.ref b9), .val (.int v36), .val (.int r47), .val (.int v59), .val (.int v63), .val (.int v71), .val (.int v73), .val (.int v77)] [(.int v95)])) _
    refine XS.istore X94.here hx rfl (hb hby at_207) rfl (l' := #[.val (.int x0), .val (.int x1), .val (.int x2), .val (.int x3), .val (.int x4), .val (.int v1), .val (.int v2), .val (.int v3), .val (.int v4), .val (.int v6), .val (.ref b9), .val (.int v36), .val (.int r47), .val (.int v59), .val (.int v63), .val (.int v71), .val (.int v73), .val (.int v95)]) rfl ?_
    show Steps p.tables e below (T94.setTop (mkF m 209 #[.val (.int x0), .val (.int x1), .val (.int x2), .val (.int x3), .val (.int x4), .val (.int v1), .val (.int v2), .val (.int v3), .val (.int v4), .val (.int v6), .val (.ref b9), .val (.int v36), .val (.int r47), .val (.int v59), .val (.int v63), .val (.int v71), .val (.int v73), .val (.int v95)] [])) _
    refine XS.iload X94.here hx rfl (hb hby at_209) rfl ?_
    show Steps p.tables e below (T94.setTop (mkF m 211 #[.val (.int x0), .val (.int x1), .val (.int x2), .val (.int x3), .val (.int x4), .val (.int v1), .val (.int v2), .val (.int v3), .val (.int v4), .val (.int v6), .val (.ref b9), .val (.int v36), .val (.int r47), .val (.int v59), .val (.int v63), .val (.int v71), .val (.int v73), .val (.int v95)] [(.int v95)])) _
    exact k)
  obtain ⟨v113, hv113⟩ : ∃ z : Int32, z = (if v95 = (0 : Int32) then (0 : Int32) else (if F5 (1 : Int32) (if (own_el3 v3 v38 v39 v40) = (-1 : Int32) then (if v3 = (0 : Int32) then v4 else v38) else v38) (if (own_el3 v3 v38 v39 v40) = (-1 : Int32) then (if v3 = (1 : Int32) then v4 else v39) else v39) (if (own_el3 v3 v38 v39 v40) = (-1 : Int32) then (if v3 = (2 : Int32) then v4 else v40) else v40) = F6 (1 : Int32) v6 v1 v2 v3 v4 then (1 : Int32) else (0 : Int32))) := ⟨_, rfl⟩
  obtain ⟨T112, L112, X112, N112, Zz112, eh112, pre114⟩ : ∃ (T112 : State) (L112 : List Loc), Stand p l e room_1 s m #[(.int x0), (.int x1), (.int x2), (.int x3), (.int x4)] below meth c T112 L112 3 9 ∧ Fr n0 L112 ∧ n0 ≤ T112.heap.size ∧ (T112.heap = T47.heap) ∧ ∀ t, Steps p.tables e below (T112.setTop (mkF m 242 #[.val (.int x0), .val (.int x1), .val (.int x2), .val (.int x3), .val (.int x4), .val (.int v1), .val (.int v2), .val (.int v3), .val (.int v4), .val (.int v6), .val (.ref b9), .val (.int v36), .val (.int r47), .val (.int v59), .val (.int v63), .val (.int v71), .val (.int v73), .val (.int v95)] [(.int v113)])) t → Steps p.tables e below (s₁.setTop (entryFrame m #[(.int x0), (.int x1), (.int x2), (.int x3), (.int x4)] maxLocals)) t := by
    by_cases hc98 : v95 = (0 : Int32)
    · skip
      have pre99 : ∀ t, Steps p.tables e below (T94.setTop (mkF m 242 #[.val (.int x0), .val (.int x1), .val (.int x2), .val (.int x3), .val (.int x4), .val (.int v1), .val (.int v2), .val (.int v3), .val (.int v4), .val (.int v6), .val (.ref b9), .val (.int v36), .val (.int r47), .val (.int v59), .val (.int v63), .val (.int v71), .val (.int v73), .val (.int v95)] [(.int (0 : Int32))])) t → Steps p.tables e below (s₁.setTop (entryFrame m #[(.int x0), (.int x1), (.int x2), (.int x3), (.int x4)] maxLocals)) t := fun t k => pre97 t (by
        show Steps p.tables e below (T94.setTop (mkF m 211 #[.val (.int x0), .val (.int x1), .val (.int x2), .val (.int x3), .val (.int x4), .val (.int v1), .val (.int v2), .val (.int v3), .val (.int v4), .val (.int v6), .val (.ref b9), .val (.int v36), .val (.int r47), .val (.int v59), .val (.int v63), .val (.int v71), .val (.int v73), .val (.int v95)] [(.int v95)])) _
        refine XS.ifYes X94.here hx rfl (pc0 := 211) (pc' := 241) rfl (hb hby at_211) rfl ((if0 _ _).trans (teq hc98).1) (by decide) (by decide) ?_
        show Steps p.tables e below (T94.setTop (mkF m 241 #[.val (.int x0), .val (.int x1), .val (.int x2), .val (.int x3), .val (.int x4), .val (.int v1), .val (.int v2), .val (.int v3), .val (.int v4), .val (.int v6), .val (.ref b9), .val (.int v36), .val (.int r47), .val (.int v59), .val (.int v63), .val (.int v71), .val (.int v73), .val (.int v95)] [])) _
        refine XS.iconst X94.here hx rfl (hb hby at_241) ?_
        show Steps p.tables e below (T94.setTop (mkF m 242 #[.val (.int x0), .val (.int x1), .val (.int x2), .val (.int x3), .val (.int x4), .val (.int v1), .val (.int v2), .val (.int v3), .val (.int v4), .val (.int v6), .val (.ref b9), .val (.int v36), .val (.int r47), .val (.int v59), .val (.int v63), .val (.int v71), .val (.int v73), .val (.int v95)] [(.int (0 : Int32))])) _
        exact k)
      rw [if_pos hc98] at hv113
      subst hv113
      exact ⟨_, _, X94, N94, by rw [eh94]; exact Zz47, eh94, pre99⟩
    · skip
      have pre100 : ∀ t, Steps p.tables e below (T94.setTop (mkF m 217 #[.val (.int x0), .val (.int x1), .val (.int x2), .val (.int x3), .val (.int x4), .val (.int v1), .val (.int v2), .val (.int v3), .val (.int v4), .val (.int v6), .val (.ref b9), .val (.int v36), .val (.int r47), .val (.int v59), .val (.int v63), .val (.int v71), .val (.int v73), .val (.int v95)] [(.int (1 : Int32)), (.ref b9)])) t → Steps p.tables e below (s₁.setTop (entryFrame m #[(.int x0), (.int x1), (.int x2), (.int x3), (.int x4)] maxLocals)) t := fun t k => pre97 t (by
        show Steps p.tables e below (T94.setTop (mkF m 211 #[.val (.int x0), .val (.int x1), .val (.int x2), .val (.int x3), .val (.int x4), .val (.int v1), .val (.int v2), .val (.int v3), .val (.int v4), .val (.int v6), .val (.ref b9), .val (.int v36), .val (.int r47), .val (.int v59), .val (.int v63), .val (.int v71), .val (.int v73), .val (.int v95)] [(.int v95)])) _
        refine XS.ifNo X94.here hx rfl (hb hby at_211) rfl ((if0 _ _).trans (feq hc98).1) ?_
        show Steps p.tables e below (T94.setTop (mkF m 214 #[.val (.int x0), .val (.int x1), .val (.int x2), .val (.int x3), .val (.int x4), .val (.int v1), .val (.int v2), .val (.int v3), .val (.int v4), .val (.int v6), .val (.ref b9), .val (.int v36), .val (.int r47), .val (.int v59), .val (.int v63), .val (.int v71), .val (.int v73), .val (.int v95)] [])) _
        refine XS.aload X94.here hx rfl (hb hby at_214) rfl rfl ?_
        show Steps p.tables e below (T94.setTop (mkF m 216 #[.val (.int x0), .val (.int x1), .val (.int x2), .val (.int x3), .val (.int x4), .val (.int v1), .val (.int v2), .val (.int v3), .val (.int v4), .val (.int v6), .val (.ref b9), .val (.int v36), .val (.int r47), .val (.int v59), .val (.int v63), .val (.int v71), .val (.int v73), .val (.int v95)] [(.ref b9)])) _
        refine XS.iconst X94.here hx rfl (hb hby at_216) ?_
        show Steps p.tables e below (T94.setTop (mkF m 217 #[.val (.int x0), .val (.int x1), .val (.int x2), .val (.int x3), .val (.int x4), .val (.int v1), .val (.int v2), .val (.int v3), .val (.int v4), .val (.int v6), .val (.ref b9), .val (.int v36), .val (.int r47), .val (.int v59), .val (.int v63), .val (.int v71), .val (.int v73), .val (.int v95)] [(.int (1 : Int32)), (.ref b9)])) _
        exact k)
      obtain ⟨cq102, kq102, q102a, q102b, q102c⟩ := isOf hZ eh94 o47_0
      obtain ⟨_, _, ⟨T102, L102, k102, n102⟩, -, X102, ⟨Lc102, hQ102, l102, y102, z102⟩, st102⟩ := X94.virtualBack hx (y := (⟨"com/example/clocks_to_automata/clockstoautomata/semantics/Assignment", "value", "(I)I"⟩ : MethodName)) (z := (⟨"com/example/clocks_to_automata/clockstoautomata/semantics/Assignment", "value", "(I)I"⟩ : MethodName)) hown (mvT hZ (hw _ (List.mem_of_getElem? (i := 26) rfl))) (mvT hZ (hw _ (List.mem_of_getElem? (i := 27) rfl))) (notFace_of_selects (args := #[]) (mvT hZ (hw _ (List.mem_of_getElem? (i := 29) rfl)))) (mvT hZ (hw _ (List.mem_of_getElem? (i := 29) rfl))) (mvT hZ (hw _ (List.mem_of_getElem? (i := 28) rfl))) (by decide) (backOf (W := 0) (rm5 l Z a0 hw [] b9 (1 : Int32) bv_13 kv_13 (if (own_el3 v3 v38 v39 v40) = (-1 : Int32) then (if v3 = (0 : Int32) then v4 else v38) else v38) (if (own_el3 v3 v38 v39 v40) = (-1 : Int32) then (if v3 = (1 : Int32) then v4 else v39) else v39) (if (own_el3 v3 v38 v39 v40) = (-1 : Int32) then (if v3 = (2 : Int32) then v4 else v40) else v40) T47.heap n0 Zz47 o47_1 o47_4 (own_need0_103_0 x0 x1 x2 x3 x4 v1 v2 v3 v4 v6 v36 v37 v38 v39 v40 v41 v42 v43 r47 v59 v63 v66 v69 v71 v73 v77 v95 hv1 hv2 hv3 hv4 hv6 hv36 hv37 hv38 hv39 hv40 hv41 hv42 hv43 P47 hv59 hv63 hv66 hv69 hv71 hv73 hv77 hv95 hc98)) hZ (hw _ (List.mem_of_getElem? (i := 30) rfl)) (hw _ (List.mem_of_getElem? (i := 3) rfl)) (by decide) (by decide)) q102a q102c (g := (mkF m 217 #[.val (.int x0), .val (.int x1), .val (.int x2), .val (.int x3), .val (.int x4), .val (.int v1), .val (.int v2), .val (.int v3), .val (.int v4), .val (.int v6), .val (.ref b9), .val (.int v36), .val (.int r47), .val (.int v59), .val (.int v63), .val (.int v71), .val (.int v73), .val (.int v95)] [(.int (1 : Int32)), (.ref b9)])) rfl (by rw [hml]; rfl) (Steps.refl _) (argsL := [(.int (1 : Int32))]) (rest := []) (lenOf pd_3 rfl) rfl (by show 2 * 0 + _ ≤ _; exact Nat.le_of_eq rfl) (hb hby at_217) (fun _ _ => ⟨rfl, eh94, (by decide : 3 + 0 ≤ _), (by decide : 9 + 0 ≤ _)⟩)
      dsimp only [Pt.U, Pt.locs, Pt.cells, Pt.slots] at X102 l102 y102 z102 st102 hQ102
      subst l102 y102 z102
      obtain ⟨r102, rfl, N102q, e102, P102⟩ := hQ102
      have N102 := Fr.app N94 N102q
      have pre104 : ∀ t, Steps p.tables e below (T102.setTop (mkF m 220 #[.val (.int x0), .val (.int x1), .val (.int x2), .val (.int x3), .val (.int x4), .val (.int v1), .val (.int v2), .val (.int v3), .val (.int v4), .val (.int v6), .val (.ref b9), .val (.int v36), .val (.int r47), .val (.int v59), .val (.int v63), .val (.int v71), .val (.int v73), .val (.int v95)] [(.int r102)])) t → Steps p.tables e below (s₁.setTop (entryFrame m #[(.int x0), (.int x1), (.int x2), (.int x3), (.int x4)] maxLocals)) t := fun t k => pre100 t (st102.trans k)
      have pre105 : ∀ t, Steps p.tables e below (T102.setTop (mkF m 231 #[.val (.int x0), .val (.int x1), .val (.int x2), .val (.int x3), .val (.int x4), .val (.int v1), .val (.int v2), .val (.int v3), .val (.int v4), .val (.int v6), .val (.ref b9), .val (.int v36), .val (.int r47), .val (.int v59), .val (.int v63), .val (.int v71), .val (.int v73), .val (.int v95)] [(.int v4), (.int v3), (.int v2), (.int v1), (.int v6), (.int (1 : Int32)), (.int r102)])) t → Steps p.tables e below (s₁.setTop (entryFrame m #[(.int x0), (.int x1), (.int x2), (.int x3), (.int x4)] maxLocals)) t := fun t k => pre104 t (by
        show Steps p.tables e below (T102.setTop (mkF m 220 #[.val (.int x0), .val (.int x1), .val (.int x2), .val (.int x3), .val (.int x4), .val (.int v1), .val (.int v2), .val (.int v3), .val (.int v4), .val (.int v6), .val (.ref b9), .val (.int v36), .val (.int r47), .val (.int v59), .val (.int v63), .val (.int v71), .val (.int v73), .val (.int v95)] [(.int r102)])) _
        refine XS.iconst X102.here hx rfl (hb hby at_220) ?_
        show Steps p.tables e below (T102.setTop (mkF m 221 #[.val (.int x0), .val (.int x1), .val (.int x2), .val (.int x3), .val (.int x4), .val (.int v1), .val (.int v2), .val (.int v3), .val (.int v4), .val (.int v6), .val (.ref b9), .val (.int v36), .val (.int r47), .val (.int v59), .val (.int v63), .val (.int v71), .val (.int v73), .val (.int v95)] [(.int (1 : Int32)), (.int r102)])) _
        refine XS.iload X102.here hx rfl (hb hby at_221) rfl ?_
        show Steps p.tables e below (T102.setTop (mkF m 223 #[.val (.int x0), .val (.int x1), .val (.int x2), .val (.int x3), .val (.int x4), .val (.int v1), .val (.int v2), .val (.int v3), .val (.int v4), .val (.int v6), .val (.ref b9), .val (.int v36), .val (.int r47), .val (.int v59), .val (.int v63), .val (.int v71), .val (.int v73), .val (.int v95)] [(.int v6), (.int (1 : Int32)), (.int r102)])) _
        refine XS.iload X102.here hx rfl (hb hby at_223) rfl ?_
        show Steps p.tables e below (T102.setTop (mkF m 225 #[.val (.int x0), .val (.int x1), .val (.int x2), .val (.int x3), .val (.int x4), .val (.int v1), .val (.int v2), .val (.int v3), .val (.int v4), .val (.int v6), .val (.ref b9), .val (.int v36), .val (.int r47), .val (.int v59), .val (.int v63), .val (.int v71), .val (.int v73), .val (.int v95)] [(.int v1), (.int v6), (.int (1 : Int32)), (.int r102)])) _
        refine XS.iload X102.here hx rfl (hb hby at_225) rfl ?_
        show Steps p.tables e below (T102.setTop (mkF m 227 #[.val (.int x0), .val (.int x1), .val (.int x2), .val (.int x3), .val (.int x4), .val (.int v1), .val (.int v2), .val (.int v3), .val (.int v4), .val (.int v6), .val (.ref b9), .val (.int v36), .val (.int r47), .val (.int v59), .val (.int v63), .val (.int v71), .val (.int v73), .val (.int v95)] [(.int v2), (.int v1), (.int v6), (.int (1 : Int32)), (.int r102)])) _
        refine XS.iload X102.here hx rfl (hb hby at_227) rfl ?_
        show Steps p.tables e below (T102.setTop (mkF m 229 #[.val (.int x0), .val (.int x1), .val (.int x2), .val (.int x3), .val (.int x4), .val (.int v1), .val (.int v2), .val (.int v3), .val (.int v4), .val (.int v6), .val (.ref b9), .val (.int v36), .val (.int r47), .val (.int v59), .val (.int v63), .val (.int v71), .val (.int v73), .val (.int v95)] [(.int v3), (.int v2), (.int v1), (.int v6), (.int (1 : Int32)), (.int r102)])) _
        refine XS.iload X102.here hx rfl (hb hby at_229) rfl ?_
        show Steps p.tables e below (T102.setTop (mkF m 231 #[.val (.int x0), .val (.int x1), .val (.int x2), .val (.int x3), .val (.int x4), .val (.int v1), .val (.int v2), .val (.int v3), .val (.int v4), .val (.int v6), .val (.ref b9), .val (.int v36), .val (.int r47), .val (.int v59), .val (.int v63), .val (.int v71), .val (.int v73), .val (.int v95)] [(.int v4), (.int v3), (.int v2), (.int v1), (.int v6), (.int (1 : Int32)), (.int r102)])) _
        exact k)
      obtain ⟨_, _, ⟨T107, L107, k107, n107⟩, -, X107, ⟨Lc107, hQ107, l107, y107, z107⟩, st107⟩ := Jvm.LawKit.callS X102 hx (y := (⟨"com/example/clocks_to_automata/clockstoautomata/semantics/AssignmentForcePinLaw", "expectedValue", "(IZIIII)I"⟩ : MethodName)) hown (mvT hZ (hw _ (List.mem_of_getElem? (i := 31) rfl))) (mvT hZ (hw _ (List.mem_of_getElem? (i := 32) rfl))) (mvT hZ (hw _ (List.mem_of_getElem? (i := 33) rfl))) (mvT hZ (hw _ (List.mem_of_getElem? (i := 34) rfl))) (by decide) (backOf (W := 1) (rm6 l Z a0 hw [] (1 : Int32) v6 v1 v2 v3 v4  T47.heap n0 Zz47 ) hZ (hw _ (List.mem_of_getElem? (i := 34) rfl)) (hw _ (List.mem_of_getElem? (i := 33) rfl)) (by decide) (by decide)) (g := (mkF m 231 #[.val (.int x0), .val (.int x1), .val (.int x2), .val (.int x3), .val (.int x4), .val (.int v1), .val (.int v2), .val (.int v3), .val (.int v4), .val (.int v6), .val (.ref b9), .val (.int v36), .val (.int r47), .val (.int v59), .val (.int v63), .val (.int v71), .val (.int v73), .val (.int v95)] [(.int v4), (.int v3), (.int v2), (.int v1), (.int v6), (.int (1 : Int32)), (.int r102)])) rfl (by rw [hml]; rfl) (argsL := [(.int (1 : Int32)), (.int v6), (.int v1), (.int v2), (.int v3), (.int v4)]) (rest := [(.int r102)]) (lenOf pd_4 rfl) rfl (by show 2 * 0 + _ ≤ _; exact Nat.le_of_eq rfl) (hb hby at_231) (fun _ _ => ⟨rfl, e102, (by decide : 3 + 0 ≤ _), (by decide : 9 + 0 ≤ _)⟩)
      dsimp only [Pt.U, Pt.locs, Pt.cells, Pt.slots] at X107 l107 y107 z107 st107 hQ107
      subst l107 y107 z107
      obtain ⟨r107, rfl, N107q, e107, P107⟩ := hQ107
      have N107 := Fr.app N102 N107q
      have pre108 : ∀ t, Steps p.tables e below (T107.setTop (mkF m 234 #[.val (.int x0), .val (.int x1), .val (.int x2), .val (.int x3), .val (.int x4), .val (.int v1), .val (.int v2), .val (.int v3), .val (.int v4), .val (.int v6), .val (.ref b9), .val (.int v36), .val (.int r47), .val (.int v59), .val (.int v63), .val (.int v71), .val (.int v73), .val (.int v95)] [(.int r107), (.int r102)])) t → Steps p.tables e below (s₁.setTop (entryFrame m #[(.int x0), (.int x1), (.int x2), (.int x3), (.int x4)] maxLocals)) t := fun t k => pre105 t (st107 _ k)
      obtain ⟨v110, hv110⟩ : ∃ z : Int32, z = (if r102 = r107 then (1 : Int32) else (0 : Int32)) := ⟨_, rfl⟩
      have pre111 : ∀ t, Steps p.tables e below (T107.setTop (mkF m 242 #[.val (.int x0), .val (.int x1), .val (.int x2), .val (.int x3), .val (.int x4), .val (.int v1), .val (.int v2), .val (.int v3), .val (.int v4), .val (.int v6), .val (.ref b9), .val (.int v36), .val (.int r47), .val (.int v59), .val (.int v63), .val (.int v71), .val (.int v73), .val (.int v95)] [(.int v110)])) t → Steps p.tables e below (s₁.setTop (entryFrame m #[(.int x0), (.int x1), (.int x2), (.int x3), (.int x4)] maxLocals)) t := fun t k => pre108 t (by
        show Steps p.tables e below (T107.setTop (mkF m 234 #[.val (.int x0), .val (.int x1), .val (.int x2), .val (.int x3), .val (.int x4), .val (.int v1), .val (.int v2), .val (.int v3), .val (.int v4), .val (.int v6), .val (.ref b9), .val (.int v36), .val (.int r47), .val (.int v59), .val (.int v63), .val (.int v71), .val (.int v73), .val (.int v95)] [(.int r107), (.int r102)])) _
        by_cases hc109 : r102 = r107
        · skip
          refine XS.icmpNo X107.here hx rfl (hb hby at_234) rfl (teq hc109).2 ?_
          show Steps p.tables e below (T107.setTop (mkF m 237 #[.val (.int x0), .val (.int x1), .val (.int x2), .val (.int x3), .val (.int x4), .val (.int v1), .val (.int v2), .val (.int v3), .val (.int v4), .val (.int v6), .val (.ref b9), .val (.int v36), .val (.int r47), .val (.int v59), .val (.int v63), .val (.int v71), .val (.int v73), .val (.int v95)] [])) _
          refine XS.iconst X107.here hx rfl (hb hby at_237) ?_
          show Steps p.tables e below (T107.setTop (mkF m 238 #[.val (.int x0), .val (.int x1), .val (.int x2), .val (.int x3), .val (.int x4), .val (.int v1), .val (.int v2), .val (.int v3), .val (.int v4), .val (.int v6), .val (.ref b9), .val (.int v36), .val (.int r47), .val (.int v59), .val (.int v63), .val (.int v71), .val (.int v73), .val (.int v95)] [(.int (1 : Int32))])) _
          refine XS.goto X107.here hx rfl (pc0 := 238) (pc' := 242) rfl (hb hby at_238) (by decide) (by decide) ?_
          show Steps p.tables e below (T107.setTop (mkF m 242 #[.val (.int x0), .val (.int x1), .val (.int x2), .val (.int x3), .val (.int x4), .val (.int v1), .val (.int v2), .val (.int v3), .val (.int v4), .val (.int v6), .val (.ref b9), .val (.int v36), .val (.int r47), .val (.int v59), .val (.int v63), .val (.int v71), .val (.int v73), .val (.int v95)] [(.int (1 : Int32))])) _
          rw [show v110 = (1 : Int32) from by rw [hv110, if_pos hc109]] at k
          exact k
        · skip
          refine XS.icmpYes X107.here hx rfl (pc0 := 234) (pc' := 241) rfl (hb hby at_234) rfl (feq hc109).2 (by decide) (by decide) ?_
          show Steps p.tables e below (T107.setTop (mkF m 241 #[.val (.int x0), .val (.int x1), .val (.int x2), .val (.int x3), .val (.int x4), .val (.int v1), .val (.int v2), .val (.int v3), .val (.int v4), .val (.int v6), .val (.ref b9), .val (.int v36), .val (.int r47), .val (.int v59), .val (.int v63), .val (.int v71), .val (.int v73), .val (.int v95)] [])) _
          refine XS.iconst X107.here hx rfl (hb hby at_241) ?_
          show Steps p.tables e below (T107.setTop (mkF m 242 #[.val (.int x0), .val (.int x1), .val (.int x2), .val (.int x3), .val (.int x4), .val (.int v1), .val (.int v2), .val (.int v3), .val (.int v4), .val (.int v6), .val (.ref b9), .val (.int v36), .val (.int r47), .val (.int v59), .val (.int v63), .val (.int v71), .val (.int v73), .val (.int v95)] [(.int (0 : Int32))])) _
          rw [show v110 = (0 : Int32) from by rw [hv110, if_neg hc109]] at k
          exact k)
      rw [if_neg hc98] at hv113
      subst hv110
      subst P107
      subst P102
      subst hv113
      exact ⟨_, _, X107, N107, by rw [e107]; exact Zz47, e107, pre111⟩
  have pre115 : ∀ t, Steps p.tables e below (T112.setTop (mkF m 246 #[.val (.int x0), .val (.int x1), .val (.int x2), .val (.int x3), .val (.int x4), .val (.int v1), .val (.int v2), .val (.int v3), .val (.int v4), .val (.int v6), .val (.ref b9), .val (.int v36), .val (.int r47), .val (.int v59), .val (.int v63), .val (.int v71), .val (.int v73), .val (.int v113)] [(.int v113)])) t → Steps p.tables e below (s₁.setTop (entryFrame m #[(.int x0), (.int x1), (.int x2), (.int x3), (.int x4)] maxLocals)) t := fun t k => pre114 t (by
    show Steps p.tables e below (T112.setTop (mkF m 242 #[.val (.int x0), .val (.int x1), .val (.int x2), .val (.int x3), .val (.int x4), .val (.int v1), .val (.int v2), .val (.int v3), .val (.int v4), .val (.int v6), .val (.ref b9), .val (.int v36), .val (.int r47), .val (.int v59), .val (.int v63), .val (.int v71), .val (.int v73), .val (.int v95)] [(.int v113)])) _
    refine XS.istore X112.here hx rfl (hb hby at_242) rfl (l' := #[.val (.int x0), .val (.int x1), .val (.int x2), .val (.int x3), .val (.int x4), .val (.int v1), .val (.int v2), .val (.int v3), .val (.int v4), .val (.int v6), .val (.ref b9), .val (.int v36), .val (.int r47), .val (.int v59), .val (.int v63), .val (.int v71), .val (.int v73), .val (.int v113)]) rfl ?_
    show Steps p.tables e below (T112.setTop (mkF m 244 #[.val (.int x0), .val (.int x1), .val (.int x2), .val (.int x3), .val (.int x4), .val (.int v1), .val (.int v2), .val (.int v3), .val (.int v4), .val (.int v6), .val (.ref b9), .val (.int v36), .val (.int r47), .val (.int v59), .val (.int v63), .val (.int v71), .val (.int v73), .val (.int v113)] [])) _
    refine XS.iload X112.here hx rfl (hb hby at_244) rfl ?_
    show Steps p.tables e below (T112.setTop (mkF m 246 #[.val (.int x0), .val (.int x1), .val (.int x2), .val (.int x3), .val (.int x4), .val (.int v1), .val (.int v2), .val (.int v3), .val (.int v4), .val (.int v6), .val (.ref b9), .val (.int v36), .val (.int r47), .val (.int v59), .val (.int v63), .val (.int v71), .val (.int v73), .val (.int v113)] [(.int v113)])) _
    exact k)
  obtain ⟨v131, hv131⟩ : ∃ z : Int32, z = (if v113 = (0 : Int32) then (0 : Int32) else (if F5 (2 : Int32) (if (own_el3 v3 v38 v39 v40) = (-1 : Int32) then (if v3 = (0 : Int32) then v4 else v38) else v38) (if (own_el3 v3 v38 v39 v40) = (-1 : Int32) then (if v3 = (1 : Int32) then v4 else v39) else v39) (if (own_el3 v3 v38 v39 v40) = (-1 : Int32) then (if v3 = (2 : Int32) then v4 else v40) else v40) = F6 (2 : Int32) v6 v1 v2 v3 v4 then (1 : Int32) else (0 : Int32))) := ⟨_, rfl⟩
  obtain ⟨T130, L130, X130, N130, Zz130, eh130, pre132⟩ : ∃ (T130 : State) (L130 : List Loc), Stand p l e room_1 s m #[(.int x0), (.int x1), (.int x2), (.int x3), (.int x4)] below meth c T130 L130 3 9 ∧ Fr n0 L130 ∧ n0 ≤ T130.heap.size ∧ (T130.heap = T47.heap) ∧ ∀ t, Steps p.tables e below (T130.setTop (mkF m 277 #[.val (.int x0), .val (.int x1), .val (.int x2), .val (.int x3), .val (.int x4), .val (.int v1), .val (.int v2), .val (.int v3), .val (.int v4), .val (.int v6), .val (.ref b9), .val (.int v36), .val (.int r47), .val (.int v59), .val (.int v63), .val (.int v71), .val (.int v73), .val (.int v113)] [(.int v131)])) t → Steps p.tables e below (s₁.setTop (entryFrame m #[(.int x0), (.int x1), (.int x2), (.int x3), (.int x4)] maxLocals)) t := by
    by_cases hc116 : v113 = (0 : Int32)
    · skip
      have pre117 : ∀ t, Steps p.tables e below (T112.setTop (mkF m 277 #[.val (.int x0), .val (.int x1), .val (.int x2), .val (.int x3), .val (.int x4), .val (.int v1), .val (.int v2), .val (.int v3), .val (.int v4), .val (.int v6), .val (.ref b9), .val (.int v36), .val (.int r47), .val (.int v59), .val (.int v63), .val (.int v71), .val (.int v73), .val (.int v113)] [(.int (0 : Int32))])) t → Steps p.tables e below (s₁.setTop (entryFrame m #[(.int x0), (.int x1), (.int x2), (.int x3), (.int x4)] maxLocals)) t := fun t k => pre115 t (by
        show Steps p.tables e below (T112.setTop (mkF m 246 #[.val (.int x0), .val (.int x1), .val (.int x2), .val (.int x3), .val (.int x4), .val (.int v1), .val (.int v2), .val (.int v3), .val (.int v4), .val (.int v6), .val (.ref b9), .val (.int v36), .val (.int r47), .val (.int v59), .val (.int v63), .val (.int v71), .val (.int v73), .val (.int v113)] [(.int v113)])) _
        refine XS.ifYes X112.here hx rfl (pc0 := 246) (pc' := 276) rfl (hb hby at_246) rfl ((if0 _ _).trans (teq hc116).1) (by decide) (by decide) ?_
        show Steps p.tables e below (T112.setTop (mkF m 276 #[.val (.int x0), .val (.int x1), .val (.int x2), .val (.int x3), .val (.int x4), .val (.int v1), .val (.int v2), .val (.int v3), .val (.int v4), .val (.int v6), .val (.ref b9), .val (.int v36), .val (.int r47), .val (.int v59), .val (.int v63), .val (.int v71), .val (.int v73), .val (.int v113)] [])) _
        refine XS.iconst X112.here hx rfl (hb hby at_276) ?_
        show Steps p.tables e below (T112.setTop (mkF m 277 #[.val (.int x0), .val (.int x1), .val (.int x2), .val (.int x3), .val (.int x4), .val (.int v1), .val (.int v2), .val (.int v3), .val (.int v4), .val (.int v6), .val (.ref b9), .val (.int v36), .val (.int r47), .val (.int v59), .val (.int v63), .val (.int v71), .val (.int v73), .val (.int v113)] [(.int (0 : Int32))])) _
        exact k)
      rw [if_pos hc116] at hv131
      subst hv131
      exact ⟨_, _, X112, N112, by rw [eh112]; exact Zz47, eh112, pre117⟩
    · skip
      have pre118 : ∀ t, Steps p.tables e below (T112.setTop (mkF m 252 #[.val (.int x0), .val (.int x1), .val (.int x2), .val (.int x3), .val (.int x4), .val (.int v1), .val (.int v2), .val (.int v3), .val (.int v4), .val (.int v6), .val (.ref b9), .val (.int v36), .val (.int r47), .val (.int v59), .val (.int v63), .val (.int v71), .val (.int v73), .val (.int v113)] [(.int (2 : Int32)), (.ref b9)])) t → Steps p.tables e below (s₁.setTop (entryFrame m #[(.int x0), (.int x1), (.int x2), (.int x3), (.int x4)] maxLocals)) t := fun t k => pre115 t (by
        show Steps p.tables e below (T112.setTop (mkF m 246 #[.val (.int x0), .val (.int x1), .val (.int x2), .val (.int x3), .val (.int x4), .val (.int v1), .val (.int v2), .val (.int v3), .val (.int v4), .val (.int v6), .val (.ref b9), .val (.int v36), .val (.int r47), .val (.int v59), .val (.int v63), .val (.int v71), .val (.int v73), .val (.int v113)] [(.int v113)])) _
        refine XS.ifNo X112.here hx rfl (hb hby at_246) rfl ((if0 _ _).trans (feq hc116).1) ?_
        show Steps p.tables e below (T112.setTop (mkF m 249 #[.val (.int x0), .val (.int x1), .val (.int x2), .val (.int x3), .val (.int x4), .val (.int v1), .val (.int v2), .val (.int v3), .val (.int v4), .val (.int v6), .val (.ref b9), .val (.int v36), .val (.int r47), .val (.int v59), .val (.int v63), .val (.int v71), .val (.int v73), .val (.int v113)] [])) _
        refine XS.aload X112.here hx rfl (hb hby at_249) rfl rfl ?_
        show Steps p.tables e below (T112.setTop (mkF m 251 #[.val (.int x0), .val (.int x1), .val (.int x2), .val (.int x3), .val (.int x4), .val (.int v1), .val (.int v2), .val (.int v3), .val (.int v4), .val (.int v6), .val (.ref b9), .val (.int v36), .val (.int r47), .val (.int v59), .val (.int v63), .val (.int v71), .val (.int v73), .val (.int v113)] [(.ref b9)])) _
        refine XS.iconst X112.here hx rfl (hb hby at_251) ?_
        show Steps p.tables e below (T112.setTop (mkF m 252 #[.val (.int x0), .val (.int x1), .val (.int x2), .val (.int x3), .val (.int x4), .val (.int v1), .val (.int v2), .val (.int v3), .val (.int v4), .val (.int v6), .val (.ref b9), .val (.int v36), .val (.int r47), .val (.int v59), .val (.int v63), .val (.int v71), .val (.int v73), .val (.int v113)] [(.int (2 : Int32)), (.ref b9)])) _
        exact k)
      obtain ⟨cq120, kq120, q120a, q120b, q120c⟩ := isOf hZ eh112 o47_0
      obtain ⟨_, _, ⟨T120, L120, k120, n120⟩, -, X120, ⟨Lc120, hQ120, l120, y120, z120⟩, st120⟩ := X112.virtualBack hx (y := (⟨"com/example/clocks_to_automata/clockstoautomata/semantics/Assignment", "value", "(I)I"⟩ : MethodName)) (z := (⟨"com/example/clocks_to_automata/clockstoautomata/semantics/Assignment", "value", "(I)I"⟩ : MethodName)) hown (mvT hZ (hw _ (List.mem_of_getElem? (i := 26) rfl))) (mvT hZ (hw _ (List.mem_of_getElem? (i := 27) rfl))) (notFace_of_selects (args := #[]) (mvT hZ (hw _ (List.mem_of_getElem? (i := 29) rfl)))) (mvT hZ (hw _ (List.mem_of_getElem? (i := 29) rfl))) (mvT hZ (hw _ (List.mem_of_getElem? (i := 28) rfl))) (by decide) (backOf (W := 0) (rm5 l Z a0 hw [] b9 (2 : Int32) bv_13 kv_13 (if (own_el3 v3 v38 v39 v40) = (-1 : Int32) then (if v3 = (0 : Int32) then v4 else v38) else v38) (if (own_el3 v3 v38 v39 v40) = (-1 : Int32) then (if v3 = (1 : Int32) then v4 else v39) else v39) (if (own_el3 v3 v38 v39 v40) = (-1 : Int32) then (if v3 = (2 : Int32) then v4 else v40) else v40) T47.heap n0 Zz47 o47_1 o47_4 (own_need0_121_0 x0 x1 x2 x3 x4 v1 v2 v3 v4 v6 v36 v37 v38 v39 v40 v41 v42 v43 r47 v59 v63 v66 v69 v71 v73 v77 v95 v113 hv1 hv2 hv3 hv4 hv6 hv36 hv37 hv38 hv39 hv40 hv41 hv42 hv43 P47 hv59 hv63 hv66 hv69 hv71 hv73 hv77 hv95 hv113 hc116)) hZ (hw _ (List.mem_of_getElem? (i := 30) rfl)) (hw _ (List.mem_of_getElem? (i := 3) rfl)) (by decide) (by decide)) q120a q120c (g := (mkF m 252 #[.val (.int x0), .val (.int x1), .val (.int x2), .val (.int x3), .val (.int x4), .val (.int v1), .val (.int v2), .val (.int v3), .val (.int v4), .val (.int v6), .val (.ref b9), .val (.int v36), .val (.int r47), .val (.int v59), .val (.int v63), .val (.int v71), .val (.int v73), .val (.int v113)] [(.int (2 : Int32)), (.ref b9)])) rfl (by rw [hml]; rfl) (Steps.refl _) (argsL := [(.int (2 : Int32))]) (rest := []) (lenOf pd_3 rfl) rfl (by show 2 * 0 + _ ≤ _; exact Nat.le_of_eq rfl) (hb hby at_252) (fun _ _ => ⟨rfl, eh112, (by decide : 3 + 0 ≤ _), (by decide : 9 + 0 ≤ _)⟩)
      dsimp only [Pt.U, Pt.locs, Pt.cells, Pt.slots] at X120 l120 y120 z120 st120 hQ120
      subst l120 y120 z120
      obtain ⟨r120, rfl, N120q, e120, P120⟩ := hQ120
      have N120 := Fr.app N112 N120q
      have pre122 : ∀ t, Steps p.tables e below (T120.setTop (mkF m 255 #[.val (.int x0), .val (.int x1), .val (.int x2), .val (.int x3), .val (.int x4), .val (.int v1), .val (.int v2), .val (.int v3), .val (.int v4), .val (.int v6), .val (.ref b9), .val (.int v36), .val (.int r47), .val (.int v59), .val (.int v63), .val (.int v71), .val (.int v73), .val (.int v113)] [(.int r120)])) t → Steps p.tables e below (s₁.setTop (entryFrame m #[(.int x0), (.int x1), (.int x2), (.int x3), (.int x4)] maxLocals)) t := fun t k => pre118 t (st120.trans k)
      have pre123 : ∀ t, Steps p.tables e below (T120.setTop (mkF m 266 #[.val (.int x0), .val (.int x1), .val (.int x2), .val (.int x3), .val (.int x4), .val (.int v1), .val (.int v2), .val (.int v3), .val (.int v4), .val (.int v6), .val (.ref b9), .val (.int v36), .val (.int r47), .val (.int v59), .val (.int v63), .val (.int v71), .val (.int v73), .val (.int v113)] [(.int v4), (.int v3), (.int v2), (.int v1), (.int v6), (.int (2 : Int32)), (.int r120)])) t → Steps p.tables e below (s₁.setTop (entryFrame m #[(.int x0), (.int x1), (.int x2), (.int x3), (.int x4)] maxLocals)) t := fun t k => pre122 t (by
        show Steps p.tables e below (T120.setTop (mkF m 255 #[.val (.int x0), .val (.int x1), .val (.int x2), .val (.int x3), .val (.int x4), .val (.int v1), .val (.int v2), .val (.int v3), .val (.int v4), .val (.int v6), .val (.ref b9), .val (.int v36), .val (.int r47), .val (.int v59), .val (.int v63), .val (.int v71), .val (.int v73), .val (.int v113)] [(.int r120)])) _
        refine XS.iconst X120.here hx rfl (hb hby at_255) ?_
        show Steps p.tables e below (T120.setTop (mkF m 256 #[.val (.int x0), .val (.int x1), .val (.int x2), .val (.int x3), .val (.int x4), .val (.int v1), .val (.int v2), .val (.int v3), .val (.int v4), .val (.int v6), .val (.ref b9), .val (.int v36), .val (.int r47), .val (.int v59), .val (.int v63), .val (.int v71), .val (.int v73), .val (.int v113)] [(.int (2 : Int32)), (.int r120)])) _
        refine XS.iload X120.here hx rfl (hb hby at_256) rfl ?_
        show Steps p.tables e below (T120.setTop (mkF m 258 #[.val (.int x0), .val (.int x1), .val (.int x2), .val (.int x3), .val (.int x4), .val (.int v1), .val (.int v2), .val (.int v3), .val (.int v4), .val (.int v6), .val (.ref b9), .val (.int v36), .val (.int r47), .val (.int v59), .val (.int v63), .val (.int v71), .val (.int v73), .val (.int v113)] [(.int v6), (.int (2 : Int32)), (.int r120)])) _
        refine XS.iload X120.here hx rfl (hb hby at_258) rfl ?_
        show Steps p.tables e below (T120.setTop (mkF m 260 #[.val (.int x0), .val (.int x1), .val (.int x2), .val (.int x3), .val (.int x4), .val (.int v1), .val (.int v2), .val (.int v3), .val (.int v4), .val (.int v6), .val (.ref b9), .val (.int v36), .val (.int r47), .val (.int v59), .val (.int v63), .val (.int v71), .val (.int v73), .val (.int v113)] [(.int v1), (.int v6), (.int (2 : Int32)), (.int r120)])) _
        refine XS.iload X120.here hx rfl (hb hby at_260) rfl ?_
        show Steps p.tables e below (T120.setTop (mkF m 262 #[.val (.int x0), .val (.int x1), .val (.int x2), .val (.int x3), .val (.int x4), .val (.int v1), .val (.int v2), .val (.int v3), .val (.int v4), .val (.int v6), .val (.ref b9), .val (.int v36), .val (.int r47), .val (.int v59), .val (.int v63), .val (.int v71), .val (.int v73), .val (.int v113)] [(.int v2), (.int v1), (.int v6), (.int (2 : Int32)), (.int r120)])) _
        refine XS.iload X120.here hx rfl (hb hby at_262) rfl ?_
        show Steps p.tables e below (T120.setTop (mkF m 264 #[.val (.int x0), .val (.int x1), .val (.int x2), .val (.int x3), .val (.int x4), .val (.int v1), .val (.int v2), .val (.int v3), .val (.int v4), .val (.int v6), .val (.ref b9), .val (.int v36), .val (.int r47), .val (.int v59), .val (.int v63), .val (.int v71), .val (.int v73), .val (.int v113)] [(.int v3), (.int v2), (.int v1), (.int v6), (.int (2 : Int32)), (.int r120)])) _
        refine XS.iload X120.here hx rfl (hb hby at_264) rfl ?_
        show Steps p.tables e below (T120.setTop (mkF m 266 #[.val (.int x0), .val (.int x1), .val (.int x2), .val (.int x3), .val (.int x4), .val (.int v1), .val (.int v2), .val (.int v3), .val (.int v4), .val (.int v6), .val (.ref b9), .val (.int v36), .val (.int r47), .val (.int v59), .val (.int v63), .val (.int v71), .val (.int v73), .val (.int v113)] [(.int v4), (.int v3), (.int v2), (.int v1), (.int v6), (.int (2 : Int32)), (.int r120)])) _
        exact k)
      obtain ⟨_, _, ⟨T125, L125, k125, n125⟩, -, X125, ⟨Lc125, hQ125, l125, y125, z125⟩, st125⟩ := Jvm.LawKit.callS X120 hx (y := (⟨"com/example/clocks_to_automata/clockstoautomata/semantics/AssignmentForcePinLaw", "expectedValue", "(IZIIII)I"⟩ : MethodName)) hown (mvT hZ (hw _ (List.mem_of_getElem? (i := 31) rfl))) (mvT hZ (hw _ (List.mem_of_getElem? (i := 32) rfl))) (mvT hZ (hw _ (List.mem_of_getElem? (i := 33) rfl))) (mvT hZ (hw _ (List.mem_of_getElem? (i := 34) rfl))) (by decide) (backOf (W := 1) (rm6 l Z a0 hw [] (2 : Int32) v6 v1 v2 v3 v4  T47.heap n0 Zz47 ) hZ (hw _ (List.mem_of_getElem? (i := 34) rfl)) (hw _ (List.mem_of_getElem? (i := 33) rfl)) (by decide) (by decide)) (g := (mkF m 266 #[.val (.int x0), .val (.int x1), .val (.int x2), .val (.int x3), .val (.int x4), .val (.int v1), .val (.int v2), .val (.int v3), .val (.int v4), .val (.int v6), .val (.ref b9), .val (.int v36), .val (.int r47), .val (.int v59), .val (.int v63), .val (.int v71), .val (.int v73), .val (.int v113)] [(.int v4), (.int v3), (.int v2), (.int v1), (.int v6), (.int (2 : Int32)), (.int r120)])) rfl (by rw [hml]; rfl) (argsL := [(.int (2 : Int32)), (.int v6), (.int v1), (.int v2), (.int v3), (.int v4)]) (rest := [(.int r120)]) (lenOf pd_4 rfl) rfl (by show 2 * 0 + _ ≤ _; exact Nat.le_of_eq rfl) (hb hby at_266) (fun _ _ => ⟨rfl, e120, (by decide : 3 + 0 ≤ _), (by decide : 9 + 0 ≤ _)⟩)
      dsimp only [Pt.U, Pt.locs, Pt.cells, Pt.slots] at X125 l125 y125 z125 st125 hQ125
      subst l125 y125 z125
      obtain ⟨r125, rfl, N125q, e125, P125⟩ := hQ125
      have N125 := Fr.app N120 N125q
      have pre126 : ∀ t, Steps p.tables e below (T125.setTop (mkF m 269 #[.val (.int x0), .val (.int x1), .val (.int x2), .val (.int x3), .val (.int x4), .val (.int v1), .val (.int v2), .val (.int v3), .val (.int v4), .val (.int v6), .val (.ref b9), .val (.int v36), .val (.int r47), .val (.int v59), .val (.int v63), .val (.int v71), .val (.int v73), .val (.int v113)] [(.int r125), (.int r120)])) t → Steps p.tables e below (s₁.setTop (entryFrame m #[(.int x0), (.int x1), (.int x2), (.int x3), (.int x4)] maxLocals)) t := fun t k => pre123 t (st125 _ k)
      obtain ⟨v128, hv128⟩ : ∃ z : Int32, z = (if r120 = r125 then (1 : Int32) else (0 : Int32)) := ⟨_, rfl⟩
      have pre129 : ∀ t, Steps p.tables e below (T125.setTop (mkF m 277 #[.val (.int x0), .val (.int x1), .val (.int x2), .val (.int x3), .val (.int x4), .val (.int v1), .val (.int v2), .val (.int v3), .val (.int v4), .val (.int v6), .val (.ref b9), .val (.int v36), .val (.int r47), .val (.int v59), .val (.int v63), .val (.int v71), .val (.int v73), .val (.int v113)] [(.int v128)])) t → Steps p.tables e below (s₁.setTop (entryFrame m #[(.int x0), (.int x1), (.int x2), (.int x3), (.int x4)] maxLocals)) t := fun t k => pre126 t (by
        show Steps p.tables e below (T125.setTop (mkF m 269 #[.val (.int x0), .val (.int x1), .val (.int x2), .val (.int x3), .val (.int x4), .val (.int v1), .val (.int v2), .val (.int v3), .val (.int v4), .val (.int v6), .val (.ref b9), .val (.int v36), .val (.int r47), .val (.int v59), .val (.int v63), .val (.int v71), .val (.int v73), .val (.int v113)] [(.int r125), (.int r120)])) _
        by_cases hc127 : r120 = r125
        · skip
          refine XS.icmpNo X125.here hx rfl (hb hby at_269) rfl (teq hc127).2 ?_
          show Steps p.tables e below (T125.setTop (mkF m 272 #[.val (.int x0), .val (.int x1), .val (.int x2), .val (.int x3), .val (.int x4), .val (.int v1), .val (.int v2), .val (.int v3), .val (.int v4), .val (.int v6), .val (.ref b9), .val (.int v36), .val (.int r47), .val (.int v59), .val (.int v63), .val (.int v71), .val (.int v73), .val (.int v113)] [])) _
          refine XS.iconst X125.here hx rfl (hb hby at_272) ?_
          show Steps p.tables e below (T125.setTop (mkF m 273 #[.val (.int x0), .val (.int x1), .val (.int x2), .val (.int x3), .val (.int x4), .val (.int v1), .val (.int v2), .val (.int v3), .val (.int v4), .val (.int v6), .val (.ref b9), .val (.int v36), .val (.int r47), .val (.int v59), .val (.int v63), .val (.int v71), .val (.int v73), .val (.int v113)] [(.int (1 : Int32))])) _
          refine XS.goto X125.here hx rfl (pc0 := 273) (pc' := 277) rfl (hb hby at_273) (by decide) (by decide) ?_
          show Steps p.tables e below (T125.setTop (mkF m 277 #[.val (.int x0), .val (.int x1), .val (.int x2), .val (.int x3), .val (.int x4), .val (.int v1), .val (.int v2), .val (.int v3), .val (.int v4), .val (.int v6), .val (.ref b9), .val (.int v36), .val (.int r47), .val (.int v59), .val (.int v63), .val (.int v71), .val (.int v73), .val (.int v113)] [(.int (1 : Int32))])) _
          rw [show v128 = (1 : Int32) from by rw [hv128, if_pos hc127]] at k
          exact k
        · skip
          refine XS.icmpYes X125.here hx rfl (pc0 := 269) (pc' := 276) rfl (hb hby at_269) rfl (feq hc127).2 (by decide) (by decide) ?_
          show Steps p.tables e below (T125.setTop (mkF m 276 #[.val (.int x0), .val (.int x1), .val (.int x2), .val (.int x3), .val (.int x4), .val (.int v1), .val (.int v2), .val (.int v3), .val (.int v4), .val (.int v6), .val (.ref b9), .val (.int v36), .val (.int r47), .val (.int v59), .val (.int v63), .val (.int v71), .val (.int v73), .val (.int v113)] [])) _
          refine XS.iconst X125.here hx rfl (hb hby at_276) ?_
          show Steps p.tables e below (T125.setTop (mkF m 277 #[.val (.int x0), .val (.int x1), .val (.int x2), .val (.int x3), .val (.int x4), .val (.int v1), .val (.int v2), .val (.int v3), .val (.int v4), .val (.int v6), .val (.ref b9), .val (.int v36), .val (.int r47), .val (.int v59), .val (.int v63), .val (.int v71), .val (.int v73), .val (.int v113)] [(.int (0 : Int32))])) _
          rw [show v128 = (0 : Int32) from by rw [hv128, if_neg hc127]] at k
          exact k)
      rw [if_neg hc116] at hv131
      subst hv128
      subst P125
      subst P120
      subst hv131
      exact ⟨_, _, X125, N125, by rw [e125]; exact Zz47, e125, pre129⟩
  have pre133 : ∀ t, Steps p.tables e below (T130.setTop (mkF m 281 #[.val (.int x0), .val (.int x1), .val (.int x2), .val (.int x3), .val (.int x4), .val (.int v1), .val (.int v2), .val (.int v3), .val (.int v4), .val (.int v6), .val (.ref b9), .val (.int v36), .val (.int r47), .val (.int v59), .val (.int v63), .val (.int v71), .val (.int v73), .val (.int v131)] [(.int v131)])) t → Steps p.tables e below (s₁.setTop (entryFrame m #[(.int x0), (.int x1), (.int x2), (.int x3), (.int x4)] maxLocals)) t := fun t k => pre132 t (by
    show Steps p.tables e below (T130.setTop (mkF m 277 #[.val (.int x0), .val (.int x1), .val (.int x2), .val (.int x3), .val (.int x4), .val (.int v1), .val (.int v2), .val (.int v3), .val (.int v4), .val (.int v6), .val (.ref b9), .val (.int v36), .val (.int r47), .val (.int v59), .val (.int v63), .val (.int v71), .val (.int v73), .val (.int v113)] [(.int v131)])) _
    refine XS.istore X130.here hx rfl (hb hby at_277) rfl (l' := #[.val (.int x0), .val (.int x1), .val (.int x2), .val (.int x3), .val (.int x4), .val (.int v1), .val (.int v2), .val (.int v3), .val (.int v4), .val (.int v6), .val (.ref b9), .val (.int v36), .val (.int r47), .val (.int v59), .val (.int v63), .val (.int v71), .val (.int v73), .val (.int v131)]) rfl ?_
    show Steps p.tables e below (T130.setTop (mkF m 279 #[.val (.int x0), .val (.int x1), .val (.int x2), .val (.int x3), .val (.int x4), .val (.int v1), .val (.int v2), .val (.int v3), .val (.int v4), .val (.int v6), .val (.ref b9), .val (.int v36), .val (.int r47), .val (.int v59), .val (.int v63), .val (.int v71), .val (.int v73), .val (.int v131)] [])) _
    refine XS.iload X130.here hx rfl (hb hby at_279) rfl ?_
    show Steps p.tables e below (T130.setTop (mkF m 281 #[.val (.int x0), .val (.int x1), .val (.int x2), .val (.int x3), .val (.int x4), .val (.int v1), .val (.int v2), .val (.int v3), .val (.int v4), .val (.int v6), .val (.ref b9), .val (.int v36), .val (.int r47), .val (.int v59), .val (.int v63), .val (.int v71), .val (.int v73), .val (.int v131)] [(.int v131)])) _
    exact k)
  obtain ⟨v144, hv144⟩ : ∃ z : Int32, z = (if v131 = (0 : Int32) then (0 : Int32) else (if F7 (if (own_el3 v3 v38 v39 v40) = (-1 : Int32) then (v37 + (1 : Int32)) else v37) = v71 then (1 : Int32) else (0 : Int32))) := ⟨_, rfl⟩
  obtain ⟨T143, L143, X143, N143, Zz143, eh143, pre145⟩ : ∃ (T143 : State) (L143 : List Loc), Stand p l e room_1 s m #[(.int x0), (.int x1), (.int x2), (.int x3), (.int x4)] below meth c T143 L143 3 9 ∧ Fr n0 L143 ∧ n0 ≤ T143.heap.size ∧ (T143.heap = T47.heap) ∧ ∀ t, Steps p.tables e below (T143.setTop (mkF m 299 #[.val (.int x0), .val (.int x1), .val (.int x2), .val (.int x3), .val (.int x4), .val (.int v1), .val (.int v2), .val (.int v3), .val (.int v4), .val (.int v6), .val (.ref b9), .val (.int v36), .val (.int r47), .val (.int v59), .val (.int v63), .val (.int v71), .val (.int v73), .val (.int v131)] [(.int v144)])) t → Steps p.tables e below (s₁.setTop (entryFrame m #[(.int x0), (.int x1), (.int x2), (.int x3), (.int x4)] maxLocals)) t := by
    by_cases hc134 : v131 = (0 : Int32)
    · skip
      have pre135 : ∀ t, Steps p.tables e below (T130.setTop (mkF m 299 #[.val (.int x0), .val (.int x1), .val (.int x2), .val (.int x3), .val (.int x4), .val (.int v1), .val (.int v2), .val (.int v3), .val (.int v4), .val (.int v6), .val (.ref b9), .val (.int v36), .val (.int r47), .val (.int v59), .val (.int v63), .val (.int v71), .val (.int v73), .val (.int v131)] [(.int (0 : Int32))])) t → Steps p.tables e below (s₁.setTop (entryFrame m #[(.int x0), (.int x1), (.int x2), (.int x3), (.int x4)] maxLocals)) t := fun t k => pre133 t (by
        show Steps p.tables e below (T130.setTop (mkF m 281 #[.val (.int x0), .val (.int x1), .val (.int x2), .val (.int x3), .val (.int x4), .val (.int v1), .val (.int v2), .val (.int v3), .val (.int v4), .val (.int v6), .val (.ref b9), .val (.int v36), .val (.int r47), .val (.int v59), .val (.int v63), .val (.int v71), .val (.int v73), .val (.int v131)] [(.int v131)])) _
        refine XS.ifYes X130.here hx rfl (pc0 := 281) (pc' := 298) rfl (hb hby at_281) rfl ((if0 _ _).trans (teq hc134).1) (by decide) (by decide) ?_
        show Steps p.tables e below (T130.setTop (mkF m 298 #[.val (.int x0), .val (.int x1), .val (.int x2), .val (.int x3), .val (.int x4), .val (.int v1), .val (.int v2), .val (.int v3), .val (.int v4), .val (.int v6), .val (.ref b9), .val (.int v36), .val (.int r47), .val (.int v59), .val (.int v63), .val (.int v71), .val (.int v73), .val (.int v131)] [])) _
        refine XS.iconst X130.here hx rfl (hb hby at_298) ?_
        show Steps p.tables e below (T130.setTop (mkF m 299 #[.val (.int x0), .val (.int x1), .val (.int x2), .val (.int x3), .val (.int x4), .val (.int v1), .val (.int v2), .val (.int v3), .val (.int v4), .val (.int v6), .val (.ref b9), .val (.int v36), .val (.int r47), .val (.int v59), .val (.int v63), .val (.int v71), .val (.int v73), .val (.int v131)] [(.int (0 : Int32))])) _
        exact k)
      rw [if_pos hc134] at hv144
      subst hv144
      exact ⟨_, _, X130, N130, by rw [eh130]; exact Zz47, eh130, pre135⟩
    · skip
      have pre136 : ∀ t, Steps p.tables e below (T130.setTop (mkF m 286 #[.val (.int x0), .val (.int x1), .val (.int x2), .val (.int x3), .val (.int x4), .val (.int v1), .val (.int v2), .val (.int v3), .val (.int v4), .val (.int v6), .val (.ref b9), .val (.int v36), .val (.int r47), .val (.int v59), .val (.int v63), .val (.int v71), .val (.int v73), .val (.int v131)] [(.ref b9)])) t → Steps p.tables e below (s₁.setTop (entryFrame m #[(.int x0), (.int x1), (.int x2), (.int x3), (.int x4)] maxLocals)) t := fun t k => pre133 t (by
        show Steps p.tables e below (T130.setTop (mkF m 281 #[.val (.int x0), .val (.int x1), .val (.int x2), .val (.int x3), .val (.int x4), .val (.int v1), .val (.int v2), .val (.int v3), .val (.int v4), .val (.int v6), .val (.ref b9), .val (.int v36), .val (.int r47), .val (.int v59), .val (.int v63), .val (.int v71), .val (.int v73), .val (.int v131)] [(.int v131)])) _
        refine XS.ifNo X130.here hx rfl (hb hby at_281) rfl ((if0 _ _).trans (feq hc134).1) ?_
        show Steps p.tables e below (T130.setTop (mkF m 284 #[.val (.int x0), .val (.int x1), .val (.int x2), .val (.int x3), .val (.int x4), .val (.int v1), .val (.int v2), .val (.int v3), .val (.int v4), .val (.int v6), .val (.ref b9), .val (.int v36), .val (.int r47), .val (.int v59), .val (.int v63), .val (.int v71), .val (.int v73), .val (.int v131)] [])) _
        refine XS.aload X130.here hx rfl (hb hby at_284) rfl rfl ?_
        show Steps p.tables e below (T130.setTop (mkF m 286 #[.val (.int x0), .val (.int x1), .val (.int x2), .val (.int x3), .val (.int x4), .val (.int v1), .val (.int v2), .val (.int v3), .val (.int v4), .val (.int v6), .val (.ref b9), .val (.int v36), .val (.int r47), .val (.int v59), .val (.int v63), .val (.int v71), .val (.int v73), .val (.int v131)] [(.ref b9)])) _
        exact k)
      obtain ⟨cq138, kq138, q138a, q138b, q138c⟩ := isOf hZ eh130 o47_0
      obtain ⟨_, _, ⟨T138, L138, k138, n138⟩, -, X138, ⟨Lc138, hQ138, l138, y138, z138⟩, st138⟩ := X130.virtualBack hx (y := (⟨"com/example/clocks_to_automata/clockstoautomata/semantics/Assignment", "trailSize", "()I"⟩ : MethodName)) (z := (⟨"com/example/clocks_to_automata/clockstoautomata/semantics/Assignment", "trailSize", "()I"⟩ : MethodName)) hown (mvT hZ (hw _ (List.mem_of_getElem? (i := 35) rfl))) (mvT hZ (hw _ (List.mem_of_getElem? (i := 36) rfl))) (notFace_of_selects (args := #[]) (mvT hZ (hw _ (List.mem_of_getElem? (i := 38) rfl)))) (mvT hZ (hw _ (List.mem_of_getElem? (i := 38) rfl))) (mvT hZ (hw _ (List.mem_of_getElem? (i := 37) rfl))) (by decide) (backOf (W := 0) (rm7 l Z a0 hw [] b9 (if (own_el3 v3 v38 v39 v40) = (-1 : Int32) then (v37 + (1 : Int32)) else v37) T47.heap n0 Zz47 o47_3) hZ (hw _ (List.mem_of_getElem? (i := 39) rfl)) (hw _ (List.mem_of_getElem? (i := 3) rfl)) (by decide) (by decide)) q138a q138c (g := (mkF m 286 #[.val (.int x0), .val (.int x1), .val (.int x2), .val (.int x3), .val (.int x4), .val (.int v1), .val (.int v2), .val (.int v3), .val (.int v4), .val (.int v6), .val (.ref b9), .val (.int v36), .val (.int r47), .val (.int v59), .val (.int v63), .val (.int v71), .val (.int v73), .val (.int v131)] [(.ref b9)])) rfl (by rw [hml]; rfl) (Steps.refl _) (argsL := []) (rest := []) (lenOf pd_5 rfl) rfl (by show 2 * 0 + _ ≤ _; exact Nat.le_of_eq rfl) (hb hby at_286) (fun _ _ => ⟨rfl, eh130, (by decide : 3 + 0 ≤ _), (by decide : 9 + 0 ≤ _)⟩)
      dsimp only [Pt.U, Pt.locs, Pt.cells, Pt.slots] at X138 l138 y138 z138 st138 hQ138
      subst l138 y138 z138
      obtain ⟨r138, rfl, N138q, e138, P138⟩ := hQ138
      have N138 := Fr.app N130 N138q
      have pre139 : ∀ t, Steps p.tables e below (T138.setTop (mkF m 289 #[.val (.int x0), .val (.int x1), .val (.int x2), .val (.int x3), .val (.int x4), .val (.int v1), .val (.int v2), .val (.int v3), .val (.int v4), .val (.int v6), .val (.ref b9), .val (.int v36), .val (.int r47), .val (.int v59), .val (.int v63), .val (.int v71), .val (.int v73), .val (.int v131)] [(.int r138)])) t → Steps p.tables e below (s₁.setTop (entryFrame m #[(.int x0), (.int x1), (.int x2), (.int x3), (.int x4)] maxLocals)) t := fun t k => pre136 t (st138.trans k)
      obtain ⟨v141, hv141⟩ : ∃ z : Int32, z = (if r138 = v71 then (1 : Int32) else (0 : Int32)) := ⟨_, rfl⟩
      have pre142 : ∀ t, Steps p.tables e below (T138.setTop (mkF m 299 #[.val (.int x0), .val (.int x1), .val (.int x2), .val (.int x3), .val (.int x4), .val (.int v1), .val (.int v2), .val (.int v3), .val (.int v4), .val (.int v6), .val (.ref b9), .val (.int v36), .val (.int r47), .val (.int v59), .val (.int v63), .val (.int v71), .val (.int v73), .val (.int v131)] [(.int v141)])) t → Steps p.tables e below (s₁.setTop (entryFrame m #[(.int x0), (.int x1), (.int x2), (.int x3), (.int x4)] maxLocals)) t := fun t k => pre139 t (by
        show Steps p.tables e below (T138.setTop (mkF m 289 #[.val (.int x0), .val (.int x1), .val (.int x2), .val (.int x3), .val (.int x4), .val (.int v1), .val (.int v2), .val (.int v3), .val (.int v4), .val (.int v6), .val (.ref b9), .val (.int v36), .val (.int r47), .val (.int v59), .val (.int v63), .val (.int v71), .val (.int v73), .val (.int v131)] [(.int r138)])) _
        refine XS.iload X138.here hx rfl (hb hby at_289) rfl ?_
        show Steps p.tables e below (T138.setTop (mkF m 291 #[.val (.int x0), .val (.int x1), .val (.int x2), .val (.int x3), .val (.int x4), .val (.int v1), .val (.int v2), .val (.int v3), .val (.int v4), .val (.int v6), .val (.ref b9), .val (.int v36), .val (.int r47), .val (.int v59), .val (.int v63), .val (.int v71), .val (.int v73), .val (.int v131)] [(.int v71), (.int r138)])) _
        by_cases hc140 : r138 = v71
        · skip
          refine XS.icmpNo X138.here hx rfl (hb hby at_291) rfl (teq hc140).2 ?_
          show Steps p.tables e below (T138.setTop (mkF m 294 #[.val (.int x0), .val (.int x1), .val (.int x2), .val (.int x3), .val (.int x4), .val (.int v1), .val (.int v2), .val (.int v3), .val (.int v4), .val (.int v6), .val (.ref b9), .val (.int v36), .val (.int r47), .val (.int v59), .val (.int v63), .val (.int v71), .val (.int v73), .val (.int v131)] [])) _
          refine XS.iconst X138.here hx rfl (hb hby at_294) ?_
          show Steps p.tables e below (T138.setTop (mkF m 295 #[.val (.int x0), .val (.int x1), .val (.int x2), .val (.int x3), .val (.int x4), .val (.int v1), .val (.int v2), .val (.int v3), .val (.int v4), .val (.int v6), .val (.ref b9), .val (.int v36), .val (.int r47), .val (.int v59), .val (.int v63), .val (.int v71), .val (.int v73), .val (.int v131)] [(.int (1 : Int32))])) _
          refine XS.goto X138.here hx rfl (pc0 := 295) (pc' := 299) rfl (hb hby at_295) (by decide) (by decide) ?_
          show Steps p.tables e below (T138.setTop (mkF m 299 #[.val (.int x0), .val (.int x1), .val (.int x2), .val (.int x3), .val (.int x4), .val (.int v1), .val (.int v2), .val (.int v3), .val (.int v4), .val (.int v6), .val (.ref b9), .val (.int v36), .val (.int r47), .val (.int v59), .val (.int v63), .val (.int v71), .val (.int v73), .val (.int v131)] [(.int (1 : Int32))])) _
          rw [show v141 = (1 : Int32) from by rw [hv141, if_pos hc140]] at k
          exact k
        · skip
          refine XS.icmpYes X138.here hx rfl (pc0 := 291) (pc' := 298) rfl (hb hby at_291) rfl (feq hc140).2 (by decide) (by decide) ?_
          show Steps p.tables e below (T138.setTop (mkF m 298 #[.val (.int x0), .val (.int x1), .val (.int x2), .val (.int x3), .val (.int x4), .val (.int v1), .val (.int v2), .val (.int v3), .val (.int v4), .val (.int v6), .val (.ref b9), .val (.int v36), .val (.int r47), .val (.int v59), .val (.int v63), .val (.int v71), .val (.int v73), .val (.int v131)] [])) _
          refine XS.iconst X138.here hx rfl (hb hby at_298) ?_
          show Steps p.tables e below (T138.setTop (mkF m 299 #[.val (.int x0), .val (.int x1), .val (.int x2), .val (.int x3), .val (.int x4), .val (.int v1), .val (.int v2), .val (.int v3), .val (.int v4), .val (.int v6), .val (.ref b9), .val (.int v36), .val (.int r47), .val (.int v59), .val (.int v63), .val (.int v71), .val (.int v73), .val (.int v131)] [(.int (0 : Int32))])) _
          rw [show v141 = (0 : Int32) from by rw [hv141, if_neg hc140]] at k
          exact k)
      rw [if_neg hc134] at hv144
      subst hv141
      subst P138
      subst hv144
      exact ⟨_, _, X138, N138, by rw [e138]; exact Zz47, e138, pre142⟩
  have pre146 : ∀ t, Steps p.tables e below (T143.setTop (mkF m 303 #[.val (.int x0), .val (.int x1), .val (.int x2), .val (.int x3), .val (.int x4), .val (.int v1), .val (.int v2), .val (.int v3), .val (.int v4), .val (.int v6), .val (.ref b9), .val (.int v36), .val (.int r47), .val (.int v59), .val (.int v63), .val (.int v71), .val (.int v73), .val (.int v144)] [(.int v144)])) t → Steps p.tables e below (s₁.setTop (entryFrame m #[(.int x0), (.int x1), (.int x2), (.int x3), (.int x4)] maxLocals)) t := fun t k => pre145 t (by
    show Steps p.tables e below (T143.setTop (mkF m 299 #[.val (.int x0), .val (.int x1), .val (.int x2), .val (.int x3), .val (.int x4), .val (.int v1), .val (.int v2), .val (.int v3), .val (.int v4), .val (.int v6), .val (.ref b9), .val (.int v36), .val (.int r47), .val (.int v59), .val (.int v63), .val (.int v71), .val (.int v73), .val (.int v131)] [(.int v144)])) _
    refine XS.istore X143.here hx rfl (hb hby at_299) rfl (l' := #[.val (.int x0), .val (.int x1), .val (.int x2), .val (.int x3), .val (.int x4), .val (.int v1), .val (.int v2), .val (.int v3), .val (.int v4), .val (.int v6), .val (.ref b9), .val (.int v36), .val (.int r47), .val (.int v59), .val (.int v63), .val (.int v71), .val (.int v73), .val (.int v144)]) rfl ?_
    show Steps p.tables e below (T143.setTop (mkF m 301 #[.val (.int x0), .val (.int x1), .val (.int x2), .val (.int x3), .val (.int x4), .val (.int v1), .val (.int v2), .val (.int v3), .val (.int v4), .val (.int v6), .val (.ref b9), .val (.int v36), .val (.int r47), .val (.int v59), .val (.int v63), .val (.int v71), .val (.int v73), .val (.int v144)] [])) _
    refine XS.iload X143.here hx rfl (hb hby at_301) rfl ?_
    show Steps p.tables e below (T143.setTop (mkF m 303 #[.val (.int x0), .val (.int x1), .val (.int x2), .val (.int x3), .val (.int x4), .val (.int v1), .val (.int v2), .val (.int v3), .val (.int v4), .val (.int v6), .val (.ref b9), .val (.int v36), .val (.int r47), .val (.int v59), .val (.int v63), .val (.int v71), .val (.int v73), .val (.int v144)] [(.int v144)])) _
    exact k)
  obtain ⟨v158, hv158⟩ : ∃ z : Int32, z = (if v144 = (0 : Int32) then (0 : Int32) else (if F8 (0 : Int32) (if (own_el3 v3 v38 v39 v40) = (-1 : Int32) then (if v37 = (0 : Int32) then v3 else v41) else v41) (if (own_el3 v3 v38 v39 v40) = (-1 : Int32) then (if v37 = (1 : Int32) then v3 else v42) else v42) (if (own_el3 v3 v38 v39 v40) = (-1 : Int32) then (if v37 = (2 : Int32) then v3 else v43) else v43) = v73 then (1 : Int32) else (0 : Int32))) := ⟨_, rfl⟩
  obtain ⟨T157, L157, X157, N157, Zz157, eh157, pre159⟩ : ∃ (T157 : State) (L157 : List Loc), Stand p l e room_1 s m #[(.int x0), (.int x1), (.int x2), (.int x3), (.int x4)] below meth c T157 L157 3 9 ∧ Fr n0 L157 ∧ n0 ≤ T157.heap.size ∧ (T157.heap = T47.heap) ∧ ∀ t, Steps p.tables e below (T157.setTop (mkF m 322 #[.val (.int x0), .val (.int x1), .val (.int x2), .val (.int x3), .val (.int x4), .val (.int v1), .val (.int v2), .val (.int v3), .val (.int v4), .val (.int v6), .val (.ref b9), .val (.int v36), .val (.int r47), .val (.int v59), .val (.int v63), .val (.int v71), .val (.int v73), .val (.int v144)] [(.int v158)])) t → Steps p.tables e below (s₁.setTop (entryFrame m #[(.int x0), (.int x1), (.int x2), (.int x3), (.int x4)] maxLocals)) t := by
    by_cases hc147 : v144 = (0 : Int32)
    · skip
      have pre148 : ∀ t, Steps p.tables e below (T143.setTop (mkF m 322 #[.val (.int x0), .val (.int x1), .val (.int x2), .val (.int x3), .val (.int x4), .val (.int v1), .val (.int v2), .val (.int v3), .val (.int v4), .val (.int v6), .val (.ref b9), .val (.int v36), .val (.int r47), .val (.int v59), .val (.int v63), .val (.int v71), .val (.int v73), .val (.int v144)] [(.int (0 : Int32))])) t → Steps p.tables e below (s₁.setTop (entryFrame m #[(.int x0), (.int x1), (.int x2), (.int x3), (.int x4)] maxLocals)) t := fun t k => pre146 t (by
        show Steps p.tables e below (T143.setTop (mkF m 303 #[.val (.int x0), .val (.int x1), .val (.int x2), .val (.int x3), .val (.int x4), .val (.int v1), .val (.int v2), .val (.int v3), .val (.int v4), .val (.int v6), .val (.ref b9), .val (.int v36), .val (.int r47), .val (.int v59), .val (.int v63), .val (.int v71), .val (.int v73), .val (.int v144)] [(.int v144)])) _
        refine XS.ifYes X143.here hx rfl (pc0 := 303) (pc' := 321) rfl (hb hby at_303) rfl ((if0 _ _).trans (teq hc147).1) (by decide) (by decide) ?_
        show Steps p.tables e below (T143.setTop (mkF m 321 #[.val (.int x0), .val (.int x1), .val (.int x2), .val (.int x3), .val (.int x4), .val (.int v1), .val (.int v2), .val (.int v3), .val (.int v4), .val (.int v6), .val (.ref b9), .val (.int v36), .val (.int r47), .val (.int v59), .val (.int v63), .val (.int v71), .val (.int v73), .val (.int v144)] [])) _
        refine XS.iconst X143.here hx rfl (hb hby at_321) ?_
        show Steps p.tables e below (T143.setTop (mkF m 322 #[.val (.int x0), .val (.int x1), .val (.int x2), .val (.int x3), .val (.int x4), .val (.int v1), .val (.int v2), .val (.int v3), .val (.int v4), .val (.int v6), .val (.ref b9), .val (.int v36), .val (.int r47), .val (.int v59), .val (.int v63), .val (.int v71), .val (.int v73), .val (.int v144)] [(.int (0 : Int32))])) _
        exact k)
      rw [if_pos hc147] at hv158
      subst hv158
      exact ⟨_, _, X143, N143, by rw [eh143]; exact Zz47, eh143, pre148⟩
    · skip
      have pre149 : ∀ t, Steps p.tables e below (T143.setTop (mkF m 309 #[.val (.int x0), .val (.int x1), .val (.int x2), .val (.int x3), .val (.int x4), .val (.int v1), .val (.int v2), .val (.int v3), .val (.int v4), .val (.int v6), .val (.ref b9), .val (.int v36), .val (.int r47), .val (.int v59), .val (.int v63), .val (.int v71), .val (.int v73), .val (.int v144)] [(.int (0 : Int32)), (.ref b9)])) t → Steps p.tables e below (s₁.setTop (entryFrame m #[(.int x0), (.int x1), (.int x2), (.int x3), (.int x4)] maxLocals)) t := fun t k => pre146 t (by
        show Steps p.tables e below (T143.setTop (mkF m 303 #[.val (.int x0), .val (.int x1), .val (.int x2), .val (.int x3), .val (.int x4), .val (.int v1), .val (.int v2), .val (.int v3), .val (.int v4), .val (.int v6), .val (.ref b9), .val (.int v36), .val (.int r47), .val (.int v59), .val (.int v63), .val (.int v71), .val (.int v73), .val (.int v144)] [(.int v144)])) _
        refine XS.ifNo X143.here hx rfl (hb hby at_303) rfl ((if0 _ _).trans (feq hc147).1) ?_
        show Steps p.tables e below (T143.setTop (mkF m 306 #[.val (.int x0), .val (.int x1), .val (.int x2), .val (.int x3), .val (.int x4), .val (.int v1), .val (.int v2), .val (.int v3), .val (.int v4), .val (.int v6), .val (.ref b9), .val (.int v36), .val (.int r47), .val (.int v59), .val (.int v63), .val (.int v71), .val (.int v73), .val (.int v144)] [])) _
        refine XS.aload X143.here hx rfl (hb hby at_306) rfl rfl ?_
        show Steps p.tables e below (T143.setTop (mkF m 308 #[.val (.int x0), .val (.int x1), .val (.int x2), .val (.int x3), .val (.int x4), .val (.int v1), .val (.int v2), .val (.int v3), .val (.int v4), .val (.int v6), .val (.ref b9), .val (.int v36), .val (.int r47), .val (.int v59), .val (.int v63), .val (.int v71), .val (.int v73), .val (.int v144)] [(.ref b9)])) _
        refine XS.iconst X143.here hx rfl (hb hby at_308) ?_
        show Steps p.tables e below (T143.setTop (mkF m 309 #[.val (.int x0), .val (.int x1), .val (.int x2), .val (.int x3), .val (.int x4), .val (.int v1), .val (.int v2), .val (.int v3), .val (.int v4), .val (.int v6), .val (.ref b9), .val (.int v36), .val (.int r47), .val (.int v59), .val (.int v63), .val (.int v71), .val (.int v73), .val (.int v144)] [(.int (0 : Int32)), (.ref b9)])) _
        exact k)
      obtain ⟨cq151, kq151, q151a, q151b, q151c⟩ := isOf hZ eh143 o47_0
      obtain ⟨_, _, ⟨T151, L151, k151, n151⟩, -, X151, ⟨Lc151, hQ151, l151, y151, z151⟩, st151⟩ := X143.virtualBack hx (y := (⟨"com/example/clocks_to_automata/clockstoautomata/semantics/Assignment", "trailClock", "(I)I"⟩ : MethodName)) (z := (⟨"com/example/clocks_to_automata/clockstoautomata/semantics/Assignment", "trailClock", "(I)I"⟩ : MethodName)) hown (mvT hZ (hw _ (List.mem_of_getElem? (i := 40) rfl))) (mvT hZ (hw _ (List.mem_of_getElem? (i := 41) rfl))) (notFace_of_selects (args := #[]) (mvT hZ (hw _ (List.mem_of_getElem? (i := 43) rfl)))) (mvT hZ (hw _ (List.mem_of_getElem? (i := 43) rfl))) (mvT hZ (hw _ (List.mem_of_getElem? (i := 42) rfl))) (by decide) (backOf (W := 0) (rm8 l Z a0 hw [] b9 (0 : Int32) bt_13 kt_13 (if (own_el3 v3 v38 v39 v40) = (-1 : Int32) then (if v37 = (0 : Int32) then v3 else v41) else v41) (if (own_el3 v3 v38 v39 v40) = (-1 : Int32) then (if v37 = (1 : Int32) then v3 else v42) else v42) (if (own_el3 v3 v38 v39 v40) = (-1 : Int32) then (if v37 = (2 : Int32) then v3 else v43) else v43) T47.heap n0 Zz47 o47_2 o47_5 (own_need0_152_0 x0 x1 x2 x3 x4 v1 v2 v3 v4 v6 v36 v37 v38 v39 v40 v41 v42 v43 r47 v59 v63 v66 v69 v71 v73 v77 v95 v113 v131 v144 hv1 hv2 hv3 hv4 hv6 hv36 hv37 hv38 hv39 hv40 hv41 hv42 hv43 P47 hv59 hv63 hv66 hv69 hv71 hv73 hv77 hv95 hv113 hv131 hv144 hc147)) hZ (hw _ (List.mem_of_getElem? (i := 44) rfl)) (hw _ (List.mem_of_getElem? (i := 3) rfl)) (by decide) (by decide)) q151a q151c (g := (mkF m 309 #[.val (.int x0), .val (.int x1), .val (.int x2), .val (.int x3), .val (.int x4), .val (.int v1), .val (.int v2), .val (.int v3), .val (.int v4), .val (.int v6), .val (.ref b9), .val (.int v36), .val (.int r47), .val (.int v59), .val (.int v63), .val (.int v71), .val (.int v73), .val (.int v144)] [(.int (0 : Int32)), (.ref b9)])) rfl (by rw [hml]; rfl) (Steps.refl _) (argsL := [(.int (0 : Int32))]) (rest := []) (lenOf pd_3 rfl) rfl (by show 2 * 0 + _ ≤ _; exact Nat.le_of_eq rfl) (hb hby at_309) (fun _ _ => ⟨rfl, eh143, (by decide : 3 + 0 ≤ _), (by decide : 9 + 0 ≤ _)⟩)
      dsimp only [Pt.U, Pt.locs, Pt.cells, Pt.slots] at X151 l151 y151 z151 st151 hQ151
      subst l151 y151 z151
      obtain ⟨r151, rfl, N151q, e151, P151⟩ := hQ151
      have N151 := Fr.app N143 N151q
      have pre153 : ∀ t, Steps p.tables e below (T151.setTop (mkF m 312 #[.val (.int x0), .val (.int x1), .val (.int x2), .val (.int x3), .val (.int x4), .val (.int v1), .val (.int v2), .val (.int v3), .val (.int v4), .val (.int v6), .val (.ref b9), .val (.int v36), .val (.int r47), .val (.int v59), .val (.int v63), .val (.int v71), .val (.int v73), .val (.int v144)] [(.int r151)])) t → Steps p.tables e below (s₁.setTop (entryFrame m #[(.int x0), (.int x1), (.int x2), (.int x3), (.int x4)] maxLocals)) t := fun t k => pre149 t (st151.trans k)
      obtain ⟨v155, hv155⟩ : ∃ z : Int32, z = (if r151 = v73 then (1 : Int32) else (0 : Int32)) := ⟨_, rfl⟩
      have pre156 : ∀ t, Steps p.tables e below (T151.setTop (mkF m 322 #[.val (.int x0), .val (.int x1), .val (.int x2), .val (.int x3), .val (.int x4), .val (.int v1), .val (.int v2), .val (.int v3), .val (.int v4), .val (.int v6), .val (.ref b9), .val (.int v36), .val (.int r47), .val (.int v59), .val (.int v63), .val (.int v71), .val (.int v73), .val (.int v144)] [(.int v155)])) t → Steps p.tables e below (s₁.setTop (entryFrame m #[(.int x0), (.int x1), (.int x2), (.int x3), (.int x4)] maxLocals)) t := fun t k => pre153 t (by
        show Steps p.tables e below (T151.setTop (mkF m 312 #[.val (.int x0), .val (.int x1), .val (.int x2), .val (.int x3), .val (.int x4), .val (.int v1), .val (.int v2), .val (.int v3), .val (.int v4), .val (.int v6), .val (.ref b9), .val (.int v36), .val (.int r47), .val (.int v59), .val (.int v63), .val (.int v71), .val (.int v73), .val (.int v144)] [(.int r151)])) _
        refine XS.iload X151.here hx rfl (hb hby at_312) rfl ?_
        show Steps p.tables e below (T151.setTop (mkF m 314 #[.val (.int x0), .val (.int x1), .val (.int x2), .val (.int x3), .val (.int x4), .val (.int v1), .val (.int v2), .val (.int v3), .val (.int v4), .val (.int v6), .val (.ref b9), .val (.int v36), .val (.int r47), .val (.int v59), .val (.int v63), .val (.int v71), .val (.int v73), .val (.int v144)] [(.int v73), (.int r151)])) _
        by_cases hc154 : r151 = v73
        · skip
          refine XS.icmpNo X151.here hx rfl (hb hby at_314) rfl (teq hc154).2 ?_
          show Steps p.tables e below (T151.setTop (mkF m 317 #[.val (.int x0), .val (.int x1), .val (.int x2), .val (.int x3), .val (.int x4), .val (.int v1), .val (.int v2), .val (.int v3), .val (.int v4), .val (.int v6), .val (.ref b9), .val (.int v36), .val (.int r47), .val (.int v59), .val (.int v63), .val (.int v71), .val (.int v73), .val (.int v144)] [])) _
          refine XS.iconst X151.here hx rfl (hb hby at_317) ?_
          show Steps p.tables e below (T151.setTop (mkF m 318 #[.val (.int x0), .val (.int x1), .val (.int x2), .val (.int x3), .val (.int x4), .val (.int v1), .val (.int v2), .val (.int v3), .val (.int v4), .val (.int v6), .val (.ref b9), .val (.int v36), .val (.int r47), .val (.int v59), .val (.int v63), .val (.int v71), .val (.int v73), .val (.int v144)] [(.int (1 : Int32))])) _
          refine XS.goto X151.here hx rfl (pc0 := 318) (pc' := 322) rfl (hb hby at_318) (by decide) (by decide) ?_
          show Steps p.tables e below (T151.setTop (mkF m 322 #[.val (.int x0), .val (.int x1), .val (.int x2), .val (.int x3), .val (.int x4), .val (.int v1), .val (.int v2), .val (.int v3), .val (.int v4), .val (.int v6), .val (.ref b9), .val (.int v36), .val (.int r47), .val (.int v59), .val (.int v63), .val (.int v71), .val (.int v73), .val (.int v144)] [(.int (1 : Int32))])) _
          rw [show v155 = (1 : Int32) from by rw [hv155, if_pos hc154]] at k
          exact k
        · skip
          refine XS.icmpYes X151.here hx rfl (pc0 := 314) (pc' := 321) rfl (hb hby at_314) rfl (feq hc154).2 (by decide) (by decide) ?_
          show Steps p.tables e below (T151.setTop (mkF m 321 #[.val (.int x0), .val (.int x1), .val (.int x2), .val (.int x3), .val (.int x4), .val (.int v1), .val (.int v2), .val (.int v3), .val (.int v4), .val (.int v6), .val (.ref b9), .val (.int v36), .val (.int r47), .val (.int v59), .val (.int v63), .val (.int v71), .val (.int v73), .val (.int v144)] [])) _
          refine XS.iconst X151.here hx rfl (hb hby at_321) ?_
          show Steps p.tables e below (T151.setTop (mkF m 322 #[.val (.int x0), .val (.int x1), .val (.int x2), .val (.int x3), .val (.int x4), .val (.int v1), .val (.int v2), .val (.int v3), .val (.int v4), .val (.int v6), .val (.ref b9), .val (.int v36), .val (.int r47), .val (.int v59), .val (.int v63), .val (.int v71), .val (.int v73), .val (.int v144)] [(.int (0 : Int32))])) _
          rw [show v155 = (0 : Int32) from by rw [hv155, if_neg hc154]] at k
          exact k)
      rw [if_neg hc147] at hv158
      subst hv155
      subst P151
      subst hv158
      exact ⟨_, _, X151, N151, by rw [e151]; exact Zz47, e151, pre156⟩
  have pre160 : ∀ t, Steps p.tables e below (T157.setTop (mkF m 327 #[.val (.int x0), .val (.int x1), .val (.int x2), .val (.int x3), .val (.int x4), .val (.int v1), .val (.int v2), .val (.int v3), .val (.int v4), .val (.int v6), .val (.ref b9), .val (.int v36), .val (.int r47), .val (.int v59), .val (.int v63), .val (.int v71), .val (.int v73), .val (.int v158)] [(.int (2 : Int32)), (.int v71)])) t → Steps p.tables e below (s₁.setTop (entryFrame m #[(.int x0), (.int x1), (.int x2), (.int x3), (.int x4)] maxLocals)) t := fun t k => pre159 t (by
    show Steps p.tables e below (T157.setTop (mkF m 322 #[.val (.int x0), .val (.int x1), .val (.int x2), .val (.int x3), .val (.int x4), .val (.int v1), .val (.int v2), .val (.int v3), .val (.int v4), .val (.int v6), .val (.ref b9), .val (.int v36), .val (.int r47), .val (.int v59), .val (.int v63), .val (.int v71), .val (.int v73), .val (.int v144)] [(.int v158)])) _
    refine XS.istore X157.here hx rfl (hb hby at_322) rfl (l' := #[.val (.int x0), .val (.int x1), .val (.int x2), .val (.int x3), .val (.int x4), .val (.int v1), .val (.int v2), .val (.int v3), .val (.int v4), .val (.int v6), .val (.ref b9), .val (.int v36), .val (.int r47), .val (.int v59), .val (.int v63), .val (.int v71), .val (.int v73), .val (.int v158)]) rfl ?_
    show Steps p.tables e below (T157.setTop (mkF m 324 #[.val (.int x0), .val (.int x1), .val (.int x2), .val (.int x3), .val (.int x4), .val (.int v1), .val (.int v2), .val (.int v3), .val (.int v4), .val (.int v6), .val (.ref b9), .val (.int v36), .val (.int r47), .val (.int v59), .val (.int v63), .val (.int v71), .val (.int v73), .val (.int v158)] [])) _
    refine XS.iload X157.here hx rfl (hb hby at_324) rfl ?_
    show Steps p.tables e below (T157.setTop (mkF m 326 #[.val (.int x0), .val (.int x1), .val (.int x2), .val (.int x3), .val (.int x4), .val (.int v1), .val (.int v2), .val (.int v3), .val (.int v4), .val (.int v6), .val (.ref b9), .val (.int v36), .val (.int r47), .val (.int v59), .val (.int v63), .val (.int v71), .val (.int v73), .val (.int v158)] [(.int v71)])) _
    refine XS.iconst X157.here hx rfl (hb hby at_326) ?_
    show Steps p.tables e below (T157.setTop (mkF m 327 #[.val (.int x0), .val (.int x1), .val (.int x2), .val (.int x3), .val (.int x4), .val (.int v1), .val (.int v2), .val (.int v3), .val (.int v4), .val (.int v6), .val (.ref b9), .val (.int v36), .val (.int r47), .val (.int v59), .val (.int v63), .val (.int v71), .val (.int v73), .val (.int v158)] [(.int (2 : Int32)), (.int v71)])) _
    exact k)
  obtain ⟨v179, hv179⟩ : ∃ z : Int32, z = (if v71 = (2 : Int32) then (if v158 = (0 : Int32) then (0 : Int32) else (if F8 (1 : Int32) (if (own_el3 v3 v38 v39 v40) = (-1 : Int32) then (if v37 = (0 : Int32) then v3 else v41) else v41) (if (own_el3 v3 v38 v39 v40) = (-1 : Int32) then (if v37 = (1 : Int32) then v3 else v42) else v42) (if (own_el3 v3 v38 v39 v40) = (-1 : Int32) then (if v37 = (2 : Int32) then v3 else v43) else v43) = v3 then (1 : Int32) else (0 : Int32))) else v158) := ⟨_, rfl⟩
  obtain ⟨T178, L178, X178, N178, Zz178, eh178, pre180⟩ : ∃ (T178 : State) (L178 : List Loc), Stand p l e room_1 s m #[(.int x0), (.int x1), (.int x2), (.int x3), (.int x4)] below meth c T178 L178 3 9 ∧ Fr n0 L178 ∧ n0 ≤ T178.heap.size ∧ (T178.heap = T47.heap) ∧ ∀ t, Steps p.tables e below (T178.setTop (mkF m 353 #[.val (.int x0), .val (.int x1), .val (.int x2), .val (.int x3), .val (.int x4), .val (.int v1), .val (.int v2), .val (.int v3), .val (.int v4), .val (.int v6), .val (.ref b9), .val (.int v36), .val (.int r47), .val (.int v59), .val (.int v63), .val (.int v71), .val (.int v73), .val (.int v179)] [])) t → Steps p.tables e below (s₁.setTop (entryFrame m #[(.int x0), (.int x1), (.int x2), (.int x3), (.int x4)] maxLocals)) t := by
    by_cases hc161 : v71 = (2 : Int32)
    · skip
      have pre162 : ∀ t, Steps p.tables e below (T157.setTop (mkF m 332 #[.val (.int x0), .val (.int x1), .val (.int x2), .val (.int x3), .val (.int x4), .val (.int v1), .val (.int v2), .val (.int v3), .val (.int v4), .val (.int v6), .val (.ref b9), .val (.int v36), .val (.int r47), .val (.int v59), .val (.int v63), .val (.int v71), .val (.int v73), .val (.int v158)] [(.int v158)])) t → Steps p.tables e below (s₁.setTop (entryFrame m #[(.int x0), (.int x1), (.int x2), (.int x3), (.int x4)] maxLocals)) t := fun t k => pre160 t (by
        show Steps p.tables e below (T157.setTop (mkF m 327 #[.val (.int x0), .val (.int x1), .val (.int x2), .val (.int x3), .val (.int x4), .val (.int v1), .val (.int v2), .val (.int v3), .val (.int v4), .val (.int v6), .val (.ref b9), .val (.int v36), .val (.int r47), .val (.int v59), .val (.int v63), .val (.int v71), .val (.int v73), .val (.int v158)] [(.int (2 : Int32)), (.int v71)])) _
        refine XS.icmpNo X157.here hx rfl (hb hby at_327) rfl (teq hc161).2 ?_
        show Steps p.tables e below (T157.setTop (mkF m 330 #[.val (.int x0), .val (.int x1), .val (.int x2), .val (.int x3), .val (.int x4), .val (.int v1), .val (.int v2), .val (.int v3), .val (.int v4), .val (.int v6), .val (.ref b9), .val (.int v36), .val (.int r47), .val (.int v59), .val (.int v63), .val (.int v71), .val (.int v73), .val (.int v158)] [])) _
        refine XS.iload X157.here hx rfl (hb hby at_330) rfl ?_
        show Steps p.tables e below (T157.setTop (mkF m 332 #[.val (.int x0), .val (.int x1), .val (.int x2), .val (.int x3), .val (.int x4), .val (.int v1), .val (.int v2), .val (.int v3), .val (.int v4), .val (.int v6), .val (.ref b9), .val (.int v36), .val (.int r47), .val (.int v59), .val (.int v63), .val (.int v71), .val (.int v73), .val (.int v158)] [(.int v158)])) _
        exact k)
      obtain ⟨v174, hv174⟩ : ∃ z : Int32, z = (if v158 = (0 : Int32) then (0 : Int32) else (if F8 (1 : Int32) (if (own_el3 v3 v38 v39 v40) = (-1 : Int32) then (if v37 = (0 : Int32) then v3 else v41) else v41) (if (own_el3 v3 v38 v39 v40) = (-1 : Int32) then (if v37 = (1 : Int32) then v3 else v42) else v42) (if (own_el3 v3 v38 v39 v40) = (-1 : Int32) then (if v37 = (2 : Int32) then v3 else v43) else v43) = v3 then (1 : Int32) else (0 : Int32))) := ⟨_, rfl⟩
      obtain ⟨T173, L173, X173, N173, Zz173, eh173, pre175⟩ : ∃ (T173 : State) (L173 : List Loc), Stand p l e room_1 s m #[(.int x0), (.int x1), (.int x2), (.int x3), (.int x4)] below meth c T173 L173 3 9 ∧ Fr n0 L173 ∧ n0 ≤ T173.heap.size ∧ (T173.heap = T47.heap) ∧ ∀ t, Steps p.tables e below (T173.setTop (mkF m 351 #[.val (.int x0), .val (.int x1), .val (.int x2), .val (.int x3), .val (.int x4), .val (.int v1), .val (.int v2), .val (.int v3), .val (.int v4), .val (.int v6), .val (.ref b9), .val (.int v36), .val (.int r47), .val (.int v59), .val (.int v63), .val (.int v71), .val (.int v73), .val (.int v158)] [(.int v174)])) t → Steps p.tables e below (s₁.setTop (entryFrame m #[(.int x0), (.int x1), (.int x2), (.int x3), (.int x4)] maxLocals)) t := by
        by_cases hc163 : v158 = (0 : Int32)
        · skip
          have pre164 : ∀ t, Steps p.tables e below (T157.setTop (mkF m 351 #[.val (.int x0), .val (.int x1), .val (.int x2), .val (.int x3), .val (.int x4), .val (.int v1), .val (.int v2), .val (.int v3), .val (.int v4), .val (.int v6), .val (.ref b9), .val (.int v36), .val (.int r47), .val (.int v59), .val (.int v63), .val (.int v71), .val (.int v73), .val (.int v158)] [(.int (0 : Int32))])) t → Steps p.tables e below (s₁.setTop (entryFrame m #[(.int x0), (.int x1), (.int x2), (.int x3), (.int x4)] maxLocals)) t := fun t k => pre162 t (by
            show Steps p.tables e below (T157.setTop (mkF m 332 #[.val (.int x0), .val (.int x1), .val (.int x2), .val (.int x3), .val (.int x4), .val (.int v1), .val (.int v2), .val (.int v3), .val (.int v4), .val (.int v6), .val (.ref b9), .val (.int v36), .val (.int r47), .val (.int v59), .val (.int v63), .val (.int v71), .val (.int v73), .val (.int v158)] [(.int v158)])) _
            refine XS.ifYes X157.here hx rfl (pc0 := 332) (pc' := 350) rfl (hb hby at_332) rfl ((if0 _ _).trans (teq hc163).1) (by decide) (by decide) ?_
            show Steps p.tables e below (T157.setTop (mkF m 350 #[.val (.int x0), .val (.int x1), .val (.int x2), .val (.int x3), .val (.int x4), .val (.int v1), .val (.int v2), .val (.int v3), .val (.int v4), .val (.int v6), .val (.ref b9), .val (.int v36), .val (.int r47), .val (.int v59), .val (.int v63), .val (.int v71), .val (.int v73), .val (.int v158)] [])) _
            refine XS.iconst X157.here hx rfl (hb hby at_350) ?_
            show Steps p.tables e below (T157.setTop (mkF m 351 #[.val (.int x0), .val (.int x1), .val (.int x2), .val (.int x3), .val (.int x4), .val (.int v1), .val (.int v2), .val (.int v3), .val (.int v4), .val (.int v6), .val (.ref b9), .val (.int v36), .val (.int r47), .val (.int v59), .val (.int v63), .val (.int v71), .val (.int v73), .val (.int v158)] [(.int (0 : Int32))])) _
            exact k)
          rw [if_pos hc163] at hv174
          subst hv174
          exact ⟨_, _, X157, N157, by rw [eh157]; exact Zz47, eh157, pre164⟩
        · skip
          have pre165 : ∀ t, Steps p.tables e below (T157.setTop (mkF m 338 #[.val (.int x0), .val (.int x1), .val (.int x2), .val (.int x3), .val (.int x4), .val (.int v1), .val (.int v2), .val (.int v3), .val (.int v4), .val (.int v6), .val (.ref b9), .val (.int v36), .val (.int r47), .val (.int v59), .val (.int v63), .val (.int v71), .val (.int v73), .val (.int v158)] [(.int (1 : Int32)), (.ref b9)])) t → Steps p.tables e below (s₁.setTop (entryFrame m #[(.int x0), (.int x1), (.int x2), (.int x3), (.int x4)] maxLocals)) t := fun t k => pre162 t (by
            show Steps p.tables e below (T157.setTop (mkF m 332 #[.val (.int x0), .val (.int x1), .val (.int x2), .val (.int x3), .val (.int x4), .val (.int v1), .val (.int v2), .val (.int v3), .val (.int v4), .val (.int v6), .val (.ref b9), .val (.int v36), .val (.int r47), .val (.int v59), .val (.int v63), .val (.int v71), .val (.int v73), .val (.int v158)] [(.int v158)])) _
            refine XS.ifNo X157.here hx rfl (hb hby at_332) rfl ((if0 _ _).trans (feq hc163).1) ?_
            show Steps p.tables e below (T157.setTop (mkF m 335 #[.val (.int x0), .val (.int x1), .val (.int x2), .val (.int x3), .val (.int x4), .val (.int v1), .val (.int v2), .val (.int v3), .val (.int v4), .val (.int v6), .val (.ref b9), .val (.int v36), .val (.int r47), .val (.int v59), .val (.int v63), .val (.int v71), .val (.int v73), .val (.int v158)] [])) _
            refine XS.aload X157.here hx rfl (hb hby at_335) rfl rfl ?_
            show Steps p.tables e below (T157.setTop (mkF m 337 #[.val (.int x0), .val (.int x1), .val (.int x2), .val (.int x3), .val (.int x4), .val (.int v1), .val (.int v2), .val (.int v3), .val (.int v4), .val (.int v6), .val (.ref b9), .val (.int v36), .val (.int r47), .val (.int v59), .val (.int v63), .val (.int v71), .val (.int v73), .val (.int v158)] [(.ref b9)])) _
            refine XS.iconst X157.here hx rfl (hb hby at_337) ?_
            show Steps p.tables e below (T157.setTop (mkF m 338 #[.val (.int x0), .val (.int x1), .val (.int x2), .val (.int x3), .val (.int x4), .val (.int v1), .val (.int v2), .val (.int v3), .val (.int v4), .val (.int v6), .val (.ref b9), .val (.int v36), .val (.int r47), .val (.int v59), .val (.int v63), .val (.int v71), .val (.int v73), .val (.int v158)] [(.int (1 : Int32)), (.ref b9)])) _
            exact k)
          obtain ⟨cq167, kq167, q167a, q167b, q167c⟩ := isOf hZ eh157 o47_0
          obtain ⟨_, _, ⟨T167, L167, k167, n167⟩, -, X167, ⟨Lc167, hQ167, l167, y167, z167⟩, st167⟩ := X157.virtualBack hx (y := (⟨"com/example/clocks_to_automata/clockstoautomata/semantics/Assignment", "trailClock", "(I)I"⟩ : MethodName)) (z := (⟨"com/example/clocks_to_automata/clockstoautomata/semantics/Assignment", "trailClock", "(I)I"⟩ : MethodName)) hown (mvT hZ (hw _ (List.mem_of_getElem? (i := 40) rfl))) (mvT hZ (hw _ (List.mem_of_getElem? (i := 41) rfl))) (notFace_of_selects (args := #[]) (mvT hZ (hw _ (List.mem_of_getElem? (i := 43) rfl)))) (mvT hZ (hw _ (List.mem_of_getElem? (i := 43) rfl))) (mvT hZ (hw _ (List.mem_of_getElem? (i := 42) rfl))) (by decide) (backOf (W := 0) (rm8 l Z a0 hw [] b9 (1 : Int32) bt_13 kt_13 (if (own_el3 v3 v38 v39 v40) = (-1 : Int32) then (if v37 = (0 : Int32) then v3 else v41) else v41) (if (own_el3 v3 v38 v39 v40) = (-1 : Int32) then (if v37 = (1 : Int32) then v3 else v42) else v42) (if (own_el3 v3 v38 v39 v40) = (-1 : Int32) then (if v37 = (2 : Int32) then v3 else v43) else v43) T47.heap n0 Zz47 o47_2 o47_5 (own_need0_168_0 x0 x1 x2 x3 x4 v1 v2 v3 v4 v6 v36 v37 v38 v39 v40 v41 v42 v43 r47 v59 v63 v66 v69 v71 v73 v77 v95 v113 v131 v144 v158 hv1 hv2 hv3 hv4 hv6 hv36 hv37 hv38 hv39 hv40 hv41 hv42 hv43 P47 hv59 hv63 hv66 hv69 hv71 hv73 hv77 hv95 hv113 hv131 hv144 hv158 hc161 hc163)) hZ (hw _ (List.mem_of_getElem? (i := 44) rfl)) (hw _ (List.mem_of_getElem? (i := 3) rfl)) (by decide) (by decide)) q167a q167c (g := (mkF m 338 #[.val (.int x0), .val (.int x1), .val (.int x2), .val (.int x3), .val (.int x4), .val (.int v1), .val (.int v2), .val (.int v3), .val (.int v4), .val (.int v6), .val (.ref b9), .val (.int v36), .val (.int r47), .val (.int v59), .val (.int v63), .val (.int v71), .val (.int v73), .val (.int v158)] [(.int (1 : Int32)), (.ref b9)])) rfl (by rw [hml]; rfl) (Steps.refl _) (argsL := [(.int (1 : Int32))]) (rest := []) (lenOf pd_3 rfl) rfl (by show 2 * 0 + _ ≤ _; exact Nat.le_of_eq rfl) (hb hby at_338) (fun _ _ => ⟨rfl, eh157, (by decide : 3 + 0 ≤ _), (by decide : 9 + 0 ≤ _)⟩)
          dsimp only [Pt.U, Pt.locs, Pt.cells, Pt.slots] at X167 l167 y167 z167 st167 hQ167
          subst l167 y167 z167
          obtain ⟨r167, rfl, N167q, e167, P167⟩ := hQ167
          have N167 := Fr.app N157 N167q
          have pre169 : ∀ t, Steps p.tables e below (T167.setTop (mkF m 341 #[.val (.int x0), .val (.int x1), .val (.int x2), .val (.int x3), .val (.int x4), .val (.int v1), .val (.int v2), .val (.int v3), .val (.int v4), .val (.int v6), .val (.ref b9), .val (.int v36), .val (.int r47), .val (.int v59), .val (.int v63), .val (.int v71), .val (.int v73), .val (.int v158)] [(.int r167)])) t → Steps p.tables e below (s₁.setTop (entryFrame m #[(.int x0), (.int x1), (.int x2), (.int x3), (.int x4)] maxLocals)) t := fun t k => pre165 t (st167.trans k)
          obtain ⟨v171, hv171⟩ : ∃ z : Int32, z = (if r167 = v3 then (1 : Int32) else (0 : Int32)) := ⟨_, rfl⟩
          have pre172 : ∀ t, Steps p.tables e below (T167.setTop (mkF m 351 #[.val (.int x0), .val (.int x1), .val (.int x2), .val (.int x3), .val (.int x4), .val (.int v1), .val (.int v2), .val (.int v3), .val (.int v4), .val (.int v6), .val (.ref b9), .val (.int v36), .val (.int r47), .val (.int v59), .val (.int v63), .val (.int v71), .val (.int v73), .val (.int v158)] [(.int v171)])) t → Steps p.tables e below (s₁.setTop (entryFrame m #[(.int x0), (.int x1), (.int x2), (.int x3), (.int x4)] maxLocals)) t := fun t k => pre169 t (by
            show Steps p.tables e below (T167.setTop (mkF m 341 #[.val (.int x0), .val (.int x1), .val (.int x2), .val (.int x3), .val (.int x4), .val (.int v1), .val (.int v2), .val (.int v3), .val (.int v4), .val (.int v6), .val (.ref b9), .val (.int v36), .val (.int r47), .val (.int v59), .val (.int v63), .val (.int v71), .val (.int v73), .val (.int v158)] [(.int r167)])) _
            refine XS.iload X167.here hx rfl (hb hby at_341) rfl ?_
            show Steps p.tables e below (T167.setTop (mkF m 343 #[.val (.int x0), .val (.int x1), .val (.int x2), .val (.int x3), .val (.int x4), .val (.int v1), .val (.int v2), .val (.int v3), .val (.int v4), .val (.int v6), .val (.ref b9), .val (.int v36), .val (.int r47), .val (.int v59), .val (.int v63), .val (.int v71), .val (.int v73), .val (.int v158)] [(.int v3), (.int r167)])) _
            by_cases hc170 : r167 = v3
            · skip
              refine XS.icmpNo X167.here hx rfl (hb hby at_343) rfl (teq hc170).2 ?_
              show Steps p.tables e below (T167.setTop (mkF m 346 #[.val (.int x0), .val (.int x1), .val (.int x2), .val (.int x3), .val (.int x4), .val (.int v1), .val (.int v2), .val (.int v3), .val (.int v4), .val (.int v6), .val (.ref b9), .val (.int v36), .val (.int r47), .val (.int v59), .val (.int v63), .val (.int v71), .val (.int v73), .val (.int v158)] [])) _
              refine XS.iconst X167.here hx rfl (hb hby at_346) ?_
              show Steps p.tables e below (T167.setTop (mkF m 347 #[.val (.int x0), .val (.int x1), .val (.int x2), .val (.int x3), .val (.int x4), .val (.int v1), .val (.int v2), .val (.int v3), .val (.int v4), .val (.int v6), .val (.ref b9), .val (.int v36), .val (.int r47), .val (.int v59), .val (.int v63), .val (.int v71), .val (.int v73), .val (.int v158)] [(.int (1 : Int32))])) _
              refine XS.goto X167.here hx rfl (pc0 := 347) (pc' := 351) rfl (hb hby at_347) (by decide) (by decide) ?_
              show Steps p.tables e below (T167.setTop (mkF m 351 #[.val (.int x0), .val (.int x1), .val (.int x2), .val (.int x3), .val (.int x4), .val (.int v1), .val (.int v2), .val (.int v3), .val (.int v4), .val (.int v6), .val (.ref b9), .val (.int v36), .val (.int r47), .val (.int v59), .val (.int v63), .val (.int v71), .val (.int v73), .val (.int v158)] [(.int (1 : Int32))])) _
              rw [show v171 = (1 : Int32) from by rw [hv171, if_pos hc170]] at k
              exact k
            · skip
              refine XS.icmpYes X167.here hx rfl (pc0 := 343) (pc' := 350) rfl (hb hby at_343) rfl (feq hc170).2 (by decide) (by decide) ?_
              show Steps p.tables e below (T167.setTop (mkF m 350 #[.val (.int x0), .val (.int x1), .val (.int x2), .val (.int x3), .val (.int x4), .val (.int v1), .val (.int v2), .val (.int v3), .val (.int v4), .val (.int v6), .val (.ref b9), .val (.int v36), .val (.int r47), .val (.int v59), .val (.int v63), .val (.int v71), .val (.int v73), .val (.int v158)] [])) _
              refine XS.iconst X167.here hx rfl (hb hby at_350) ?_
              show Steps p.tables e below (T167.setTop (mkF m 351 #[.val (.int x0), .val (.int x1), .val (.int x2), .val (.int x3), .val (.int x4), .val (.int v1), .val (.int v2), .val (.int v3), .val (.int v4), .val (.int v6), .val (.ref b9), .val (.int v36), .val (.int r47), .val (.int v59), .val (.int v63), .val (.int v71), .val (.int v73), .val (.int v158)] [(.int (0 : Int32))])) _
              rw [show v171 = (0 : Int32) from by rw [hv171, if_neg hc170]] at k
              exact k)
          rw [if_neg hc163] at hv174
          subst hv171
          subst P167
          subst hv174
          exact ⟨_, _, X167, N167, by rw [e167]; exact Zz47, e167, pre172⟩
      have pre176 : ∀ t, Steps p.tables e below (T173.setTop (mkF m 353 #[.val (.int x0), .val (.int x1), .val (.int x2), .val (.int x3), .val (.int x4), .val (.int v1), .val (.int v2), .val (.int v3), .val (.int v4), .val (.int v6), .val (.ref b9), .val (.int v36), .val (.int r47), .val (.int v59), .val (.int v63), .val (.int v71), .val (.int v73), .val (.int v174)] [])) t → Steps p.tables e below (s₁.setTop (entryFrame m #[(.int x0), (.int x1), (.int x2), (.int x3), (.int x4)] maxLocals)) t := fun t k => pre175 t (by
        show Steps p.tables e below (T173.setTop (mkF m 351 #[.val (.int x0), .val (.int x1), .val (.int x2), .val (.int x3), .val (.int x4), .val (.int v1), .val (.int v2), .val (.int v3), .val (.int v4), .val (.int v6), .val (.ref b9), .val (.int v36), .val (.int r47), .val (.int v59), .val (.int v63), .val (.int v71), .val (.int v73), .val (.int v158)] [(.int v174)])) _
        refine XS.istore X173.here hx rfl (hb hby at_351) rfl (l' := #[.val (.int x0), .val (.int x1), .val (.int x2), .val (.int x3), .val (.int x4), .val (.int v1), .val (.int v2), .val (.int v3), .val (.int v4), .val (.int v6), .val (.ref b9), .val (.int v36), .val (.int r47), .val (.int v59), .val (.int v63), .val (.int v71), .val (.int v73), .val (.int v174)]) rfl ?_
        show Steps p.tables e below (T173.setTop (mkF m 353 #[.val (.int x0), .val (.int x1), .val (.int x2), .val (.int x3), .val (.int x4), .val (.int v1), .val (.int v2), .val (.int v3), .val (.int v4), .val (.int v6), .val (.ref b9), .val (.int v36), .val (.int r47), .val (.int v59), .val (.int v63), .val (.int v71), .val (.int v73), .val (.int v174)] [])) _
        exact k)
      rw [if_pos hc161] at hv179
      subst hv174
      subst hv179
      exact ⟨_, _, X173, N173, by rw [eh173]; exact Zz47, eh173, pre176⟩
    · skip
      have pre177 : ∀ t, Steps p.tables e below (T157.setTop (mkF m 353 #[.val (.int x0), .val (.int x1), .val (.int x2), .val (.int x3), .val (.int x4), .val (.int v1), .val (.int v2), .val (.int v3), .val (.int v4), .val (.int v6), .val (.ref b9), .val (.int v36), .val (.int r47), .val (.int v59), .val (.int v63), .val (.int v71), .val (.int v73), .val (.int v158)] [])) t → Steps p.tables e below (s₁.setTop (entryFrame m #[(.int x0), (.int x1), (.int x2), (.int x3), (.int x4)] maxLocals)) t := fun t k => pre160 t (by
        show Steps p.tables e below (T157.setTop (mkF m 327 #[.val (.int x0), .val (.int x1), .val (.int x2), .val (.int x3), .val (.int x4), .val (.int v1), .val (.int v2), .val (.int v3), .val (.int v4), .val (.int v6), .val (.ref b9), .val (.int v36), .val (.int r47), .val (.int v59), .val (.int v63), .val (.int v71), .val (.int v73), .val (.int v158)] [(.int (2 : Int32)), (.int v71)])) _
        refine XS.icmpYes X157.here hx rfl (pc0 := 327) (pc' := 353) rfl (hb hby at_327) rfl (feq hc161).2 (by decide) (by decide) ?_
        show Steps p.tables e below (T157.setTop (mkF m 353 #[.val (.int x0), .val (.int x1), .val (.int x2), .val (.int x3), .val (.int x4), .val (.int v1), .val (.int v2), .val (.int v3), .val (.int v4), .val (.int v6), .val (.ref b9), .val (.int v36), .val (.int r47), .val (.int v59), .val (.int v63), .val (.int v71), .val (.int v73), .val (.int v158)] [])) _
        exact k)
      rw [if_neg hc161] at hv179
      subst hv179
      exact ⟨_, _, X157, N157, by rw [eh157]; exact Zz47, eh157, pre177⟩
  have pre181 : ∀ t, Steps p.tables e below (T178.setTop (mkF m 355 #[.val (.int x0), .val (.int x1), .val (.int x2), .val (.int x3), .val (.int x4), .val (.int v1), .val (.int v2), .val (.int v3), .val (.int v4), .val (.int v6), .val (.ref b9), .val (.int v36), .val (.int r47), .val (.int v59), .val (.int v63), .val (.int v71), .val (.int v73), .val (.int v179)] [(.int v179)])) t → Steps p.tables e below (s₁.setTop (entryFrame m #[(.int x0), (.int x1), (.int x2), (.int x3), (.int x4)] maxLocals)) t := fun t k => pre180 t (by
    show Steps p.tables e below (T178.setTop (mkF m 353 #[.val (.int x0), .val (.int x1), .val (.int x2), .val (.int x3), .val (.int x4), .val (.int v1), .val (.int v2), .val (.int v3), .val (.int v4), .val (.int v6), .val (.ref b9), .val (.int v36), .val (.int r47), .val (.int v59), .val (.int v63), .val (.int v71), .val (.int v73), .val (.int v179)] [])) _
    refine XS.iload X178.here hx rfl (hb hby at_353) rfl ?_
    show Steps p.tables e below (T178.setTop (mkF m 355 #[.val (.int x0), .val (.int x1), .val (.int x2), .val (.int x3), .val (.int x4), .val (.int v1), .val (.int v2), .val (.int v3), .val (.int v4), .val (.int v6), .val (.ref b9), .val (.int v36), .val (.int r47), .val (.int v59), .val (.int v63), .val (.int v71), .val (.int v73), .val (.int v179)] [(.int v179)])) _
    exact k)
  obtain rfl : v179 = (1 : Int32) := by exact own_fin x0 x1 x2 x3 x4 v1 v2 v3 v4 v6 v36 v37 v38 v39 v40 v41 v42 v43 r47 v59 v63 v66 v69 v71 v73 v77 v95 v113 v131 v144 v158 v179 hv1 hv2 hv3 hv4 hv6 hv36 hv37 hv38 hv39 hv40 hv41 hv42 hv43 P47 hv59 hv63 hv66 hv69 hv71 hv73 hv77 hv95 hv113 hv131 hv144 hv158 hv179
  obtain ⟨fs, hr, hrun, hended, hW, hsame⟩ := X178.leave (v := some (.int (1 : Int32))) (fun h => by rw [Bd.returns] at h; cases h)
  refine ⟨_, _, pre181 _ ?_, hrun, hended, _, _, rfl, ?_, ⟨_, rfl⟩, hW, hsame.mono (by decide) (by decide)⟩
  · show Steps p.tables e below (T178.setTop (mkF m 355 #[.val (.int x0), .val (.int x1), .val (.int x2), .val (.int x3), .val (.int x4), .val (.int v1), .val (.int v2), .val (.int v3), .val (.int v4), .val (.int v6), .val (.ref b9), .val (.int v36), .val (.int r47), .val (.int v59), .val (.int v63), .val (.int v71), .val (.int v73), .val (.int (1 : Int32))] [(.int (1 : Int32))])) _
    exact retN X178 hx (t := .boolean) Bd.returns (by simp) (hb hby at_355) hr
  · show Q0 Z x0 x1 x2 x3 x4 h0 n0 _ T178.heap _
    rw [eh178]
    exact ⟨rfl, N178⟩
set_option maxRecDepth 65536 in
set_option maxHeartbeats 40000000 in
theorem comes_1 {Post : Tables → Env → Array Value → State → Outcome → State → Prop} (hpost : ∀ tb e args s v u, (limb_1_1.after args s (.returned v) u = true ∧ limb_1_2.after args s (.returned v) u = true ∧ True) → FrameEnd s (.returned v) u (Jvm.fieldLocs frame_1_writes args s ++ Jvm.arrayLocs frame_1_arrays args s ++ Jvm.staticLocs frame_1_statics s) 16 128 → Post tb e args s (.returned v) u) :
    ArmFor flags0 classFile x code maxLocals ret World_1 tables_1 room_1 Calls_1 rest_1 Pre_1 Post := by
  intro l hfl _ _ p e ha hc hk s m args below hf hA hF happ hP
  obtain ⟨hcalls, hrest, hpre⟩ := hP
  obtain ⟨-, -, -, hnamed, -, -, -, hat⟩ := (Spec.applies_iff hf).mp happ
  obtain ⟨hg, hn⟩ := and_e (Cond.before_iff.mp (show (Jvm.Cond.and given_1 narrow_1).before args s = true from hpre))
  obtain ⟨hcount, hg0⟩ := and_e hg
  obtain ⟨ha0, hg1⟩ := and_e hg0
  obtain ⟨ha1, hg2⟩ := and_e hg1
  obtain ⟨ha2, hg3⟩ := and_e hg2
  obtain ⟨ha3, hg4⟩ := and_e hg3
  have ha4 := hg4
  obtain ⟨w0, w1, w2, w3, w4, rfl⟩ : ∃ w0 w1 w2 w3 w4 : Value, args = #[w0, w1, w2, w3, w4] := by
    have hs : args.size = 5 := by simpa [Cond.value, given_1] using hcount
    obtain ⟨L⟩ := args
    match L, hs with
    | [w0, w1, w2, w3, w4], _ => exact ⟨w0, w1, w2, w3, w4, rfl⟩
  have hw := fun d (hd : d ∈ tables_1) => atoms_spec (ws := Jvm.Cond.code x code maxLocals ret :: tables_1) hat d (List.mem_cons_of_mem _ hd)
  obtain ⟨i0, ei0⟩ := is_v ha0
  obtain rfl : w0 = (.int i0) := Option.some.inj ei0
  obtain ⟨i1, ei1⟩ := is_v ha1
  obtain rfl : w1 = (.int i1) := Option.some.inj ei1
  obtain ⟨i2, ei2⟩ := is_v ha2
  obtain rfl : w2 = (.int i2) := Option.some.inj ei2
  obtain ⟨i3, ei3⟩ := is_v ha3
  obtain rfl : w3 = (.int i3) := Option.some.inj ei3
  obtain ⟨i4, ei4⟩ := is_v ha4
  obtain rfl : w4 = (.int i4) := Option.some.inj ei4
  obtain ⟨n, o, h1, h2, h3, _, L, rfl, ⟨rfl, N⟩, hq⟩ := rm0 l s _ hw tables_1 i0 i1 i2 i3 i4  s.heap s.heap.size (Nat.le_refl _) p e ha hc hk s m _ below hf ((Spec.applies_iff_loose hf).mp happ).1 ⟨rfl, State.Warmed39.refl s, rfl⟩ trivial
  refine ⟨n, _, h1, h2, h3, hpost _ _ _ _ _ _ ⟨Cond.after_iff.mpr rfl, Cond.after_iff.mpr (eq_i res_at (Term.int_eval (1)) rfl), trivial⟩ ⟨hq.1, hq.2.1, (hq.2.2.sift fun y hy => Or.inr (N y hy)).mono (by decide) (by decide)⟩⟩
theorem main_1_1 : Claimed_1_1 := comes_1 fun _ _ _ _ _ _ h hF => ⟨h.1, hF⟩
theorem main_1_2 : Claimed_1_2 := comes_1 fun _ _ _ _ _ _ h hF => ⟨h.2.1, hF⟩
end Jvm.Pilot.@@N@@
namespace Jvm.Pilot.@@N@@
open Jvm Jvm.ClassFile Sem Op Lib Jvm.Free Jvm.Stand Jvm.Pilot.@@N@@.Jvm.D
/-! MADE BY PROGRAM (witnessworld.py) out of the Statement's table words and the real class files: 10 classes; the members and pool entries that the words name. The judged class is class 1, her method 2. -/
namespace start1
open Jvm.ClassFile
def u (s : String) : CpInfo := .utf8 (stringToUtf16 s)
/-- a pool by its gaps: so many unusable entries, then the entry; so many at the end -/
def gap : Nat → List CpInfo → List CpInfo
  | 0, r => r
  | n + 1, r => .unusable :: gap n r
def poolList (es : List (Nat × CpInfo)) (last : Nat) : List CpInfo := es.foldr (fun e r => gap e.1 (e.2 :: r)) (gap last [])
def pool (es : List (Nat × CpInfo)) (last : Nat) : Array CpInfo := ⟨poolList es last⟩
def fileOf (pool : Array CpInfo) (this : Nat) (attrs : Array Attribute := #[]) (ms : Array MethodInfo := #[]) (fl : Nat := 33) (sup : Nat := 0) (ifs : Array Nat := #[]) (fds : Array FieldInfo := #[]) : ClassFile where
  minorVersion := 0
  majorVersion := 65
  constantPool := pool
  accessFlags := fl
  thisClass := this
  superClass := sup
  interfaces := ifs
  fields := fds
  methods := ms
  attributes := attrs
def plain (name : String) (sup : Option ClassId) : Class where
  name := name
  kind := .ordinary
  loader := none
  accessFlags := 33
  super := sup
  interfaces := #[]
  cf := none
  fields := #[]
  methods := #[]
  instanceTypes := #[]
  staticTypes := #[]
  resolved := #[]
  callSites := []
  init := .initialized
  statics := none
  mirror := none

def pool0 : Array CpInfo := pool [(5, u "<init>"), (0, u "()V"), (1, .class_ 10), (1, u "java/lang/Object")] 113

def k0c0 : Code := { maxStack := 0, maxLocals := 1, code := object_method_1_code, exceptionTable := #[], attributes := #[] }
def k0m0 : Method := { name := "<init>", desc := "()V", sig := { parameters := [], returnType := none }, accessFlags := 1, code := some k0c0 }
/-- java/lang/Object -/
def k0 : Class := { plain "java/lang/Object" none with
  accessFlags := 33
  interfaces := #[]
  cf := some (fileOf pool0 8 #[] #[{ accessFlags := 1, nameIndex := 5, descriptorIndex := 6, attributes := #[] }] 33 0 #[] #[])
  fields := #[]
  methods := #[k0m0]
  instanceTypes := #[]
  staticTypes := #[]
  resolved := Array.replicate 124 none
  statics := none }

def pool1 : Array CpInfo := pool [(2, .class_ 4), (1, u "java/lang/Object"), (0, u "<init>"), (0, u "()V"), (0, .class_ 8), (0, u "com/example/clocks_to_automata/clockstoautomata/semantics/Assignment"), (0, .integer 2147483647), (0, .methodref 7 11), (0, .nameAndType 5 12), (0, u "(I)V"), (0, .methodref 7 14), (0, .nameAndType 15 16), (0, u "force"), (0, u "(II)Z"), (0, .methodref 7 18), (0, .nameAndType 19 20), (0, u "value"), (0, u "(I)I"), (0, .methodref 22 23), (0, .class_ 24), (0, .nameAndType 25 26), (0, u "com/example/clocks_to_automata/clockstoautomata/semantics/AssignmentForcePinLaw"), (0, u "expectedValue"), (0, u "(IZIIII)I"), (0, .methodref 7 28), (0, .nameAndType 29 30), (0, u "trailSize"), (0, u "()I"), (0, .methodref 7 32), (0, .nameAndType 33 20), (0, u "trailClock"), (3, u "law"), (0, u "(IIIII)Z")] 2

def k1m0 : Method := { name := "<init>", desc := "()V", sig := { parameters := [], returnType := none }, accessFlags := 2, code := none }
def k1c1 : Code := { maxStack := 2, maxLocals := 7, code := method_2_code, exceptionTable := #[], attributes := #[] }
def k1m1 : Method := { name := "expectedValue", desc := "(IZIIII)I", sig := { parameters := [.int, .boolean, .int, .int, .int, .int], returnType := some .int }, accessFlags := 10, code := some k1c1 }
def k1c2 : Code := { maxStack := 7, maxLocals := 18, code := code, exceptionTable := #[], attributes := #[] }
def k1m2 : Method := { name := "law", desc := "(IIIII)Z", sig := { parameters := [.int, .int, .int, .int, .int], returnType := some .boolean }, accessFlags := 9, code := some k1c2 }
/-- com/example/clocks_to_automata/clockstoautomata/semantics/AssignmentForcePinLaw -/
def k1 : Class := { plain "com/example/clocks_to_automata/clockstoautomata/semantics/AssignmentForcePinLaw" (some 0) with
  accessFlags := 49
  interfaces := #[]
  cf := some (fileOf pool1 22 #[] #[{ accessFlags := 2, nameIndex := 5, descriptorIndex := 6, attributes := #[] }, { accessFlags := 10, nameIndex := 25, descriptorIndex := 26, attributes := #[] }, { accessFlags := 9, nameIndex := 37, descriptorIndex := 38, attributes := #[] }] 49 2 #[] #[])
  fields := #[]
  methods := #[k1m0, k1m1, k1m2]
  instanceTypes := #[]
  staticTypes := #[]
  resolved := Array.replicate 41 none
  statics := none }

def pool2 : Array CpInfo := pool [(1, .methodref 2 3), (0, .class_ 4), (0, .nameAndType 5 6), (0, u "java/lang/Object"), (0, u "<init>"), (0, u "()V"), (0, .fieldref 8 9), (0, .class_ 10), (0, .nameAndType 11 12), (0, u "com/example/clocks_to_automata/clockstoautomata/semantics/Assignment"), (0, u "values"), (0, u "[I"), (0, .methodref 14 15), (0, .class_ 16), (0, .nameAndType 17 18), (0, u "java/util/Arrays"), (0, u "fill"), (0, u "([II)V"), (0, .fieldref 8 20), (0, .nameAndType 21 12), (0, u "trail"), (0, .fieldref 8 23), (0, .nameAndType 24 25), (0, u "trailSize"), (0, u "I"), (8, u "force"), (0, u "(II)Z"), (25, u "()I"), (0, u "OPEN"), (2, u "ABSENT"), (1, u "PRESENT"), (1, u "(I)V"), (2, u "value"), (0, u "(I)I"), (0, u "trailClock")] 14

def k2c0 : Code := { maxStack := 2, maxLocals := 2, code := prog_62_method_1_code, exceptionTable := #[], attributes := #[] }
def k2m0 : Method := { name := "<init>", desc := "(I)V", sig := { parameters := [.int], returnType := none }, accessFlags := 0, code := some k2c0 }
def k2c1 : Code := { maxStack := 2, maxLocals := 2, code := prog_62_method_2_code, exceptionTable := #[], attributes := #[] }
def k2m1 : Method := { name := "value", desc := "(I)I", sig := { parameters := [.int], returnType := some .int }, accessFlags := 0, code := some k2c1 }
def k2c2 : Code := { maxStack := 1, maxLocals := 1, code := prog_62_method_3_code, exceptionTable := #[], attributes := #[] }
def k2m2 : Method := { name := "trailSize", desc := "()I", sig := { parameters := [], returnType := some .int }, accessFlags := 0, code := some k2c2 }
def k2c3 : Code := { maxStack := 2, maxLocals := 2, code := prog_62_method_4_code, exceptionTable := #[], attributes := #[] }
def k2m3 : Method := { name := "trailClock", desc := "(I)I", sig := { parameters := [.int], returnType := some .int }, accessFlags := 0, code := some k2c3 }
def k2c4 : Code := { maxStack := 5, maxLocals := 3, code := prog_62_method_7_code, exceptionTable := #[], attributes := #[] }
def k2m4 : Method := { name := "force", desc := "(II)Z", sig := { parameters := [.int, .int], returnType := some .boolean }, accessFlags := 0, code := some k2c4 }
/-- com/example/clocks_to_automata/clockstoautomata/semantics/Assignment -/
def k2 : Class := { plain "com/example/clocks_to_automata/clockstoautomata/semantics/Assignment" (some 0) with
  accessFlags := 48
  interfaces := #[]
  cf := some (fileOf pool2 8 #[] #[{ accessFlags := 0, nameIndex := 5, descriptorIndex := 69, attributes := #[] }, { accessFlags := 0, nameIndex := 72, descriptorIndex := 73, attributes := #[] }, { accessFlags := 0, nameIndex := 24, descriptorIndex := 61, attributes := #[] }, { accessFlags := 0, nameIndex := 74, descriptorIndex := 73, attributes := #[] }, { accessFlags := 0, nameIndex := 34, descriptorIndex := 35, attributes := #[] }] 48 2 #[] #[{ accessFlags := 24, nameIndex := 62, descriptorIndex := 25, attributes := #[] }, { accessFlags := 24, nameIndex := 65, descriptorIndex := 25, attributes := #[] }, { accessFlags := 24, nameIndex := 67, descriptorIndex := 25, attributes := #[] }, { accessFlags := 18, nameIndex := 11, descriptorIndex := 12, attributes := #[] }, { accessFlags := 18, nameIndex := 21, descriptorIndex := 12, attributes := #[] }, { accessFlags := 2, nameIndex := 24, descriptorIndex := 25, attributes := #[] }])
  fields := #[{ name := "OPEN", type := .int, accessFlags := 24, slot := 0, constantValue := 0 }, { name := "ABSENT", type := .int, accessFlags := 24, slot := 1, constantValue := 0 }, { name := "PRESENT", type := .int, accessFlags := 24, slot := 2, constantValue := 0 }, { name := "values", type := (.array .int), accessFlags := 18, slot := 0, constantValue := 0 }, { name := "trail", type := (.array .int), accessFlags := 18, slot := 1, constantValue := 0 }, { name := "trailSize", type := .int, accessFlags := 2, slot := 2, constantValue := 0 }]
  methods := #[k2m0, k2m1, k2m2, k2m3, k2m4]
  instanceTypes := #[(.array .int), (.array .int), .int]
  staticTypes := #[.int, .int, .int]
  resolved := Array.replicate 89 none
  statics := none }

def pool3 : Array CpInfo := pool [(2, .class_ 4), (1, u "java/lang/Object"), (0, u "<init>"), (0, u "()V"), (7, .class_ 16), (1, u "java/util/Arrays"), (57, .class_ 76), (1, u "java/util/Arrays$NaturalOrder"), (36, .class_ 115), (1, u "java/util/Arrays$LegacyMergeSort"), (1, u "Z"), (257, .class_ 376), (0, u "java/util/Arrays$ArrayList"), (68, u "$assertionsDisabled"), (269, u "MIN_ARRAY_SORT_GRAN"), (0, u "I"), (2, u "INSERTIONSORT_THRESHOLD"), (120, u "fill"), (4, u "([II)V"), (129, .class_ 976), (0, u "java/util/Arrays$ArrayItr")] 52

def k3m0 : Method := { name := "<init>", desc := "()V", sig := { parameters := [], returnType := none }, accessFlags := 2, code := none }
def k3c1 : Code := { maxStack := 3, maxLocals := 4, code := jdk_65_method_103_code, exceptionTable := #[], attributes := #[] }
def k3m1 : Method := { name := "fill", desc := "([II)V", sig := { parameters := [(.array .int), .int], returnType := none }, accessFlags := 9, code := some k3c1 }
/-- java/util/Arrays -/
def k3 : Class := { plain "java/util/Arrays" (some 0) with
  accessFlags := 49
  interfaces := #[]
  cf := some (fileOf pool3 14 #[.nestMembers #[975, 375, 113, 74]] #[{ accessFlags := 2, nameIndex := 5, descriptorIndex := 6, attributes := #[] }, { accessFlags := 9, nameIndex := 840, descriptorIndex := 845, attributes := #[] }] 49 2 #[] #[{ accessFlags := 26, nameIndex := 715, descriptorIndex := 716, attributes := #[] }, { accessFlags := 26, nameIndex := 719, descriptorIndex := 716, attributes := #[] }, { accessFlags := 4120, nameIndex := 445, descriptorIndex := 117, attributes := #[] }])
  fields := #[{ name := "MIN_ARRAY_SORT_GRAN", type := .int, accessFlags := 26, slot := 0, constantValue := 0 }, { name := "INSERTIONSORT_THRESHOLD", type := .int, accessFlags := 26, slot := 1, constantValue := 0 }, { name := "$assertionsDisabled", type := .boolean, accessFlags := 4120, slot := 2, constantValue := 0 }]
  methods := #[k3m0, k3m1]
  instanceTypes := #[]
  staticTypes := #[.int, .int, .boolean]
  resolved := Array.replicate 1029 none
  statics := none }

def pool4 : Array CpInfo := pool [(1, u "java/lang/Cloneable"), (0, .class_ 1), (0, u "java/lang/Object"), (0, .class_ 3)] 3

/-- java/lang/Cloneable -/
def k4 : Class := { plain "java/lang/Cloneable" (some 0) with
  accessFlags := 1537
  interfaces := #[]
  cf := some (fileOf pool4 2 #[] #[] 1537 4 #[] #[])
  fields := #[]
  methods := #[]
  instanceTypes := #[]
  staticTypes := #[]
  resolved := Array.replicate 8 none
  statics := none }

def pool5 : Array CpInfo := pool [(1, u "java/io/Serializable"), (0, .class_ 1), (0, u "java/lang/Object"), (0, .class_ 3)] 3

/-- java/io/Serializable -/
def k5 : Class := { plain "java/io/Serializable" (some 0) with
  accessFlags := 1537
  interfaces := #[]
  cf := some (fileOf pool5 2 #[] #[] 1537 4 #[] #[])
  fields := #[]
  methods := #[]
  instanceTypes := #[]
  staticTypes := #[]
  resolved := Array.replicate 8 none
  statics := none }

/-- the primitive byte -/
def k6 : Class := { plain "byte" none with kind := .primitive 'B', accessFlags := 0x411 }
/-- [B -/
def k7 : Class := { plain "[B" (some 0) with kind := .array 6 .byte, interfaces := #[4, 5], accessFlags := 1041 }

/-- the primitive int -/
def k8 : Class := { plain "int" none with kind := .primitive 'I', accessFlags := 0x411 }
/-- [I -/
def k9 : Class := { plain "[I" (some 0) with kind := .array 8 .int, interfaces := #[4, 5], accessFlags := 1041 }

def heap : Heap := #[]
def classes : Array Class := #[k0, k1, k2, k3, k4, k5, k6, k7, k8, k9]
def interned : List (Array UInt16 × Addr) := []
def slotsUsed : Nat := 0
def theMethod : MethodId := ⟨1, 2⟩
def args0 : Array Value := #[.int 1, .int 5, .int 3, .int 1, .int 1]
def aboutOver (below : List Frame) : State where
  vm := { classes := classes, interned := interned.toArray }
  heap := heap
  slotsUsed := slotsUsed
  threads := #[{ frames := .invoking theMethod args0 :: below }]
def below0 : List Frame := [.native { method := ⟨0, 0⟩, args := #[] }]
def about1 : State := aboutOver below0
def p0 : Program := .bare "" "" ""
def e0 : Env := launch0.env 0 0 0
theorem w_frames : about1.frames = Frame.invoking theMethod args0 :: below0 := rfl
set_option maxRecDepth 65536 in
theorem w_args : argsFit about1.vm theMethod args0 = true := by decide +kernel
set_option maxRecDepth 65536 in
theorem w_heap : heapFits about1 = true := by decide +kernel
set_option maxRecDepth 65536 in
theorem w_runnable : about1.curStatus? = some .runnable := by decide +kernel
set_option maxRecDepth 65536 in
theorem w_alone : about1.alone = true := by decide +kernel
set_option maxRecDepth 65536 in
theorem w_named : about1.methodNamed? x = some theMethod := by decide +kernel
set_option maxRecDepth 65536 in
theorem w_hears : about1.hears theMethod below0 = true := by decide +kernel
set_option maxRecDepth 65536 in
theorem w_ripe : about1.ripe theMethod args0 below0 = true := by decide +kernel
theorem w_running : about1.status = .running := rfl
set_option maxRecDepth 65536 in
theorem w_room : about1.hasRoom e0.platform room_1 = true :=
  launch0.hasRoom_least _ room_1 (by decide +kernel) (by decide +kernel) (by decide +kernel) (by decide +kernel) (by decide +kernel) (by decide +kernel)
theorem allAtoms_all (ts : List Jvm.Cond) (a : Array Jvm.Value) (st : Jvm.State) : (allAtoms ts).before a st = ts.all (fun c => c.before a st) := by
  induction ts with
  | nil => rfl
  | cons c t ih =>
    show (Jvm.Cond.and c (allAtoms t)).before a st = _
    rw [Jvm.Cond.before_and, ih, List.all_cons]
def words1 : List Jvm.Cond := Jvm.Cond.code x code maxLocals ret :: tables_1
/-- a 'code' word, met by the world's own term for the bytes: nothing is compared byte by byte -/
theorem code_word {y : MethodName} {bytes : ByteArray} {mx : Nat} {rt : Option FieldType} {a : Array Value} {s : State} {m : MethodId} {meth : Method} {c : Code} (h1 : s.methodNamed? y = some m) (h2 : s.vm.method? m = some meth) (h3 : meth.code = some c) (h4 : c.code = bytes)
    (h5 : (c.maxLocals == mx && c.exceptionTable.isEmpty && decide (c.maxStack ≤ mostOperands) && decide (meth.sig.returnType = rt) && !meth.locks && decide (parseMethodDescriptor y.desc = some meth.sig)) = true) : (Jvm.Cond.code y bytes mx rt).before a s = true := by
  simp only [Bool.and_eq_true, beq_iff_eq, Bool.not_eq_true', decide_eq_true_eq] at h5
  obtain ⟨⟨⟨⟨⟨g1, g2⟩, g3⟩, g4⟩, g5⟩, g6⟩ := h5
  simp [Cond.before, Cond.holds, Cond.value, h1, h2, h3, h4, g1, g2, g3, g4, g5, g6]
def isCode : Jvm.Cond → Bool
  | .code _ _ _ _ => true
  | _ => false
theorem all_split {L : List Jvm.Cond} {P : Jvm.Cond → Bool} (h1 : L.all (fun c => isCode c || P c) = true) (h2 : ∀ c ∈ L.filter isCode, P c = true) : L.all P = true := by
  refine List.all_eq_true.mpr fun c hc => ?_
  have h := List.all_eq_true.mp h1 c hc
  rcases Bool.eq_false_or_eq_true (isCode c) with hi | hi
  · exact h2 c (List.mem_filter.mpr ⟨hc, hi⟩)
  · simpa [hi] using h
set_option maxRecDepth 65536 in
theorem w_c0 : (Jvm.Cond.code x code maxLocals ret).before args0 about1 = true := code_word (m := ⟨1, 2⟩) (meth := k1m2) (c := k1c2) (by decide +kernel) rfl rfl rfl (by decide +kernel)
set_option maxRecDepth 65536 in
theorem w_c1 : (Jvm.Cond.code ({ cls := "com/example/clocks_to_automata/clockstoautomata/semantics/Assignment", name := "<init>", desc := "(I)V" } : Jvm.MethodName) prog_62_method_1_code (2 : Nat) (Option.none : Option Jvm.ClassFile.FieldType)).before args0 about1 = true := code_word (m := ⟨2, 0⟩) (meth := k2m0) (c := k2c0) (by decide +kernel) rfl rfl rfl (by decide +kernel)
set_option maxRecDepth 65536 in
theorem w_c2 : (Jvm.Cond.code ({ cls := "java/lang/Object", name := "<init>", desc := "()V" } : Jvm.MethodName) object_method_1_code (1 : Nat) (Option.none : Option Jvm.ClassFile.FieldType)).before args0 about1 = true := code_word (m := ⟨0, 0⟩) (meth := k0m0) (c := k0c0) (by decide +kernel) rfl rfl rfl (by decide +kernel)
set_option maxRecDepth 65536 in
theorem w_c3 : (Jvm.Cond.code ({ cls := "java/util/Arrays", name := "fill", desc := "([II)V" } : Jvm.MethodName) jdk_65_method_103_code (4 : Nat) (Option.none : Option Jvm.ClassFile.FieldType)).before args0 about1 = true := code_word (m := ⟨3, 1⟩) (meth := k3m1) (c := k3c1) (by decide +kernel) rfl rfl rfl (by decide +kernel)
set_option maxRecDepth 65536 in
theorem w_c4 : (Jvm.Cond.code ({ cls := "com/example/clocks_to_automata/clockstoautomata/semantics/Assignment", name := "force", desc := "(II)Z" } : Jvm.MethodName) prog_62_method_7_code (3 : Nat) (Option.some Jvm.ClassFile.FieldType.boolean)).before args0 about1 = true := code_word (m := ⟨2, 4⟩) (meth := k2m4) (c := k2c4) (by decide +kernel) rfl rfl rfl (by decide +kernel)
set_option maxRecDepth 65536 in
theorem w_c5 : (Jvm.Cond.code ({ cls := "com/example/clocks_to_automata/clockstoautomata/semantics/Assignment", name := "value", desc := "(I)I" } : Jvm.MethodName) prog_62_method_2_code (2 : Nat) (Option.some Jvm.ClassFile.FieldType.int)).before args0 about1 = true := code_word (m := ⟨2, 1⟩) (meth := k2m1) (c := k2c1) (by decide +kernel) rfl rfl rfl (by decide +kernel)
set_option maxRecDepth 65536 in
theorem w_c6 : (Jvm.Cond.code ({ cls := "com/example/clocks_to_automata/clockstoautomata/semantics/AssignmentForcePinLaw", name := "expectedValue", desc := "(IZIIII)I" } : Jvm.MethodName) method_2_code (7 : Nat) (Option.some Jvm.ClassFile.FieldType.int)).before args0 about1 = true := code_word (m := ⟨1, 1⟩) (meth := k1m1) (c := k1c1) (by decide +kernel) rfl rfl rfl (by decide +kernel)
set_option maxRecDepth 65536 in
theorem w_c7 : (Jvm.Cond.code ({ cls := "com/example/clocks_to_automata/clockstoautomata/semantics/Assignment", name := "trailSize", desc := "()I" } : Jvm.MethodName) prog_62_method_3_code (1 : Nat) (Option.some Jvm.ClassFile.FieldType.int)).before args0 about1 = true := code_word (m := ⟨2, 2⟩) (meth := k2m2) (c := k2c2) (by decide +kernel) rfl rfl rfl (by decide +kernel)
set_option maxRecDepth 65536 in
theorem w_c8 : (Jvm.Cond.code ({ cls := "com/example/clocks_to_automata/clockstoautomata/semantics/Assignment", name := "trailClock", desc := "(I)I" } : Jvm.MethodName) prog_62_method_4_code (2 : Nat) (Option.some Jvm.ClassFile.FieldType.int)).before args0 about1 = true := code_word (m := ⟨2, 3⟩) (meth := k2m3) (c := k2c3) (by decide +kernel) rfl rfl rfl (by decide +kernel)
def codes1 : List Jvm.Cond := [Jvm.Cond.code x code maxLocals ret, Jvm.Cond.code ({ cls := "com/example/clocks_to_automata/clockstoautomata/semantics/Assignment", name := "<init>", desc := "(I)V" } : Jvm.MethodName) prog_62_method_1_code (2 : Nat) (Option.none : Option Jvm.ClassFile.FieldType), Jvm.Cond.code ({ cls := "java/lang/Object", name := "<init>", desc := "()V" } : Jvm.MethodName) object_method_1_code (1 : Nat) (Option.none : Option Jvm.ClassFile.FieldType), Jvm.Cond.code ({ cls := "java/util/Arrays", name := "fill", desc := "([II)V" } : Jvm.MethodName) jdk_65_method_103_code (4 : Nat) (Option.none : Option Jvm.ClassFile.FieldType), Jvm.Cond.code ({ cls := "com/example/clocks_to_automata/clockstoautomata/semantics/Assignment", name := "force", desc := "(II)Z" } : Jvm.MethodName) prog_62_method_7_code (3 : Nat) (Option.some Jvm.ClassFile.FieldType.boolean), Jvm.Cond.code ({ cls := "com/example/clocks_to_automata/clockstoautomata/semantics/Assignment", name := "value", desc := "(I)I" } : Jvm.MethodName) prog_62_method_2_code (2 : Nat) (Option.some Jvm.ClassFile.FieldType.int), Jvm.Cond.code ({ cls := "com/example/clocks_to_automata/clockstoautomata/semantics/AssignmentForcePinLaw", name := "expectedValue", desc := "(IZIIII)I" } : Jvm.MethodName) method_2_code (7 : Nat) (Option.some Jvm.ClassFile.FieldType.int), Jvm.Cond.code ({ cls := "com/example/clocks_to_automata/clockstoautomata/semantics/Assignment", name := "trailSize", desc := "()I" } : Jvm.MethodName) prog_62_method_3_code (1 : Nat) (Option.some Jvm.ClassFile.FieldType.int), Jvm.Cond.code ({ cls := "com/example/clocks_to_automata/clockstoautomata/semantics/Assignment", name := "trailClock", desc := "(I)I" } : Jvm.MethodName) prog_62_method_4_code (2 : Nat) (Option.some Jvm.ClassFile.FieldType.int)]
set_option maxRecDepth 65536 in
theorem codes_eq : words1.filter isCode = codes1 := rfl
theorem w_codes : ∀ c ∈ words1.filter isCode, c.before args0 about1 = true := by
  rw [codes_eq]
  intro c hc
  simp only [codes1, List.mem_cons, List.not_mem_nil, or_false] at hc
  rcases hc with rfl | rfl | rfl | rfl | rfl | rfl | rfl | rfl | rfl
  · exact w_c0
  · exact w_c1
  · exact w_c2
  · exact w_c3
  · exact w_c4
  · exact w_c5
  · exact w_c6
  · exact w_c7
  · exact w_c8
set_option maxRecDepth 65536 in
theorem w_t1 : (words1.take 24).all (fun c => isCode c || c.before args0 about1) = true := by decide +kernel
set_option maxRecDepth 65536 in
theorem w_t2 : (words1.drop 24).all (fun c => isCode c || c.before args0 about1) = true := by decide +kernel
theorem w_tables : (allAtoms (Jvm.Cond.code x code maxLocals ret :: tables_1)).before args0 about1 = true := by
  rw [allAtoms_all]
  show words1.all (fun c => c.before args0 about1) = true
  refine all_split ?_ w_codes
  rw [← List.take_append_drop 24 words1, List.all_append, w_t1, w_t2]
  rfl
set_option maxRecDepth 65536 in
theorem w_case : (Jvm.Cond.and given_1 narrow_1).before args0 about1 = true := by decide +kernel
theorem w_applies : (headSpec (Jvm.Cond.code x code maxLocals ret :: tables_1) room_1).applies x e0.platform about1 = true :=
  (Spec.applies_iff w_frames).mpr ⟨w_running, w_runnable, w_alone, w_named, w_hears, w_ripe, w_room, w_tables⟩
theorem atStart : AtStart classFile x code maxLocals ret World_1 tables_1 room_1 Calls_1 rest_1 Pre_1 launch0 p0 e0 about1 theMethod args0 below0 :=
  ⟨lists_1, trivial, launch0.admits_env _ _ _, launch0.least_env, fairChoices_fair.cas, fairChoices_fair.clock, w_frames, w_args, w_heap, w_applies, trivial, trivial, w_case⟩
end start1
theorem witness_1 : WitnessClaimed_1 := ⟨start1.p0, start1.e0, start1.about1, start1.theMethod, start1.args0, start1.below0, start1.atStart⟩
end Jvm.Pilot.@@N@@
