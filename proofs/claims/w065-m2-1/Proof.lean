import JvmDerived
import JvmDerived.Pilot.@@N@@Statement
import JvmDerived.Pilot.@@N@@Code
set_option linter.unusedVariables false
set_option linter.unusedSimpArgs false
namespace Jvm.RoadKit
open Sem ClassFile Op Lib Jvm.Stand Jvm.Free Jvm.LawKit
section New
variable {p : Program} {l : Launch} {e : Env} {R : Room} {s : State} {m : MethodId} {args : Array Value} {below : List Frame} {meth : Method} {c : Code} {T : State} {locs : List Loc} {cells slots : Nat}
theorem retI (X : Stand p l e R s m args below meth c T locs cells slots) (hx : p.tables.exec = Jvm.exec) {pc : Nat} {Ls : Array Slot} {z : Int32} {rest : List Value} (hret : meth.sig.returnType = some .int) (hd : decode c.code pc = .ok (.ireturn, 1)) {fs : List Frame}
    (hl : ∀ (f : JFrame) (acts : List Action), f.method = m → f.locked = none → f.entered = [] → (doReturn e (T.setTop f) acts (some (.int z))).1 = T.setFrames fs) : Steps p.tables e below (T.setTop (mkF m pc Ls (.int z :: rest))) (T.setFrames fs) := by
  have hm' : T.vm.method? m = some meth := X.method'
  have hn : narrow .int (.int z) = .int z := rfl
  show Steps p.tables e below (T.setTop { method := m, pc := pc, locals := Ls, stack := _ :: rest, locked := none }) _
  jvm_step X.here [X.here.top, hx, hd, hm', hret, hn]
  first | (intro acts; rw [hl _ acts rfl rfl rfl]) | rw [hl _ _ rfl rfl rfl]
  exact Steps.refl _
end New
end Jvm.RoadKit
namespace Jvm.Pilot.@@N@@
open Jvm Jvm.ClassFile Sem Op Lib Jvm.Free Jvm.Stand Jvm.LawKit Jvm.RoadKit Bundle Jvm.Pilot.@@N@@.Jvm.D
theorem own_mulb {a b : Int} (h1 : 1 ≤ a) (h2 : a ≤ 2147483647) (h3 : 1 ≤ b) (h4 : b ≤ 100) : 1 ≤ a * b ∧ a * b ≤ 214748364700 ∧ a * b ≤ a * 100 := by
  have q1 : a * 1 ≤ a * b := Int.mul_le_mul_of_nonneg_left h3 (by omega)
  have q2 : a * b ≤ a * 100 := Int.mul_le_mul_of_nonneg_left h4 (by omega)
  omega
def F1 (x0 : Int32) (x1 : Int32) : Int32 := (if x0 < x1 then x1 else x0)
theorem d1_0 : decode jdk_29_method_65_code 0 = .ok (.iload_n 0, 1) := by decide +kernel
theorem d1_1 : decode jdk_29_method_65_code 1 = .ok (.iload_n 1, 1) := by decide +kernel
theorem d1_2 : decode jdk_29_method_65_code 2 = .ok (.if_icmp .lt 7, 3) := by decide +kernel
theorem d1_5 : decode jdk_29_method_65_code 5 = .ok (.iload_n 0, 1) := by decide +kernel
theorem d1_6 : decode jdk_29_method_65_code 6 = .ok (.goto 4, 3) := by decide +kernel
theorem d1_9 : decode jdk_29_method_65_code 9 = .ok (.iload_n 1, 1) := by decide +kernel
theorem d1_10 : decode jdk_29_method_65_code 10 = .ok (.ireturn, 1) := by decide +kernel
theorem ef_1 (m : MethodId) (x0 : Int32) (x1 : Int32) : entryFrame m #[(.int x0), (.int x1)] 2 = mkF m 0 #[.val (.int x0), .val (.int x1)] [] := by first | (simp [entryFrame, mkF, argsToLocals, Value.category]; done) | rfl
def Q1 (Z : State) (x0 : Int32) (x1 : Int32) (h0 : Heap) (n0 : Nat) (v : Option Value) (h : Heap) (L : List Loc) : Prop := ∃ z : Int32, v = some (.int z) ∧ Fr n0 L ∧ h = h0 ∧ z = F1 x0 x1
set_option maxRecDepth 65536 in
set_option maxHeartbeats 40000000 in
theorem rm1 (l : Launch) (Z : State) (a0 : Array Value) (hw : ∀ d ∈ tables_1, d.before a0 Z = true) (ws : List Jvm.Cond) (x0 : Int32) (x1 : Int32) (h0 : Heap) (n0 : Nat) (Z0 : n0 ≤ h0.size) :
    MetFree l (⟨"java/lang/Math", "max", "(II)I"⟩ : MethodName) (head1 (Jvm.Cond.code (⟨"java/lang/Math", "max", "(II)I"⟩ : MethodName) jdk_29_method_65_code 2 (some .int) :: ws) ({ frames := 0, cells := 0, slots := 0, locals := 0 } : Room)) (fun a U => a = #[(.int x0), (.int x1)] ∧ Z.Warmed39 U.vm ∧ U.heap = h0) (fun _ _ _ _ _ => True) (fun _ U o U' => ∃ v L, o = .returned v ∧ Q1 Z x0 x1 h0 n0 v U'.heap L ∧ FrameEnd U o U' L ({ frames := 0, cells := 0, slots := 0, locals := 0 } : Room).cells ({ frames := 0, cells := 0, slots := 0, locals := 0 } : Room).slots) := by
  refine MetFree.of_bodySF (Jvm.Free.JP.mathPlain rfl (by decide +kernel)) hisR ?_
  intro p e s m args below meth c s₁ Bd hml0 hP hK
  obtain ⟨rfl, hZ, hh⟩ := hP
  have hx := Bd.exec
  have hby := Bd.bytes
  have hml : c.maxLocals = 2 := hml0
  have hown : s.vm.findClass "java/lang/Math" = some m.cls := findClass_of_methodNamed Bd.named
  have hnm := (name_of_methodNamed Bd.named Bd.method).1
  have X0 : Stand p l e ({ frames := 0, cells := 0, slots := 0, locals := 0 } : Room) s m #[(.int x0), (.int x1)] below meth c s₁ [] 0 0 := Stand.of_body Bd
  have e0 : s₁.heap = h0 := by rw [← hh, Bd.state]; rfl
  have N0 := Fr.nil n0
  have pre0 : ∀ t, Steps p.tables e below (s₁.setTop (mkF m 0 #[.val (.int x0), .val (.int x1)] [])) t → Steps p.tables e below (s₁.setTop (entryFrame m #[(.int x0), (.int x1)] 2)) t := fun t k => castTop (ef_1 m x0 x1) k
  obtain ⟨v2, hv2⟩ : ∃ z : Int32, z = (if x0 < x1 then x1 else x0) := ⟨_, rfl⟩
  have pre3 : ∀ t, Steps p.tables e below (s₁.setTop (mkF m 10 #[.val (.int x0), .val (.int x1)] [(.int v2)])) t → Steps p.tables e below (s₁.setTop (entryFrame m #[(.int x0), (.int x1)] 2)) t := fun t k => pre0 t (by
    show Steps p.tables e below (s₁.setTop (mkF m 0 #[.val (.int x0), .val (.int x1)] [])) _
    refine XS.iloadN X0.here hx rfl (hb hby d1_0) rfl ?_
    show Steps p.tables e below (s₁.setTop (mkF m 1 #[.val (.int x0), .val (.int x1)] [(.int x0)])) _
    refine XS.iloadN X0.here hx rfl (hb hby d1_1) rfl ?_
    show Steps p.tables e below (s₁.setTop (mkF m 2 #[.val (.int x0), .val (.int x1)] [(.int x1), (.int x0)])) _
    by_cases hc1 : x0 < x1
    · skip
      refine XS.icmpYes X0.here hx rfl (pc0 := 2) (pc' := 9) rfl (hb hby d1_2) rfl (tlt hc1).1 (by decide) (by decide) ?_
      show Steps p.tables e below (s₁.setTop (mkF m 9 #[.val (.int x0), .val (.int x1)] [])) _
      refine XS.iloadN X0.here hx rfl (hb hby d1_9) rfl ?_
      show Steps p.tables e below (s₁.setTop (mkF m 10 #[.val (.int x0), .val (.int x1)] [(.int x1)])) _
      rw [show v2 = x1 from by rw [hv2, if_pos hc1]] at k
      exact k
    · skip
      refine XS.icmpNo X0.here hx rfl (hb hby d1_2) rfl (flt hc1).1 ?_
      show Steps p.tables e below (s₁.setTop (mkF m 5 #[.val (.int x0), .val (.int x1)] [])) _
      refine XS.iloadN X0.here hx rfl (hb hby d1_5) rfl ?_
      show Steps p.tables e below (s₁.setTop (mkF m 6 #[.val (.int x0), .val (.int x1)] [(.int x0)])) _
      refine XS.goto X0.here hx rfl (pc0 := 6) (pc' := 10) rfl (hb hby d1_6) (by decide) (by decide) ?_
      show Steps p.tables e below (s₁.setTop (mkF m 10 #[.val (.int x0), .val (.int x1)] [(.int x0)])) _
      rw [show v2 = x0 from by rw [hv2, if_neg hc1]] at k
      exact k)
  obtain ⟨fs, hr, hrun, hended, hW, hsame⟩ := X0.leave (v := some (.int v2)) (fun h => by rw [Bd.returns] at h; cases h)
  refine ⟨_, _, pre3 _ ?_, hrun, hended, _, _, rfl, ?_, ⟨_, rfl⟩, hW, hsame.mono (by decide) (by decide)⟩
  · show Steps p.tables e below (s₁.setTop (mkF m 10 #[.val (.int x0), .val (.int x1)] [(.int v2)])) _
    exact retI X0 hx Bd.returns (hb hby d1_10) hr
  · show Q1 Z x0 x1 h0 n0 _ s₁.heap _
    rw [e0]
    exact ⟨_, rfl, N0, rfl, by subst hv2; rw [F1]⟩
def F2 (x0 : Int32) (x1 : Int32) : Int32 := (((((x0.toInt64) * (x1.toInt64)) + (99 : Int64)) / (100 : Int64)).toInt32)
theorem pn_0 : plainName "com/example/circlet/circlet/Bench" = true := by first | (simp [plainName, overriddenIn]; done) | decide +kernel
theorem d2_0 : decode prog_3_method_17_code 0 = .ok (.iload_n 0, 1) := by decide +kernel
theorem d2_1 : decode prog_3_method_17_code 1 = .ok (.i2l, 1) := by decide +kernel
theorem d2_2 : decode prog_3_method_17_code 2 = .ok (.iload_n 1, 1) := by decide +kernel
theorem d2_3 : decode prog_3_method_17_code 3 = .ok (.i2l, 1) := by decide +kernel
theorem d2_4 : decode prog_3_method_17_code 4 = .ok (.lmul, 1) := by decide +kernel
theorem d2_5 : decode prog_3_method_17_code 5 = .ok (.ldc2_w 438, 3) := by decide +kernel
theorem d2_8 : decode prog_3_method_17_code 8 = .ok (.ladd, 1) := by decide +kernel
theorem d2_9 : decode prog_3_method_17_code 9 = .ok (.ldc2_w 440, 3) := by decide +kernel
theorem d2_12 : decode prog_3_method_17_code 12 = .ok (.ldiv, 1) := by decide +kernel
theorem d2_13 : decode prog_3_method_17_code 13 = .ok (.l2i, 1) := by decide +kernel
theorem d2_14 : decode prog_3_method_17_code 14 = .ok (.ireturn, 1) := by decide +kernel
theorem ef_2 (m : MethodId) (x0 : Int32) (x1 : Int32) : entryFrame m #[(.int x0), (.int x1)] 2 = mkF m 0 #[.val (.int x0), .val (.int x1)] [] := by first | (simp [entryFrame, mkF, argsToLocals, Value.category]; done) | rfl
def Q2 (Z : State) (x0 : Int32) (x1 : Int32) (h0 : Heap) (n0 : Nat) (v : Option Value) (h : Heap) (L : List Loc) : Prop := ∃ z : Int32, v = some (.int z) ∧ Fr n0 L ∧ h = h0 ∧ z = F2 x0 x1
set_option maxRecDepth 65536 in
set_option maxHeartbeats 40000000 in
theorem rm2 (l : Launch) (Z : State) (a0 : Array Value) (hw : ∀ d ∈ tables_1, d.before a0 Z = true) (ws : List Jvm.Cond) (x0 : Int32) (x1 : Int32) (h0 : Heap) (n0 : Nat) (Z0 : n0 ≤ h0.size) :
    MetFree l (⟨"com/example/circlet/circlet/Bench", "rank", "(II)I"⟩ : MethodName) (head1 (Jvm.Cond.code (⟨"com/example/circlet/circlet/Bench", "rank", "(II)I"⟩ : MethodName) prog_3_method_17_code 2 (some .int) :: ws) ({ frames := 0, cells := 0, slots := 0, locals := 0 } : Room)) (fun a U => a = #[(.int x0), (.int x1)] ∧ Z.Warmed39 U.vm ∧ U.heap = h0) (fun _ _ _ _ _ => True) (fun _ U o U' => ∃ v L, o = .returned v ∧ Q2 Z x0 x1 h0 n0 v U'.heap L ∧ FrameEnd U o U' L ({ frames := 0, cells := 0, slots := 0, locals := 0 } : Room).cells ({ frames := 0, cells := 0, slots := 0, locals := 0 } : Room).slots) := by
  refine MetFree.of_bodySF (plainFor_of_name pn_0) hisR ?_
  intro p e s m args below meth c s₁ Bd hml0 hP hK
  obtain ⟨rfl, hZ, hh⟩ := hP
  have hx := Bd.exec
  have hby := Bd.bytes
  have hml : c.maxLocals = 2 := hml0
  have hown : s.vm.findClass "com/example/circlet/circlet/Bench" = some m.cls := findClass_of_methodNamed Bd.named
  have hnm := (name_of_methodNamed Bd.named Bd.method).1
  have X0 : Stand p l e ({ frames := 0, cells := 0, slots := 0, locals := 0 } : Room) s m #[(.int x0), (.int x1)] below meth c s₁ [] 0 0 := Stand.of_body Bd
  have e0 : s₁.heap = h0 := by rw [← hh, Bd.state]; rfl
  have N0 := Fr.nil n0
  have pre0 : ∀ t, Steps p.tables e below (s₁.setTop (mkF m 0 #[.val (.int x0), .val (.int x1)] [])) t → Steps p.tables e below (s₁.setTop (entryFrame m #[(.int x0), (.int x1)] 2)) t := fun t k => castTop (ef_2 m x0 x1) k
  have pre1 : ∀ t, Steps p.tables e below (s₁.setTop (mkF m 14 #[.val (.int x0), .val (.int x1)] [(.int (((((x0.toInt64) * (x1.toInt64)) + (99 : Int64)) / (100 : Int64)).toInt32))])) t → Steps p.tables e below (s₁.setTop (entryFrame m #[(.int x0), (.int x1)] 2)) t := fun t k => pre0 t (by
    show Steps p.tables e below (s₁.setTop (mkF m 0 #[.val (.int x0), .val (.int x1)] [])) _
    refine XS.iloadN X0.here hx rfl (hb hby d2_0) rfl ?_
    show Steps p.tables e below (s₁.setTop (mkF m 1 #[.val (.int x0), .val (.int x1)] [(.int x0)])) _
    refine XS.i2l X0.here hx rfl (hb hby d2_1) rfl ?_
    show Steps p.tables e below (s₁.setTop (mkF m 2 #[.val (.int x0), .val (.int x1)] [(.long (x0.toInt64))])) _
    refine XS.iloadN X0.here hx rfl (hb hby d2_2) rfl ?_
    show Steps p.tables e below (s₁.setTop (mkF m 3 #[.val (.int x0), .val (.int x1)] [(.int x1), (.long (x0.toInt64))])) _
    refine XS.i2l X0.here hx rfl (hb hby d2_3) rfl ?_
    show Steps p.tables e below (s₁.setTop (mkF m 4 #[.val (.int x0), .val (.int x1)] [(.long (x1.toInt64)), (.long (x0.toInt64))])) _
    refine XS.lmul X0.here hx rfl (hb hby d2_4) rfl ?_
    show Steps p.tables e below (s₁.setTop (mkF m 5 #[.val (.int x0), .val (.int x1)] [(.long ((x0.toInt64) * (x1.toInt64)))])) _
    refine X0.ldc2Long hx hown (mvT hZ (hw _ (List.mem_of_getElem? (i := 9) rfl))) (g := (mkF m 5 #[.val (.int x0), .val (.int x1)] [(.long ((x0.toInt64) * (x1.toInt64)))])) rfl (hb hby d2_5) _ ?_
    show Steps p.tables e below (s₁.setTop (mkF m 8 #[.val (.int x0), .val (.int x1)] [(.long (99 : Int64)), (.long ((x0.toInt64) * (x1.toInt64)))])) _
    refine XS.ladd X0.here hx rfl (hb hby d2_8) rfl ?_
    show Steps p.tables e below (s₁.setTop (mkF m 9 #[.val (.int x0), .val (.int x1)] [(.long (((x0.toInt64) * (x1.toInt64)) + (99 : Int64)))])) _
    refine X0.ldc2Long hx hown (mvT hZ (hw _ (List.mem_of_getElem? (i := 10) rfl))) (g := (mkF m 9 #[.val (.int x0), .val (.int x1)] [(.long (((x0.toInt64) * (x1.toInt64)) + (99 : Int64)))])) rfl (hb hby d2_9) _ ?_
    show Steps p.tables e below (s₁.setTop (mkF m 12 #[.val (.int x0), .val (.int x1)] [(.long (100 : Int64)), (.long (((x0.toInt64) * (x1.toInt64)) + (99 : Int64)))])) _
    refine XS.ldiv X0.here hx rfl (hb hby d2_12) rfl (by decide) ?_
    show Steps p.tables e below (s₁.setTop (mkF m 13 #[.val (.int x0), .val (.int x1)] [(.long ((((x0.toInt64) * (x1.toInt64)) + (99 : Int64)) / (100 : Int64)))])) _
    refine XS.l2i X0.here hx rfl (hb hby d2_13) rfl ?_
    show Steps p.tables e below (s₁.setTop (mkF m 14 #[.val (.int x0), .val (.int x1)] [(.int (((((x0.toInt64) * (x1.toInt64)) + (99 : Int64)) / (100 : Int64)).toInt32))])) _
    exact k)
  obtain ⟨fs, hr, hrun, hended, hW, hsame⟩ := X0.leave (v := some (.int (((((x0.toInt64) * (x1.toInt64)) + (99 : Int64)) / (100 : Int64)).toInt32))) (fun h => by rw [Bd.returns] at h; cases h)
  refine ⟨_, _, pre1 _ ?_, hrun, hended, _, _, rfl, ?_, ⟨_, rfl⟩, hW, hsame.mono (by decide) (by decide)⟩
  · show Steps p.tables e below (s₁.setTop (mkF m 14 #[.val (.int x0), .val (.int x1)] [(.int (((((x0.toInt64) * (x1.toInt64)) + (99 : Int64)) / (100 : Int64)).toInt32))])) _
    exact retI X0 hx Bd.returns (hb hby d2_14) hr
  · show Q2 Z x0 x1 h0 n0 _ s₁.heap _
    rw [e0]
    exact ⟨_, rfl, N0, rfl, by rw [F2]⟩
theorem pd_0 : parseMethodDescriptor "(II)I" = some ⟨[.int, .int], some .int⟩ := by decide +kernel
set_option maxHeartbeats 8000000 in
theorem own_fin (x0 : Int32) (x1 : Int32) (r2 : Int32) (v4 : Int32) (r6 : Int32) (v8 : Int64) (v11 : Int32) (v14 : Int32) (v17 : Int32) (v22 : Int32) (P2 : r2 = F1 (1 : Int32) (x0 &&& (2147483647 : Int32))) (hv4 : v4 = (((x1 &&& (2147483647 : Int32)) % (100 : Int32)) + (1 : Int32))) (P6 : r6 = F2 r2 v4) (hv8 : v8 = ((r2.toInt64) * (v4.toInt64))) (hv11 : v11 = (if r6 < (1 : Int32) then (0 : Int32) else (if r2 < r6 then (0 : Int32) else (1 : Int32)))) (hv14 : v14 = (if ((100 : Int64) * (r6.toInt64)) < v8 then (0 : Int32) else (1 : Int32))) (hv17 : v17 = (if ((100 : Int64) * ((r6.toInt64) - (1 : Int64))) < v8 then (1 : Int32) else (0 : Int32))) (hv22 : v22 = (if v11 = (0 : Int32) then (0 : Int32) else (if v14 = (0 : Int32) then (0 : Int32) else (if v17 = (0 : Int32) then (0 : Int32) else (1 : Int32))))) : v22 = (1 : Int32) := by
  have a1 := c_mask x0 2147483647 31 (by decide) (by decide)
  have a2 := c_mask x1 2147483647 31 (by decide) (by decide)
  have a3 := c_irem (x1 &&& 2147483647) 100 100 (by decide)
  have a4 := c_iadd ((x1 &&& 2147483647) % 100) 1
  rw [← hv4] at a4
  have a5 := rng32 v4
  have e1 : (1 : Int32).toInt = 1 := by decide
  unfold F1 at P2
  have a6 := congrArg Int32.toInt P2
  simp only [apply_ite Int32.toInt, Int32.lt_iff_toInt_lt, e1] at a6
  have c1 : 1 ≤ r2.toInt := by omega
  have c2 : r2.toInt ≤ 2147483647 := by have := rng32 r2; omega
  have c3 : 1 ≤ v4.toInt := by omega
  have c4 : v4.toInt ≤ 100 := by omega
  obtain ⟨m1, m2, m3⟩ := own_mulb c1 c2 c3 c4
  have b1 := c_lmul r2.toInt64 v4.toInt64
  rw [c_i2l, c_i2l, ← hv8] at b1
  have b2 := rng64 v8
  unfold F2 at P6
  rw [← hv8] at P6
  have b3 := c_ladd v8 99
  have b4 := rng64 (v8 + 99)
  have b5 := c_ldiv (v8 + 99) 100 100 (by decide) (by decide)
  have b6 := c_l2i ((v8 + 99) / 100)
  rw [← P6] at b6
  have b7 := rng32 r6
  have e2 : (99 : Int64).toInt = 99 := by decide
  have e3 : (100 : Int64).toInt = 100 := by decide
  have e4 : (1 : Int64).toInt = 1 := by decide
  have d1 := c_lmul 100 r6.toInt64
  have d2 := c_lsub r6.toInt64 1
  have d3 := c_lmul 100 (r6.toInt64 - 1)
  have d4 := rng64 (100 * r6.toInt64)
  have d5 := rng64 (r6.toInt64 - 1)
  have d6 := rng64 (100 * (r6.toInt64 - 1))
  have d7 := c_i2l r6
  rw [d7, e3] at d1
  rw [e3] at d3
  rw [d7, e4] at d2
  generalize r2.toInt * v4.toInt = M at *
  have f1 : v8.toInt = M := by omega
  have f2 : (v8 + 99).toInt = M + 99 := by omega
  have f3 : ((v8 + 99) / 100).toInt = (M + 99) / 100 := by rw [b5.1 (by omega), f2]
  have f4 : r6.toInt = (M + 99) / 100 := by omega
  have f5 : (100 * r6.toInt64).toInt = 100 * r6.toInt := by omega
  have f6 : (r6.toInt64 - 1).toInt = r6.toInt - 1 := by omega
  have f7 : (100 * (r6.toInt64 - 1)).toInt = 100 * (r6.toInt - 1) := by rw [f6] at d3; omega
  simp only [← Int32.toInt_inj, Int32.lt_iff_toInt_lt, Int64.lt_iff_toInt_lt, apply_ite Int32.toInt, Int32.reduceToInt, f5, f7, f1] at hv11 hv14 hv17 hv22 ⊢
  omega
theorem pn_1 : plainName "com/example/circlet/circlet/BenchRankPinLaw" = true := by first | (simp [plainName, overriddenIn]; done) | decide +kernel
theorem ef_0 (m : MethodId) (x0 : Int32) (x1 : Int32) : entryFrame m #[(.int x0), (.int x1)] maxLocals = mkF m 0 #[.val (.int x0), .val (.int x1), .unset, .unset, .unset, .unset, .unset, .unset, .unset, .unset] [] := by first | (simp [entryFrame, mkF, argsToLocals, Value.category, maxLocals]; done) | rfl
def Q0 (Z : State) (x0 : Int32) (x1 : Int32) (h0 : Heap) (n0 : Nat) (v : Option Value) (h : Heap) (L : List Loc) : Prop := v = some (.int 1) ∧ Fr n0 L
set_option maxRecDepth 65536 in
set_option maxHeartbeats 40000000 in
theorem rm0 (l : Launch) (Z : State) (a0 : Array Value) (hw : ∀ d ∈ tables_1, d.before a0 Z = true) (ws : List Jvm.Cond) (x0 : Int32) (x1 : Int32) (h0 : Heap) (n0 : Nat) (Z0 : n0 ≤ h0.size) :
    MetFree l x (head1 (Jvm.Cond.code x code maxLocals ret :: ws) room_1) (fun a U => a = #[(.int x0), (.int x1)] ∧ Z.Warmed39 U.vm ∧ U.heap = h0) (fun _ _ _ _ _ => True) (fun _ U o U' => ∃ v L, o = .returned v ∧ Q0 Z x0 x1 h0 n0 v U'.heap L ∧ FrameEnd U o U' L room_1.cells room_1.slots) := by
  refine MetFree.of_bodySF (plainFor_of_name pn_1) hisR ?_
  intro p e s m args below meth c s₁ Bd hml0 hP hK
  obtain ⟨rfl, hZ, hh⟩ := hP
  have hx := Bd.exec
  have hby := Bd.bytes
  have hml : c.maxLocals = 10 := hml0
  have hown : s.vm.findClass "com/example/circlet/circlet/BenchRankPinLaw" = some m.cls := findClass_of_methodNamed Bd.named
  have hnm := (name_of_methodNamed Bd.named Bd.method).1
  have X0 : Stand p l e room_1 s m #[(.int x0), (.int x1)] below meth c s₁ [] 0 0 := Stand.of_body Bd
  have e0 : s₁.heap = h0 := by rw [← hh, Bd.state]; rfl
  have N0 := Fr.nil n0
  have pre0 : ∀ t, Steps p.tables e below (s₁.setTop (mkF m 0 #[.val (.int x0), .val (.int x1), .unset, .unset, .unset, .unset, .unset, .unset, .unset, .unset] [])) t → Steps p.tables e below (s₁.setTop (entryFrame m #[(.int x0), (.int x1)] maxLocals)) t := fun t k => castTop (ef_0 m x0 x1) k
  have pre1 : ∀ t, Steps p.tables e below (s₁.setTop (mkF m 5 #[.val (.int x0), .val (.int x1), .unset, .unset, .unset, .unset, .unset, .unset, .unset, .unset] [(.int (x0 &&& (2147483647 : Int32))), (.int (1 : Int32))])) t → Steps p.tables e below (s₁.setTop (entryFrame m #[(.int x0), (.int x1)] maxLocals)) t := fun t k => pre0 t (by
    show Steps p.tables e below (s₁.setTop (mkF m 0 #[.val (.int x0), .val (.int x1), .unset, .unset, .unset, .unset, .unset, .unset, .unset, .unset] [])) _
    refine XS.iconst X0.here hx rfl (hb hby at_0) ?_
    show Steps p.tables e below (s₁.setTop (mkF m 1 #[.val (.int x0), .val (.int x1), .unset, .unset, .unset, .unset, .unset, .unset, .unset, .unset] [(.int (1 : Int32))])) _
    refine XS.iloadN X0.here hx rfl (hb hby at_1) rfl ?_
    show Steps p.tables e below (s₁.setTop (mkF m 2 #[.val (.int x0), .val (.int x1), .unset, .unset, .unset, .unset, .unset, .unset, .unset, .unset] [(.int x0), (.int (1 : Int32))])) _
    refine X0.ldcInt hx hown (mvT hZ (hw _ (List.mem_of_getElem? (i := 0) rfl))) (g := (mkF m 2 #[.val (.int x0), .val (.int x1), .unset, .unset, .unset, .unset, .unset, .unset, .unset, .unset] [(.int x0), (.int (1 : Int32))])) rfl (hb hby at_2) _ ?_
    show Steps p.tables e below (s₁.setTop (mkF m 4 #[.val (.int x0), .val (.int x1), .unset, .unset, .unset, .unset, .unset, .unset, .unset, .unset] [(.int (2147483647 : Int32)), (.int x0), (.int (1 : Int32))])) _
    refine XS.iand X0.here hx rfl (hb hby at_4) rfl ?_
    show Steps p.tables e below (s₁.setTop (mkF m 5 #[.val (.int x0), .val (.int x1), .unset, .unset, .unset, .unset, .unset, .unset, .unset, .unset] [(.int (x0 &&& (2147483647 : Int32))), (.int (1 : Int32))])) _
    exact k)
  obtain ⟨_, _, ⟨T2, L2, k2, n2⟩, -, X2, ⟨Lc2, hQ2, l2, y2, z2⟩, st2⟩ := Jvm.LawKit.callS X0 hx (y := (⟨"java/lang/Math", "max", "(II)I"⟩ : MethodName)) hown (mvT hZ (hw _ (List.mem_of_getElem? (i := 1) rfl))) (mvT hZ (hw _ (List.mem_of_getElem? (i := 2) rfl))) (mvT hZ (hw _ (List.mem_of_getElem? (i := 3) rfl))) (mvT hZ (hw _ (List.mem_of_getElem? (i := 4) rfl))) (by decide) (backOf (W := 0) (rm1 l Z a0 hw [] (1 : Int32) (x0 &&& (2147483647 : Int32))  h0 n0 Z0 ) hZ (hw _ (List.mem_of_getElem? (i := 4) rfl)) (hw _ (List.mem_of_getElem? (i := 3) rfl)) (by decide) (by decide)) (g := (mkF m 5 #[.val (.int x0), .val (.int x1), .unset, .unset, .unset, .unset, .unset, .unset, .unset, .unset] [(.int (x0 &&& (2147483647 : Int32))), (.int (1 : Int32))])) rfl (by rw [hml]; rfl) (argsL := [(.int (1 : Int32)), (.int (x0 &&& (2147483647 : Int32)))]) (rest := []) (lenOf pd_0 rfl) rfl (by show 2 * 0 + _ ≤ _; exact Nat.le_of_eq rfl) (hb hby at_5) (fun _ _ => ⟨rfl, e0, (by decide : 0 + 0 ≤ _), (by decide : 0 + 0 ≤ _)⟩)
  dsimp only [Pt.U, Pt.locs, Pt.cells, Pt.slots] at X2 l2 y2 z2 st2 hQ2
  subst l2 y2 z2
  obtain ⟨r2, rfl, N2q, e2, P2⟩ := hQ2
  have N2 := Fr.app N0 N2q
  have pre3 : ∀ t, Steps p.tables e below (T2.setTop (mkF m 8 #[.val (.int x0), .val (.int x1), .unset, .unset, .unset, .unset, .unset, .unset, .unset, .unset] [(.int r2)])) t → Steps p.tables e below (s₁.setTop (entryFrame m #[(.int x0), (.int x1)] maxLocals)) t := fun t k => pre1 t (st2 _ k)
  obtain ⟨v4, hv4⟩ : ∃ z : Int32, z = (((x1 &&& (2147483647 : Int32)) % (100 : Int32)) + (1 : Int32)) := ⟨_, rfl⟩
  have pre5 : ∀ t, Steps p.tables e below (T2.setTop (mkF m 21 #[.val (.int x0), .val (.int x1), .val (.int r2), .val (.int v4), .unset, .unset, .unset, .unset, .unset, .unset] [(.int v4), (.int r2)])) t → Steps p.tables e below (s₁.setTop (entryFrame m #[(.int x0), (.int x1)] maxLocals)) t := fun t k => pre3 t (by
    subst hv4
    show Steps p.tables e below (T2.setTop (mkF m 8 #[.val (.int x0), .val (.int x1), .unset, .unset, .unset, .unset, .unset, .unset, .unset, .unset] [(.int r2)])) _
    refine XS.istoreN X2.here hx rfl (hb hby at_8) rfl (l' := #[.val (.int x0), .val (.int x1), .val (.int r2), .unset, .unset, .unset, .unset, .unset, .unset, .unset]) rfl ?_
    show Steps p.tables e below (T2.setTop (mkF m 9 #[.val (.int x0), .val (.int x1), .val (.int r2), .unset, .unset, .unset, .unset, .unset, .unset, .unset] [])) _
    refine XS.iloadN X2.here hx rfl (hb hby at_9) rfl ?_
    show Steps p.tables e below (T2.setTop (mkF m 10 #[.val (.int x0), .val (.int x1), .val (.int r2), .unset, .unset, .unset, .unset, .unset, .unset, .unset] [(.int x1)])) _
    refine X2.ldcInt hx hown (mvT hZ (hw _ (List.mem_of_getElem? (i := 0) rfl))) (g := (mkF m 10 #[.val (.int x0), .val (.int x1), .val (.int r2), .unset, .unset, .unset, .unset, .unset, .unset, .unset] [(.int x1)])) rfl (hb hby at_10) _ ?_
    show Steps p.tables e below (T2.setTop (mkF m 12 #[.val (.int x0), .val (.int x1), .val (.int r2), .unset, .unset, .unset, .unset, .unset, .unset, .unset] [(.int (2147483647 : Int32)), (.int x1)])) _
    refine XS.iand X2.here hx rfl (hb hby at_12) rfl ?_
    show Steps p.tables e below (T2.setTop (mkF m 13 #[.val (.int x0), .val (.int x1), .val (.int r2), .unset, .unset, .unset, .unset, .unset, .unset, .unset] [(.int (x1 &&& (2147483647 : Int32)))])) _
    refine XS.bipush X2.here hx rfl (hb hby at_13) ?_
    show Steps p.tables e below (T2.setTop (mkF m 15 #[.val (.int x0), .val (.int x1), .val (.int r2), .unset, .unset, .unset, .unset, .unset, .unset, .unset] [(.int (100 : Int32)), (.int (x1 &&& (2147483647 : Int32)))])) _
    refine iremM X2 hx rfl (hb hby at_15) rfl (by decide) ?_
    show Steps p.tables e below (T2.setTop (mkF m 16 #[.val (.int x0), .val (.int x1), .val (.int r2), .unset, .unset, .unset, .unset, .unset, .unset, .unset] [(.int ((x1 &&& (2147483647 : Int32)) % (100 : Int32)))])) _
    refine XS.iconst X2.here hx rfl (hb hby at_16) ?_
    show Steps p.tables e below (T2.setTop (mkF m 17 #[.val (.int x0), .val (.int x1), .val (.int r2), .unset, .unset, .unset, .unset, .unset, .unset, .unset] [(.int (1 : Int32)), (.int ((x1 &&& (2147483647 : Int32)) % (100 : Int32)))])) _
    refine XS.iadd X2.here hx rfl (hb hby at_17) rfl ?_
    show Steps p.tables e below (T2.setTop (mkF m 18 #[.val (.int x0), .val (.int x1), .val (.int r2), .unset, .unset, .unset, .unset, .unset, .unset, .unset] [(.int (((x1 &&& (2147483647 : Int32)) % (100 : Int32)) + (1 : Int32)))])) _
    refine XS.istoreN X2.here hx rfl (hb hby at_18) rfl (l' := #[.val (.int x0), .val (.int x1), .val (.int r2), .val (.int (((x1 &&& (2147483647 : Int32)) % (100 : Int32)) + (1 : Int32))), .unset, .unset, .unset, .unset, .unset, .unset]) rfl ?_
    show Steps p.tables e below (T2.setTop (mkF m 19 #[.val (.int x0), .val (.int x1), .val (.int r2), .val (.int (((x1 &&& (2147483647 : Int32)) % (100 : Int32)) + (1 : Int32))), .unset, .unset, .unset, .unset, .unset, .unset] [])) _
    refine XS.iloadN X2.here hx rfl (hb hby at_19) rfl ?_
    show Steps p.tables e below (T2.setTop (mkF m 20 #[.val (.int x0), .val (.int x1), .val (.int r2), .val (.int (((x1 &&& (2147483647 : Int32)) % (100 : Int32)) + (1 : Int32))), .unset, .unset, .unset, .unset, .unset, .unset] [(.int r2)])) _
    refine XS.iloadN X2.here hx rfl (hb hby at_20) rfl ?_
    show Steps p.tables e below (T2.setTop (mkF m 21 #[.val (.int x0), .val (.int x1), .val (.int r2), .val (.int (((x1 &&& (2147483647 : Int32)) % (100 : Int32)) + (1 : Int32))), .unset, .unset, .unset, .unset, .unset, .unset] [(.int (((x1 &&& (2147483647 : Int32)) % (100 : Int32)) + (1 : Int32))), (.int r2)])) _
    exact k)
  obtain ⟨_, _, ⟨T6, L6, k6, n6⟩, -, X6, ⟨Lc6, hQ6, l6, y6, z6⟩, st6⟩ := Jvm.LawKit.callS X2 hx (y := (⟨"com/example/circlet/circlet/Bench", "rank", "(II)I"⟩ : MethodName)) hown (mvT hZ (hw _ (List.mem_of_getElem? (i := 5) rfl))) (mvT hZ (hw _ (List.mem_of_getElem? (i := 6) rfl))) (mvT hZ (hw _ (List.mem_of_getElem? (i := 7) rfl))) (mvT hZ (hw _ (List.mem_of_getElem? (i := 8) rfl))) (by decide) (backOf (W := 0) (rm2 l Z a0 hw [] r2 v4  h0 n0 Z0 ) hZ (hw _ (List.mem_of_getElem? (i := 8) rfl)) (hw _ (List.mem_of_getElem? (i := 7) rfl)) (by decide) (by decide)) (g := (mkF m 21 #[.val (.int x0), .val (.int x1), .val (.int r2), .val (.int v4), .unset, .unset, .unset, .unset, .unset, .unset] [(.int v4), (.int r2)])) rfl (by rw [hml]; rfl) (argsL := [(.int r2), (.int v4)]) (rest := []) (lenOf pd_0 rfl) rfl (by show 2 * 0 + _ ≤ _; exact Nat.le_of_eq rfl) (hb hby at_21) (fun _ _ => ⟨rfl, e2, (by decide : 0 + 0 ≤ _), (by decide : 0 + 0 ≤ _)⟩)
  dsimp only [Pt.U, Pt.locs, Pt.cells, Pt.slots] at X6 l6 y6 z6 st6 hQ6
  subst l6 y6 z6
  obtain ⟨r6, rfl, N6q, e6, P6⟩ := hQ6
  have N6 := Fr.app N2 N6q
  have pre7 : ∀ t, Steps p.tables e below (T6.setTop (mkF m 24 #[.val (.int x0), .val (.int x1), .val (.int r2), .val (.int v4), .unset, .unset, .unset, .unset, .unset, .unset] [(.int r6)])) t → Steps p.tables e below (s₁.setTop (entryFrame m #[(.int x0), (.int x1)] maxLocals)) t := fun t k => pre5 t (st6 _ k)
  obtain ⟨v8, hv8⟩ : ∃ z : Int64, z = ((r2.toInt64) * (v4.toInt64)) := ⟨_, rfl⟩
  obtain ⟨v11, hv11⟩ : ∃ z : Int32, z = (if r6 < (1 : Int32) then (0 : Int32) else (if r2 < r6 then (0 : Int32) else (1 : Int32))) := ⟨_, rfl⟩
  have pre12 : ∀ t, Steps p.tables e below (T6.setTop (mkF m 50 #[.val (.int x0), .val (.int x1), .val (.int r2), .val (.int v4), .val (.int r6), .val (.long v8), .second, .unset, .unset, .unset] [(.int v11)])) t → Steps p.tables e below (s₁.setTop (entryFrame m #[(.int x0), (.int x1)] maxLocals)) t := fun t k => pre7 t (by
    subst hv8
    show Steps p.tables e below (T6.setTop (mkF m 24 #[.val (.int x0), .val (.int x1), .val (.int r2), .val (.int v4), .unset, .unset, .unset, .unset, .unset, .unset] [(.int r6)])) _
    refine XS.istore X6.here hx rfl (hb hby at_24) rfl (l' := #[.val (.int x0), .val (.int x1), .val (.int r2), .val (.int v4), .val (.int r6), .unset, .unset, .unset, .unset, .unset]) rfl ?_
    show Steps p.tables e below (T6.setTop (mkF m 26 #[.val (.int x0), .val (.int x1), .val (.int r2), .val (.int v4), .val (.int r6), .unset, .unset, .unset, .unset, .unset] [])) _
    refine XS.iloadN X6.here hx rfl (hb hby at_26) rfl ?_
    show Steps p.tables e below (T6.setTop (mkF m 27 #[.val (.int x0), .val (.int x1), .val (.int r2), .val (.int v4), .val (.int r6), .unset, .unset, .unset, .unset, .unset] [(.int r2)])) _
    refine XS.i2l X6.here hx rfl (hb hby at_27) rfl ?_
    show Steps p.tables e below (T6.setTop (mkF m 28 #[.val (.int x0), .val (.int x1), .val (.int r2), .val (.int v4), .val (.int r6), .unset, .unset, .unset, .unset, .unset] [(.long (r2.toInt64))])) _
    refine XS.iloadN X6.here hx rfl (hb hby at_28) rfl ?_
    show Steps p.tables e below (T6.setTop (mkF m 29 #[.val (.int x0), .val (.int x1), .val (.int r2), .val (.int v4), .val (.int r6), .unset, .unset, .unset, .unset, .unset] [(.int v4), (.long (r2.toInt64))])) _
    refine XS.i2l X6.here hx rfl (hb hby at_29) rfl ?_
    show Steps p.tables e below (T6.setTop (mkF m 30 #[.val (.int x0), .val (.int x1), .val (.int r2), .val (.int v4), .val (.int r6), .unset, .unset, .unset, .unset, .unset] [(.long (v4.toInt64)), (.long (r2.toInt64))])) _
    refine XS.lmul X6.here hx rfl (hb hby at_30) rfl ?_
    show Steps p.tables e below (T6.setTop (mkF m 31 #[.val (.int x0), .val (.int x1), .val (.int r2), .val (.int v4), .val (.int r6), .unset, .unset, .unset, .unset, .unset] [(.long ((r2.toInt64) * (v4.toInt64)))])) _
    refine XS.lstore X6.here hx rfl (hb hby at_31) rfl (l' := #[.val (.int x0), .val (.int x1), .val (.int r2), .val (.int v4), .val (.int r6), .val (.long ((r2.toInt64) * (v4.toInt64))), .second, .unset, .unset, .unset]) rfl ?_
    show Steps p.tables e below (T6.setTop (mkF m 33 #[.val (.int x0), .val (.int x1), .val (.int r2), .val (.int v4), .val (.int r6), .val (.long ((r2.toInt64) * (v4.toInt64))), .second, .unset, .unset, .unset] [])) _
    refine XS.iload X6.here hx rfl (hb hby at_33) rfl ?_
    show Steps p.tables e below (T6.setTop (mkF m 35 #[.val (.int x0), .val (.int x1), .val (.int r2), .val (.int v4), .val (.int r6), .val (.long ((r2.toInt64) * (v4.toInt64))), .second, .unset, .unset, .unset] [(.int r6)])) _
    refine XS.iconst X6.here hx rfl (hb hby at_35) ?_
    show Steps p.tables e below (T6.setTop (mkF m 36 #[.val (.int x0), .val (.int x1), .val (.int r2), .val (.int v4), .val (.int r6), .val (.long ((r2.toInt64) * (v4.toInt64))), .second, .unset, .unset, .unset] [(.int (1 : Int32)), (.int r6)])) _
    by_cases hc9 : r6 < (1 : Int32)
    · skip
      refine XS.icmpYes X6.here hx rfl (pc0 := 36) (pc' := 49) rfl (hb hby at_36) rfl (tlt hc9).1 (by decide) (by decide) ?_
      show Steps p.tables e below (T6.setTop (mkF m 49 #[.val (.int x0), .val (.int x1), .val (.int r2), .val (.int v4), .val (.int r6), .val (.long ((r2.toInt64) * (v4.toInt64))), .second, .unset, .unset, .unset] [])) _
      refine XS.iconst X6.here hx rfl (hb hby at_49) ?_
      show Steps p.tables e below (T6.setTop (mkF m 50 #[.val (.int x0), .val (.int x1), .val (.int r2), .val (.int v4), .val (.int r6), .val (.long ((r2.toInt64) * (v4.toInt64))), .second, .unset, .unset, .unset] [(.int (0 : Int32))])) _
      rw [show v11 = (0 : Int32) from by rw [hv11, if_pos hc9]] at k
      exact k
    · skip
      refine XS.icmpNo X6.here hx rfl (hb hby at_36) rfl (flt hc9).1 ?_
      show Steps p.tables e below (T6.setTop (mkF m 39 #[.val (.int x0), .val (.int x1), .val (.int r2), .val (.int v4), .val (.int r6), .val (.long ((r2.toInt64) * (v4.toInt64))), .second, .unset, .unset, .unset] [])) _
      refine XS.iload X6.here hx rfl (hb hby at_39) rfl ?_
      show Steps p.tables e below (T6.setTop (mkF m 41 #[.val (.int x0), .val (.int x1), .val (.int r2), .val (.int v4), .val (.int r6), .val (.long ((r2.toInt64) * (v4.toInt64))), .second, .unset, .unset, .unset] [(.int r6)])) _
      refine XS.iloadN X6.here hx rfl (hb hby at_41) rfl ?_
      show Steps p.tables e below (T6.setTop (mkF m 42 #[.val (.int x0), .val (.int x1), .val (.int r2), .val (.int v4), .val (.int r6), .val (.long ((r2.toInt64) * (v4.toInt64))), .second, .unset, .unset, .unset] [(.int r2), (.int r6)])) _
      by_cases hc10 : r2 < r6
      · skip
        refine XS.icmpYes X6.here hx rfl (pc0 := 42) (pc' := 49) rfl (hb hby at_42) rfl (tlt hc10).2.2.1 (by decide) (by decide) ?_
        show Steps p.tables e below (T6.setTop (mkF m 49 #[.val (.int x0), .val (.int x1), .val (.int r2), .val (.int v4), .val (.int r6), .val (.long ((r2.toInt64) * (v4.toInt64))), .second, .unset, .unset, .unset] [])) _
        refine XS.iconst X6.here hx rfl (hb hby at_49) ?_
        show Steps p.tables e below (T6.setTop (mkF m 50 #[.val (.int x0), .val (.int x1), .val (.int r2), .val (.int v4), .val (.int r6), .val (.long ((r2.toInt64) * (v4.toInt64))), .second, .unset, .unset, .unset] [(.int (0 : Int32))])) _
        rw [show v11 = (0 : Int32) from by rw [hv11, if_neg hc9, if_pos hc10]] at k
        exact k
      · skip
        refine XS.icmpNo X6.here hx rfl (hb hby at_42) rfl (flt hc10).2.2.1 ?_
        show Steps p.tables e below (T6.setTop (mkF m 45 #[.val (.int x0), .val (.int x1), .val (.int r2), .val (.int v4), .val (.int r6), .val (.long ((r2.toInt64) * (v4.toInt64))), .second, .unset, .unset, .unset] [])) _
        refine XS.iconst X6.here hx rfl (hb hby at_45) ?_
        show Steps p.tables e below (T6.setTop (mkF m 46 #[.val (.int x0), .val (.int x1), .val (.int r2), .val (.int v4), .val (.int r6), .val (.long ((r2.toInt64) * (v4.toInt64))), .second, .unset, .unset, .unset] [(.int (1 : Int32))])) _
        refine XS.goto X6.here hx rfl (pc0 := 46) (pc' := 50) rfl (hb hby at_46) (by decide) (by decide) ?_
        show Steps p.tables e below (T6.setTop (mkF m 50 #[.val (.int x0), .val (.int x1), .val (.int r2), .val (.int v4), .val (.int r6), .val (.long ((r2.toInt64) * (v4.toInt64))), .second, .unset, .unset, .unset] [(.int (1 : Int32))])) _
        rw [show v11 = (1 : Int32) from by rw [hv11, if_neg hc9, if_neg hc10]] at k
        exact k)
  obtain ⟨v14, hv14⟩ : ∃ z : Int32, z = (if ((100 : Int64) * (r6.toInt64)) < v8 then (0 : Int32) else (1 : Int32)) := ⟨_, rfl⟩
  have pre15 : ∀ t, Steps p.tables e below (T6.setTop (mkF m 70 #[.val (.int x0), .val (.int x1), .val (.int r2), .val (.int v4), .val (.int r6), .val (.long v8), .second, .val (.int v11), .unset, .unset] [(.int v14)])) t → Steps p.tables e below (s₁.setTop (entryFrame m #[(.int x0), (.int x1)] maxLocals)) t := fun t k => pre12 t (by
    show Steps p.tables e below (T6.setTop (mkF m 50 #[.val (.int x0), .val (.int x1), .val (.int r2), .val (.int v4), .val (.int r6), .val (.long v8), .second, .unset, .unset, .unset] [(.int v11)])) _
    refine XS.istore X6.here hx rfl (hb hby at_50) rfl (l' := #[.val (.int x0), .val (.int x1), .val (.int r2), .val (.int v4), .val (.int r6), .val (.long v8), .second, .val (.int v11), .unset, .unset]) rfl ?_
    show Steps p.tables e below (T6.setTop (mkF m 52 #[.val (.int x0), .val (.int x1), .val (.int r2), .val (.int v4), .val (.int r6), .val (.long v8), .second, .val (.int v11), .unset, .unset] [])) _
    refine X6.ldc2Long hx hown (mvT hZ (hw _ (List.mem_of_getElem? (i := 11) rfl))) (g := (mkF m 52 #[.val (.int x0), .val (.int x1), .val (.int r2), .val (.int v4), .val (.int r6), .val (.long v8), .second, .val (.int v11), .unset, .unset] [])) rfl (hb hby at_52) _ ?_
    show Steps p.tables e below (T6.setTop (mkF m 55 #[.val (.int x0), .val (.int x1), .val (.int r2), .val (.int v4), .val (.int r6), .val (.long v8), .second, .val (.int v11), .unset, .unset] [(.long (100 : Int64))])) _
    refine XS.iload X6.here hx rfl (hb hby at_55) rfl ?_
    show Steps p.tables e below (T6.setTop (mkF m 57 #[.val (.int x0), .val (.int x1), .val (.int r2), .val (.int v4), .val (.int r6), .val (.long v8), .second, .val (.int v11), .unset, .unset] [(.int r6), (.long (100 : Int64))])) _
    refine XS.i2l X6.here hx rfl (hb hby at_57) rfl ?_
    show Steps p.tables e below (T6.setTop (mkF m 58 #[.val (.int x0), .val (.int x1), .val (.int r2), .val (.int v4), .val (.int r6), .val (.long v8), .second, .val (.int v11), .unset, .unset] [(.long (r6.toInt64)), (.long (100 : Int64))])) _
    refine XS.lmul X6.here hx rfl (hb hby at_58) rfl ?_
    show Steps p.tables e below (T6.setTop (mkF m 59 #[.val (.int x0), .val (.int x1), .val (.int r2), .val (.int v4), .val (.int r6), .val (.long v8), .second, .val (.int v11), .unset, .unset] [(.long ((100 : Int64) * (r6.toInt64)))])) _
    refine XS.lload X6.here hx rfl (hb hby at_59) rfl ?_
    show Steps p.tables e below (T6.setTop (mkF m 61 #[.val (.int x0), .val (.int x1), .val (.int r2), .val (.int v4), .val (.int r6), .val (.long v8), .second, .val (.int v11), .unset, .unset] [(.long v8), (.long ((100 : Int64) * (r6.toInt64)))])) _
    refine XS.lcmp X6.here hx rfl (hb hby at_61) rfl ?_
    show Steps p.tables e below (T6.setTop (mkF m 62 #[.val (.int x0), .val (.int x1), .val (.int r2), .val (.int v4), .val (.int r6), .val (.long v8), .second, .val (.int v11), .unset, .unset] [(.int (lcmpW ((100 : Int64) * (r6.toInt64)) v8))])) _
    by_cases hc13 : ((100 : Int64) * (r6.toInt64)) < v8
    · skip
      refine XS.ifYes X6.here hx rfl (pc0 := 62) (pc' := 69) rfl (hb hby at_62) rfl ((if0 _ _).trans (tlt ((lw_lt _ _).mpr hc13)).1) (by decide) (by decide) ?_
      show Steps p.tables e below (T6.setTop (mkF m 69 #[.val (.int x0), .val (.int x1), .val (.int r2), .val (.int v4), .val (.int r6), .val (.long v8), .second, .val (.int v11), .unset, .unset] [])) _
      refine XS.iconst X6.here hx rfl (hb hby at_69) ?_
      show Steps p.tables e below (T6.setTop (mkF m 70 #[.val (.int x0), .val (.int x1), .val (.int r2), .val (.int v4), .val (.int r6), .val (.long v8), .second, .val (.int v11), .unset, .unset] [(.int (0 : Int32))])) _
      rw [show v14 = (0 : Int32) from by rw [hv14, if_pos hc13]] at k
      exact k
    · skip
      refine XS.ifNo X6.here hx rfl (hb hby at_62) rfl ((if0 _ _).trans (flt (fun q => hc13 ((lw_lt _ _).mp q))).1) ?_
      show Steps p.tables e below (T6.setTop (mkF m 65 #[.val (.int x0), .val (.int x1), .val (.int r2), .val (.int v4), .val (.int r6), .val (.long v8), .second, .val (.int v11), .unset, .unset] [])) _
      refine XS.iconst X6.here hx rfl (hb hby at_65) ?_
      show Steps p.tables e below (T6.setTop (mkF m 66 #[.val (.int x0), .val (.int x1), .val (.int r2), .val (.int v4), .val (.int r6), .val (.long v8), .second, .val (.int v11), .unset, .unset] [(.int (1 : Int32))])) _
      refine XS.goto X6.here hx rfl (pc0 := 66) (pc' := 70) rfl (hb hby at_66) (by decide) (by decide) ?_
      show Steps p.tables e below (T6.setTop (mkF m 70 #[.val (.int x0), .val (.int x1), .val (.int r2), .val (.int v4), .val (.int r6), .val (.long v8), .second, .val (.int v11), .unset, .unset] [(.int (1 : Int32))])) _
      rw [show v14 = (1 : Int32) from by rw [hv14, if_neg hc13]] at k
      exact k)
  obtain ⟨v17, hv17⟩ : ∃ z : Int32, z = (if ((100 : Int64) * ((r6.toInt64) - (1 : Int64))) < v8 then (1 : Int32) else (0 : Int32)) := ⟨_, rfl⟩
  have pre18 : ∀ t, Steps p.tables e below (T6.setTop (mkF m 92 #[.val (.int x0), .val (.int x1), .val (.int r2), .val (.int v4), .val (.int r6), .val (.long v8), .second, .val (.int v11), .val (.int v14), .unset] [(.int v17)])) t → Steps p.tables e below (s₁.setTop (entryFrame m #[(.int x0), (.int x1)] maxLocals)) t := fun t k => pre15 t (by
    show Steps p.tables e below (T6.setTop (mkF m 70 #[.val (.int x0), .val (.int x1), .val (.int r2), .val (.int v4), .val (.int r6), .val (.long v8), .second, .val (.int v11), .unset, .unset] [(.int v14)])) _
    refine XS.istore X6.here hx rfl (hb hby at_70) rfl (l' := #[.val (.int x0), .val (.int x1), .val (.int r2), .val (.int v4), .val (.int r6), .val (.long v8), .second, .val (.int v11), .val (.int v14), .unset]) rfl ?_
    show Steps p.tables e below (T6.setTop (mkF m 72 #[.val (.int x0), .val (.int x1), .val (.int r2), .val (.int v4), .val (.int r6), .val (.long v8), .second, .val (.int v11), .val (.int v14), .unset] [])) _
    refine X6.ldc2Long hx hown (mvT hZ (hw _ (List.mem_of_getElem? (i := 11) rfl))) (g := (mkF m 72 #[.val (.int x0), .val (.int x1), .val (.int r2), .val (.int v4), .val (.int r6), .val (.long v8), .second, .val (.int v11), .val (.int v14), .unset] [])) rfl (hb hby at_72) _ ?_
    show Steps p.tables e below (T6.setTop (mkF m 75 #[.val (.int x0), .val (.int x1), .val (.int r2), .val (.int v4), .val (.int r6), .val (.long v8), .second, .val (.int v11), .val (.int v14), .unset] [(.long (100 : Int64))])) _
    refine XS.iload X6.here hx rfl (hb hby at_75) rfl ?_
    show Steps p.tables e below (T6.setTop (mkF m 77 #[.val (.int x0), .val (.int x1), .val (.int r2), .val (.int v4), .val (.int r6), .val (.long v8), .second, .val (.int v11), .val (.int v14), .unset] [(.int r6), (.long (100 : Int64))])) _
    refine XS.i2l X6.here hx rfl (hb hby at_77) rfl ?_
    show Steps p.tables e below (T6.setTop (mkF m 78 #[.val (.int x0), .val (.int x1), .val (.int r2), .val (.int v4), .val (.int r6), .val (.long v8), .second, .val (.int v11), .val (.int v14), .unset] [(.long (r6.toInt64)), (.long (100 : Int64))])) _
    refine XS.lconst X6.here hx rfl (hb hby at_78) ?_
    show Steps p.tables e below (T6.setTop (mkF m 79 #[.val (.int x0), .val (.int x1), .val (.int r2), .val (.int v4), .val (.int r6), .val (.long v8), .second, .val (.int v11), .val (.int v14), .unset] [(.long (1 : Int64)), (.long (r6.toInt64)), (.long (100 : Int64))])) _
    refine XS.lsub X6.here hx rfl (hb hby at_79) rfl ?_
    show Steps p.tables e below (T6.setTop (mkF m 80 #[.val (.int x0), .val (.int x1), .val (.int r2), .val (.int v4), .val (.int r6), .val (.long v8), .second, .val (.int v11), .val (.int v14), .unset] [(.long ((r6.toInt64) - (1 : Int64))), (.long (100 : Int64))])) _
    refine XS.lmul X6.here hx rfl (hb hby at_80) rfl ?_
    show Steps p.tables e below (T6.setTop (mkF m 81 #[.val (.int x0), .val (.int x1), .val (.int r2), .val (.int v4), .val (.int r6), .val (.long v8), .second, .val (.int v11), .val (.int v14), .unset] [(.long ((100 : Int64) * ((r6.toInt64) - (1 : Int64))))])) _
    refine XS.lload X6.here hx rfl (hb hby at_81) rfl ?_
    show Steps p.tables e below (T6.setTop (mkF m 83 #[.val (.int x0), .val (.int x1), .val (.int r2), .val (.int v4), .val (.int r6), .val (.long v8), .second, .val (.int v11), .val (.int v14), .unset] [(.long v8), (.long ((100 : Int64) * ((r6.toInt64) - (1 : Int64))))])) _
    refine XS.lcmp X6.here hx rfl (hb hby at_83) rfl ?_
    show Steps p.tables e below (T6.setTop (mkF m 84 #[.val (.int x0), .val (.int x1), .val (.int r2), .val (.int v4), .val (.int r6), .val (.long v8), .second, .val (.int v11), .val (.int v14), .unset] [(.int (lcmpW ((100 : Int64) * ((r6.toInt64) - (1 : Int64))) v8))])) _
    by_cases hc16 : ((100 : Int64) * ((r6.toInt64) - (1 : Int64))) < v8
    · skip
      refine XS.ifNo X6.here hx rfl (hb hby at_84) rfl ((if0 _ _).trans (tlt ((lw_lt _ _).mpr hc16)).2.1) ?_
      show Steps p.tables e below (T6.setTop (mkF m 87 #[.val (.int x0), .val (.int x1), .val (.int r2), .val (.int v4), .val (.int r6), .val (.long v8), .second, .val (.int v11), .val (.int v14), .unset] [])) _
      refine XS.iconst X6.here hx rfl (hb hby at_87) ?_
      show Steps p.tables e below (T6.setTop (mkF m 88 #[.val (.int x0), .val (.int x1), .val (.int r2), .val (.int v4), .val (.int r6), .val (.long v8), .second, .val (.int v11), .val (.int v14), .unset] [(.int (1 : Int32))])) _
      refine XS.goto X6.here hx rfl (pc0 := 88) (pc' := 92) rfl (hb hby at_88) (by decide) (by decide) ?_
      show Steps p.tables e below (T6.setTop (mkF m 92 #[.val (.int x0), .val (.int x1), .val (.int r2), .val (.int v4), .val (.int r6), .val (.long v8), .second, .val (.int v11), .val (.int v14), .unset] [(.int (1 : Int32))])) _
      rw [show v17 = (1 : Int32) from by rw [hv17, if_pos hc16]] at k
      exact k
    · skip
      refine XS.ifYes X6.here hx rfl (pc0 := 84) (pc' := 91) rfl (hb hby at_84) rfl ((if0 _ _).trans (flt (fun q => hc16 ((lw_lt _ _).mp q))).2.1) (by decide) (by decide) ?_
      show Steps p.tables e below (T6.setTop (mkF m 91 #[.val (.int x0), .val (.int x1), .val (.int r2), .val (.int v4), .val (.int r6), .val (.long v8), .second, .val (.int v11), .val (.int v14), .unset] [])) _
      refine XS.iconst X6.here hx rfl (hb hby at_91) ?_
      show Steps p.tables e below (T6.setTop (mkF m 92 #[.val (.int x0), .val (.int x1), .val (.int r2), .val (.int v4), .val (.int r6), .val (.long v8), .second, .val (.int v11), .val (.int v14), .unset] [(.int (0 : Int32))])) _
      rw [show v17 = (0 : Int32) from by rw [hv17, if_neg hc16]] at k
      exact k)
  obtain ⟨v22, hv22⟩ : ∃ z : Int32, z = (if v11 = (0 : Int32) then (0 : Int32) else (if v14 = (0 : Int32) then (0 : Int32) else (if v17 = (0 : Int32) then (0 : Int32) else (1 : Int32)))) := ⟨_, rfl⟩
  have pre23 : ∀ t, Steps p.tables e below (T6.setTop (mkF m 114 #[.val (.int x0), .val (.int x1), .val (.int r2), .val (.int v4), .val (.int r6), .val (.long v8), .second, .val (.int v11), .val (.int v14), .val (.int v17)] [(.int v22)])) t → Steps p.tables e below (s₁.setTop (entryFrame m #[(.int x0), (.int x1)] maxLocals)) t := fun t k => pre18 t (by
    show Steps p.tables e below (T6.setTop (mkF m 92 #[.val (.int x0), .val (.int x1), .val (.int r2), .val (.int v4), .val (.int r6), .val (.long v8), .second, .val (.int v11), .val (.int v14), .unset] [(.int v17)])) _
    refine XS.istore X6.here hx rfl (hb hby at_92) rfl (l' := #[.val (.int x0), .val (.int x1), .val (.int r2), .val (.int v4), .val (.int r6), .val (.long v8), .second, .val (.int v11), .val (.int v14), .val (.int v17)]) rfl ?_
    show Steps p.tables e below (T6.setTop (mkF m 94 #[.val (.int x0), .val (.int x1), .val (.int r2), .val (.int v4), .val (.int r6), .val (.long v8), .second, .val (.int v11), .val (.int v14), .val (.int v17)] [])) _
    refine XS.iload X6.here hx rfl (hb hby at_94) rfl ?_
    show Steps p.tables e below (T6.setTop (mkF m 96 #[.val (.int x0), .val (.int x1), .val (.int r2), .val (.int v4), .val (.int r6), .val (.long v8), .second, .val (.int v11), .val (.int v14), .val (.int v17)] [(.int v11)])) _
    by_cases hc19 : v11 = (0 : Int32)
    · skip
      refine XS.ifYes X6.here hx rfl (pc0 := 96) (pc' := 113) rfl (hb hby at_96) rfl ((if0 _ _).trans (teq hc19).1) (by decide) (by decide) ?_
      show Steps p.tables e below (T6.setTop (mkF m 113 #[.val (.int x0), .val (.int x1), .val (.int r2), .val (.int v4), .val (.int r6), .val (.long v8), .second, .val (.int v11), .val (.int v14), .val (.int v17)] [])) _
      refine XS.iconst X6.here hx rfl (hb hby at_113) ?_
      show Steps p.tables e below (T6.setTop (mkF m 114 #[.val (.int x0), .val (.int x1), .val (.int r2), .val (.int v4), .val (.int r6), .val (.long v8), .second, .val (.int v11), .val (.int v14), .val (.int v17)] [(.int (0 : Int32))])) _
      rw [show v22 = (0 : Int32) from by rw [hv22, if_pos hc19]] at k
      exact k
    · skip
      refine XS.ifNo X6.here hx rfl (hb hby at_96) rfl ((if0 _ _).trans (feq hc19).1) ?_
      show Steps p.tables e below (T6.setTop (mkF m 99 #[.val (.int x0), .val (.int x1), .val (.int r2), .val (.int v4), .val (.int r6), .val (.long v8), .second, .val (.int v11), .val (.int v14), .val (.int v17)] [])) _
      refine XS.iload X6.here hx rfl (hb hby at_99) rfl ?_
      show Steps p.tables e below (T6.setTop (mkF m 101 #[.val (.int x0), .val (.int x1), .val (.int r2), .val (.int v4), .val (.int r6), .val (.long v8), .second, .val (.int v11), .val (.int v14), .val (.int v17)] [(.int v14)])) _
      by_cases hc20 : v14 = (0 : Int32)
      · skip
        refine XS.ifYes X6.here hx rfl (pc0 := 101) (pc' := 113) rfl (hb hby at_101) rfl ((if0 _ _).trans (teq hc20).1) (by decide) (by decide) ?_
        show Steps p.tables e below (T6.setTop (mkF m 113 #[.val (.int x0), .val (.int x1), .val (.int r2), .val (.int v4), .val (.int r6), .val (.long v8), .second, .val (.int v11), .val (.int v14), .val (.int v17)] [])) _
        refine XS.iconst X6.here hx rfl (hb hby at_113) ?_
        show Steps p.tables e below (T6.setTop (mkF m 114 #[.val (.int x0), .val (.int x1), .val (.int r2), .val (.int v4), .val (.int r6), .val (.long v8), .second, .val (.int v11), .val (.int v14), .val (.int v17)] [(.int (0 : Int32))])) _
        rw [show v22 = (0 : Int32) from by rw [hv22, if_neg hc19, if_pos hc20]] at k
        exact k
      · skip
        refine XS.ifNo X6.here hx rfl (hb hby at_101) rfl ((if0 _ _).trans (feq hc20).1) ?_
        show Steps p.tables e below (T6.setTop (mkF m 104 #[.val (.int x0), .val (.int x1), .val (.int r2), .val (.int v4), .val (.int r6), .val (.long v8), .second, .val (.int v11), .val (.int v14), .val (.int v17)] [])) _
        refine XS.iload X6.here hx rfl (hb hby at_104) rfl ?_
        show Steps p.tables e below (T6.setTop (mkF m 106 #[.val (.int x0), .val (.int x1), .val (.int r2), .val (.int v4), .val (.int r6), .val (.long v8), .second, .val (.int v11), .val (.int v14), .val (.int v17)] [(.int v17)])) _
        by_cases hc21 : v17 = (0 : Int32)
        · skip
          refine XS.ifYes X6.here hx rfl (pc0 := 106) (pc' := 113) rfl (hb hby at_106) rfl ((if0 _ _).trans (teq hc21).1) (by decide) (by decide) ?_
          show Steps p.tables e below (T6.setTop (mkF m 113 #[.val (.int x0), .val (.int x1), .val (.int r2), .val (.int v4), .val (.int r6), .val (.long v8), .second, .val (.int v11), .val (.int v14), .val (.int v17)] [])) _
          refine XS.iconst X6.here hx rfl (hb hby at_113) ?_
          show Steps p.tables e below (T6.setTop (mkF m 114 #[.val (.int x0), .val (.int x1), .val (.int r2), .val (.int v4), .val (.int r6), .val (.long v8), .second, .val (.int v11), .val (.int v14), .val (.int v17)] [(.int (0 : Int32))])) _
          rw [show v22 = (0 : Int32) from by rw [hv22, if_neg hc19, if_neg hc20, if_pos hc21]] at k
          exact k
        · skip
          refine XS.ifNo X6.here hx rfl (hb hby at_106) rfl ((if0 _ _).trans (feq hc21).1) ?_
          show Steps p.tables e below (T6.setTop (mkF m 109 #[.val (.int x0), .val (.int x1), .val (.int r2), .val (.int v4), .val (.int r6), .val (.long v8), .second, .val (.int v11), .val (.int v14), .val (.int v17)] [])) _
          refine XS.iconst X6.here hx rfl (hb hby at_109) ?_
          show Steps p.tables e below (T6.setTop (mkF m 110 #[.val (.int x0), .val (.int x1), .val (.int r2), .val (.int v4), .val (.int r6), .val (.long v8), .second, .val (.int v11), .val (.int v14), .val (.int v17)] [(.int (1 : Int32))])) _
          refine XS.goto X6.here hx rfl (pc0 := 110) (pc' := 114) rfl (hb hby at_110) (by decide) (by decide) ?_
          show Steps p.tables e below (T6.setTop (mkF m 114 #[.val (.int x0), .val (.int x1), .val (.int r2), .val (.int v4), .val (.int r6), .val (.long v8), .second, .val (.int v11), .val (.int v14), .val (.int v17)] [(.int (1 : Int32))])) _
          rw [show v22 = (1 : Int32) from by rw [hv22, if_neg hc19, if_neg hc20, if_neg hc21]] at k
          exact k)
  obtain rfl : v22 = (1 : Int32) := by exact own_fin x0 x1 r2 v4 r6 v8 v11 v14 v17 v22 P2 hv4 P6 hv8 hv11 hv14 hv17 hv22
  obtain ⟨fs, hr, hrun, hended, hW, hsame⟩ := X6.leave (v := some (.int (1 : Int32))) (fun h => by rw [Bd.returns] at h; cases h)
  refine ⟨_, _, pre23 _ ?_, hrun, hended, _, _, rfl, ?_, ⟨_, rfl⟩, hW, hsame.mono (by decide) (by decide)⟩
  · show Steps p.tables e below (T6.setTop (mkF m 114 #[.val (.int x0), .val (.int x1), .val (.int r2), .val (.int v4), .val (.int r6), .val (.long v8), .second, .val (.int v11), .val (.int v14), .val (.int v17)] [(.int (1 : Int32))])) _
    exact retN X6 hx (t := .boolean) Bd.returns (by simp) (hb hby at_114) hr
  · show Q0 Z x0 x1 h0 n0 _ T6.heap _
    rw [e6]
    exact ⟨rfl, N6⟩
set_option maxRecDepth 65536 in
set_option maxHeartbeats 40000000 in
theorem comes_1 {Post : Tables → Env → Array Value → State → Outcome → State → Prop} (hpost : ∀ tb e args s v u, (limb_1_1.after args s (.returned v) u = true ∧ limb_1_2.after args s (.returned v) u = true ∧ True) → FrameEnd s (.returned v) u (Jvm.fieldLocs frame_1_writes args s ++ Jvm.arrayLocs frame_1_arrays args s ++ Jvm.staticLocs frame_1_statics s) 0 0 → Post tb e args s (.returned v) u) :
    ArmFor flags0 classFile x code maxLocals ret World_1 tables_1 room_1 Calls_1 rest_1 Pre_1 Post := by
  intro l hfl _ _ p e ha hc hk s m args below hf hA hF happ hP
  obtain ⟨hcalls, hrest, hpre⟩ := hP
  obtain ⟨-, -, -, hnamed, -, -, -, hat⟩ := (Spec.applies_iff hf).mp happ
  obtain ⟨hg, hn⟩ := and_e (Cond.before_iff.mp (show (Jvm.Cond.and given_1 narrow_1).before args s = true from hpre))
  obtain ⟨hcount, hg0⟩ := and_e hg
  obtain ⟨ha0, hg1⟩ := and_e hg0
  have ha1 := hg1
  obtain ⟨w0, w1, rfl⟩ : ∃ w0 w1 : Value, args = #[w0, w1] := by
    have hs : args.size = 2 := by simpa [Cond.value, given_1] using hcount
    obtain ⟨L⟩ := args
    match L, hs with
    | [w0, w1], _ => exact ⟨w0, w1, rfl⟩
  have hw := fun d (hd : d ∈ tables_1) => atoms_spec (ws := Jvm.Cond.code x code maxLocals ret :: tables_1) hat d (List.mem_cons_of_mem _ hd)
  obtain ⟨i0, ei0⟩ := is_v ha0
  obtain rfl : w0 = (.int i0) := Option.some.inj ei0
  obtain ⟨i1, ei1⟩ := is_v ha1
  obtain rfl : w1 = (.int i1) := Option.some.inj ei1
  obtain ⟨n, o, h1, h2, h3, _, L, rfl, ⟨rfl, N⟩, hq⟩ := rm0 l s _ hw tables_1 i0 i1  s.heap s.heap.size (Nat.le_refl _) p e ha hc hk s m _ below hf ((Spec.applies_iff_loose hf).mp happ).1 ⟨rfl, State.Warmed39.refl s, rfl⟩ trivial
  refine ⟨n, _, h1, h2, h3, hpost _ _ _ _ _ _ ⟨Cond.after_iff.mpr rfl, Cond.after_iff.mpr (eq_i res_at (Term.int_eval (1)) rfl), trivial⟩ ⟨hq.1, hq.2.1, (hq.2.2.sift fun y hy => Or.inr (N y hy)).mono (by decide) (by decide)⟩⟩
theorem main_1_1 : Claimed_1_1 := comes_1 fun _ _ _ _ _ _ h hF => ⟨h.1, hF⟩
theorem main_1_2 : Claimed_1_2 := comes_1 fun _ _ _ _ _ _ h hF => ⟨h.2.1, hF⟩
end Jvm.Pilot.@@N@@
namespace Jvm.Pilot.@@N@@
open Jvm Jvm.ClassFile Sem Op Lib Jvm.Free Jvm.Stand Jvm.Pilot.@@N@@.Jvm.D
/-! MADE BY PROGRAM (witnessworld.py) out of the Statement's table words and the real class files: 10 classes; the members and pool entries that the words name. The judged class is class 1, her method 1. -/
namespace start1
open Jvm.ClassFile
def u (s : String) : CpInfo := .utf8 (stringToUtf16 s)
/-- a pool by its gaps: so many unusable entries, then the entry; so many at the end -/
def gap : Nat → List CpInfo → List CpInfo
  | 0, r => r
  | n + 1, r => .unusable :: gap n r
def poolList (es : List (Nat × CpInfo)) (last : Nat) : List CpInfo := es.foldr (fun e r => gap e.1 (e.2 :: r)) (gap last [])
def pool (es : List (Nat × CpInfo)) (last : Nat) : Array CpInfo := ⟨poolList es last⟩
def fileOf (pool : Array CpInfo) (this : Nat) (attrs : Array Attribute := #[]) (ms : Array MethodInfo := #[]) (fl : Nat := 33) (sup : Nat := 0) (ifs : Array Nat := #[]) (fds : Array FieldInfo := #[]) : ClassFile where
  minorVersion := 0
  majorVersion := 65
  constantPool := pool
  accessFlags := fl
  thisClass := this
  superClass := sup
  interfaces := ifs
  fields := fds
  methods := ms
  attributes := attrs
def plain (name : String) (sup : Option ClassId) : Class where
  name := name
  kind := .ordinary
  loader := none
  accessFlags := 33
  super := sup
  interfaces := #[]
  cf := none
  fields := #[]
  methods := #[]
  instanceTypes := #[]
  staticTypes := #[]
  resolved := #[]
  callSites := []
  init := .initialized
  statics := none
  mirror := none

def pool0 : Array CpInfo := pool [(5, u "<init>"), (0, u "()V"), (1, .class_ 10), (1, u "java/lang/Object")] 113

def k0m0 : Method := { name := "<init>", desc := "()V", sig := { parameters := [], returnType := none }, accessFlags := 1, code := none }
/-- java/lang/Object -/
def k0 : Class := { plain "java/lang/Object" none with
  accessFlags := 33
  interfaces := #[]
  cf := some (fileOf pool0 8 #[] #[{ accessFlags := 1, nameIndex := 5, descriptorIndex := 6, attributes := #[] }] 33 0 #[] #[])
  fields := #[]
  methods := #[k0m0]
  instanceTypes := #[]
  staticTypes := #[]
  resolved := Array.replicate 124 none
  statics := none }

def pool1 : Array CpInfo := pool [(2, .class_ 4), (1, u "java/lang/Object"), (0, u "<init>"), (0, u "()V"), (0, .integer 2147483647), (0, .methodref 9 10), (0, .class_ 11), (0, .nameAndType 12 13), (0, u "java/lang/Math"), (0, u "max"), (0, u "(II)I"), (0, .methodref 15 16), (0, .class_ 17), (0, .nameAndType 18 13), (0, u "com/example/circlet/circlet/Bench"), (0, u "rank"), (0, .long 100), (1, .class_ 22), (0, u "com/example/circlet/circlet/BenchRankPinLaw"), (2, u "law"), (0, u "(II)Z")] 3

def k1m0 : Method := { name := "<init>", desc := "()V", sig := { parameters := [], returnType := none }, accessFlags := 2, code := none }
def k1c1 : Code := { maxStack := 6, maxLocals := 10, code := code, exceptionTable := #[], attributes := #[] }
def k1m1 : Method := { name := "law", desc := "(II)Z", sig := { parameters := [.int, .int], returnType := some .boolean }, accessFlags := 9, code := some k1c1 }
/-- com/example/circlet/circlet/BenchRankPinLaw -/
def k1 : Class := { plain "com/example/circlet/circlet/BenchRankPinLaw" (some 0) with
  accessFlags := 49
  interfaces := #[]
  cf := some (fileOf pool1 21 #[] #[{ accessFlags := 2, nameIndex := 5, descriptorIndex := 6, attributes := #[] }, { accessFlags := 9, nameIndex := 25, descriptorIndex := 26, attributes := #[] }] 49 2 #[] #[])
  fields := #[]
  methods := #[k1m0, k1m1]
  instanceTypes := #[]
  staticTypes := #[]
  resolved := Array.replicate 30 none
  statics := none }

def pool2 : Array CpInfo := pool [(1, .class_ 2), (0, u "java/lang/Math"), (1, .class_ 6), (1, u "java/lang/Object"), (0, u "<init>"), (0, u "()V"), (89, .class_ 100), (1, u "java/lang/Math$RandomNumberGeneratorHolder"), (71, u "negativeZeroFloatBits"), (0, u "J"), (2, u "negativeZeroDoubleBits"), (21, u "max"), (46, u "$assertionsDisabled"), (0, u "Z"), (88, u "(II)I"), (2, u "twoToTheDoubleScaleDown"), (0, u "D"), (4, u "twoToTheDoubleScaleUp"), (9, u "E"), (3, u "PI"), (2, u "TAU"), (2, u "DEGREES_TO_RADIANS"), (0, u "RADIANS_TO_DEGREES")] 94

def k2m0 : Method := { name := "<init>", desc := "()V", sig := { parameters := [], returnType := none }, accessFlags := 2, code := none }
def k2c1 : Code := { maxStack := 2, maxLocals := 2, code := jdk_29_method_65_code, exceptionTable := #[], attributes := #[] }
def k2m1 : Method := { name := "max", desc := "(II)I", sig := { parameters := [.int, .int], returnType := some .int }, accessFlags := 9, code := some k2c1 }
/-- java/lang/Math -/
def k2 : Class := { plain "java/lang/Math" (some 0) with
  accessFlags := 49
  interfaces := #[]
  cf := some (fileOf pool2 1 #[.nestMembers #[98]] #[{ accessFlags := 2, nameIndex := 7, descriptorIndex := 8, attributes := #[] }, { accessFlags := 9, nameIndex := 198, descriptorIndex := 335, attributes := #[] }] 49 4 #[] #[{ accessFlags := 25, nameIndex := 354, descriptorIndex := 339, attributes := #[] }, { accessFlags := 25, nameIndex := 358, descriptorIndex := 339, attributes := #[] }, { accessFlags := 25, nameIndex := 361, descriptorIndex := 339, attributes := #[] }, { accessFlags := 26, nameIndex := 364, descriptorIndex := 339, attributes := #[] }, { accessFlags := 26, nameIndex := 365, descriptorIndex := 339, attributes := #[] }, { accessFlags := 26, nameIndex := 172, descriptorIndex := 173, attributes := #[] }, { accessFlags := 26, nameIndex := 176, descriptorIndex := 173, attributes := #[] }, { accessFlags := 8, nameIndex := 344, descriptorIndex := 339, attributes := #[] }, { accessFlags := 8, nameIndex := 338, descriptorIndex := 339, attributes := #[] }, { accessFlags := 4120, nameIndex := 245, descriptorIndex := 246, attributes := #[] }])
  fields := #[{ name := "E", type := .double, accessFlags := 25, slot := 0, constantValue := 0 }, { name := "PI", type := .double, accessFlags := 25, slot := 1, constantValue := 0 }, { name := "TAU", type := .double, accessFlags := 25, slot := 2, constantValue := 0 }, { name := "DEGREES_TO_RADIANS", type := .double, accessFlags := 26, slot := 3, constantValue := 0 }, { name := "RADIANS_TO_DEGREES", type := .double, accessFlags := 26, slot := 4, constantValue := 0 }, { name := "negativeZeroFloatBits", type := .long, accessFlags := 26, slot := 5, constantValue := 0 }, { name := "negativeZeroDoubleBits", type := .long, accessFlags := 26, slot := 6, constantValue := 0 }, { name := "twoToTheDoubleScaleUp", type := .double, accessFlags := 8, slot := 7, constantValue := 0 }, { name := "twoToTheDoubleScaleDown", type := .double, accessFlags := 8, slot := 8, constantValue := 0 }, { name := "$assertionsDisabled", type := .boolean, accessFlags := 4120, slot := 9, constantValue := 0 }]
  methods := #[k2m0, k2m1]
  instanceTypes := #[]
  staticTypes := #[.double, .double, .double, .double, .double, .long, .long, .double, .double, .boolean]
  resolved := Array.replicate 460 none
  statics := none }

def pool3 : Array CpInfo := pool [(2, .class_ 4), (1, u "java/lang/Object"), (3, .class_ 10), (1, u "com/example/circlet/circlet/Bench"), (0, u "count"), (0, u "I"), (2, u "keys"), (2, u "stopShare"), (0, u "Ljava/math/BigDecimal;"), (2, u "seed"), (0, u "J"), (2, u "basePort"), (89, .class_ 118), (1, u "com/example/circlet/circlet/Bench$Gets"), (69, u "Ljava/time/Duration;"), (38, u "SETTLE_LIMIT"), (39, u "SETTLE_POLL"), (64, u "(II)I"), (48, u "REQUEST_PATIENCE"), (55, u "rank"), (0, .long 99), (1, .long 100), (51, u "DEFAULT_BASE_PORT"), (2, u "MAX_KEYS"), (1, u "NODE_THREADS"), (1, u "KV"), (0, u "Ljava/lang/String;")] 72

def k3c0 : Code := { maxStack := 4, maxLocals := 2, code := prog_3_method_17_code, exceptionTable := #[], attributes := #[] }
def k3m0 : Method := { name := "rank", desc := "(II)I", sig := { parameters := [.int, .int], returnType := some .int }, accessFlags := 8, code := some k3c0 }
/-- com/example/circlet/circlet/Bench -/
def k3 : Class := { plain "com/example/circlet/circlet/Bench" (some 0) with
  accessFlags := 48
  interfaces := #[]
  cf := some (fileOf pool3 8 #[.nestMembers #[116]] #[{ accessFlags := 8, nameIndex := 437, descriptorIndex := 332, attributes := #[] }] 48 2 #[] #[{ accessFlags := 24, nameIndex := 492, descriptorIndex := 12, attributes := #[] }, { accessFlags := 24, nameIndex := 495, descriptorIndex := 12, attributes := #[] }, { accessFlags := 26, nameIndex := 227, descriptorIndex := 188, attributes := #[] }, { accessFlags := 26, nameIndex := 267, descriptorIndex := 188, attributes := #[] }, { accessFlags := 26, nameIndex := 381, descriptorIndex := 188, attributes := #[] }, { accessFlags := 26, nameIndex := 497, descriptorIndex := 12, attributes := #[] }, { accessFlags := 26, nameIndex := 499, descriptorIndex := 500, attributes := #[] }, { accessFlags := 18, nameIndex := 11, descriptorIndex := 12, attributes := #[] }, { accessFlags := 18, nameIndex := 15, descriptorIndex := 12, attributes := #[] }, { accessFlags := 18, nameIndex := 18, descriptorIndex := 19, attributes := #[] }, { accessFlags := 18, nameIndex := 22, descriptorIndex := 23, attributes := #[] }, { accessFlags := 18, nameIndex := 26, descriptorIndex := 12, attributes := #[] }])
  fields := #[{ name := "DEFAULT_BASE_PORT", type := .int, accessFlags := 24, slot := 0, constantValue := 0 }, { name := "MAX_KEYS", type := .int, accessFlags := 24, slot := 1, constantValue := 0 }, { name := "SETTLE_LIMIT", type := (.object "java/time/Duration"), accessFlags := 26, slot := 2, constantValue := 0 }, { name := "SETTLE_POLL", type := (.object "java/time/Duration"), accessFlags := 26, slot := 3, constantValue := 0 }, { name := "REQUEST_PATIENCE", type := (.object "java/time/Duration"), accessFlags := 26, slot := 4, constantValue := 0 }, { name := "NODE_THREADS", type := .int, accessFlags := 26, slot := 5, constantValue := 0 }, { name := "KV", type := (.object "java/lang/String"), accessFlags := 26, slot := 6, constantValue := 0 }, { name := "count", type := .int, accessFlags := 18, slot := 0, constantValue := 0 }, { name := "keys", type := .int, accessFlags := 18, slot := 1, constantValue := 0 }, { name := "stopShare", type := (.object "java/math/BigDecimal"), accessFlags := 18, slot := 2, constantValue := 0 }, { name := "seed", type := .long, accessFlags := 18, slot := 3, constantValue := 0 }, { name := "basePort", type := .int, accessFlags := 18, slot := 4, constantValue := 0 }]
  methods := #[k3m0]
  instanceTypes := #[.int, .int, (.object "java/math/BigDecimal"), .long, .int]
  staticTypes := #[.int, .int, (.object "java/time/Duration"), (.object "java/time/Duration"), (.object "java/time/Duration"), .int, (.object "java/lang/String")]
  resolved := Array.replicate 573 none
  statics := none }

def pool4 : Array CpInfo := pool [(1, u "java/lang/Cloneable"), (0, .class_ 1), (0, u "java/lang/Object"), (0, .class_ 3)] 3

/-- java/lang/Cloneable -/
def k4 : Class := { plain "java/lang/Cloneable" (some 0) with
  accessFlags := 1537
  interfaces := #[]
  cf := some (fileOf pool4 2 #[] #[] 1537 4 #[] #[])
  fields := #[]
  methods := #[]
  instanceTypes := #[]
  staticTypes := #[]
  resolved := Array.replicate 8 none
  statics := none }

def pool5 : Array CpInfo := pool [(1, u "java/io/Serializable"), (0, .class_ 1), (0, u "java/lang/Object"), (0, .class_ 3)] 3

/-- java/io/Serializable -/
def k5 : Class := { plain "java/io/Serializable" (some 0) with
  accessFlags := 1537
  interfaces := #[]
  cf := some (fileOf pool5 2 #[] #[] 1537 4 #[] #[])
  fields := #[]
  methods := #[]
  instanceTypes := #[]
  staticTypes := #[]
  resolved := Array.replicate 8 none
  statics := none }

/-- the primitive byte -/
def k6 : Class := { plain "byte" none with kind := .primitive 'B', accessFlags := 0x411 }
/-- [B -/
def k7 : Class := { plain "[B" (some 0) with kind := .array 6 .byte, interfaces := #[4, 5], accessFlags := 1041 }

/-- the primitive int -/
def k8 : Class := { plain "int" none with kind := .primitive 'I', accessFlags := 0x411 }
/-- [I -/
def k9 : Class := { plain "[I" (some 0) with kind := .array 8 .int, interfaces := #[4, 5], accessFlags := 1041 }

def heap : Heap := #[]
def classes : Array Class := #[k0, k1, k2, k3, k4, k5, k6, k7, k8, k9]
def interned : List (Array UInt16 × Addr) := []
def slotsUsed : Nat := 0
def theMethod : MethodId := ⟨1, 1⟩
def args0 : Array Value := #[.int 70, .int 5]
def aboutOver (below : List Frame) : State where
  vm := { classes := classes, interned := interned.toArray }
  heap := heap
  slotsUsed := slotsUsed
  threads := #[{ frames := .invoking theMethod args0 :: below }]
def below0 : List Frame := [.native { method := ⟨0, 0⟩, args := #[] }]
def about1 : State := aboutOver below0
def p0 : Program := .bare "" "" ""
def e0 : Env := launch0.env 0 0 0
theorem w_frames : about1.frames = Frame.invoking theMethod args0 :: below0 := rfl
set_option maxRecDepth 65536 in
theorem w_args : argsFit about1.vm theMethod args0 = true := by decide +kernel
set_option maxRecDepth 65536 in
theorem w_heap : heapFits about1 = true := by decide +kernel
set_option maxRecDepth 65536 in
theorem w_runnable : about1.curStatus? = some .runnable := by decide +kernel
set_option maxRecDepth 65536 in
theorem w_alone : about1.alone = true := by decide +kernel
set_option maxRecDepth 65536 in
theorem w_named : about1.methodNamed? x = some theMethod := by decide +kernel
set_option maxRecDepth 65536 in
theorem w_hears : about1.hears theMethod below0 = true := by decide +kernel
set_option maxRecDepth 65536 in
theorem w_ripe : about1.ripe theMethod args0 below0 = true := by decide +kernel
theorem w_running : about1.status = .running := rfl
set_option maxRecDepth 65536 in
theorem w_room : about1.hasRoom e0.platform room_1 = true :=
  launch0.hasRoom_least _ room_1 (by decide +kernel) (by decide +kernel) (by decide +kernel) (by decide +kernel) (by decide +kernel) (by decide +kernel)
theorem allAtoms_all (ts : List Jvm.Cond) (a : Array Jvm.Value) (st : Jvm.State) : (allAtoms ts).before a st = ts.all (fun c => c.before a st) := by
  induction ts with
  | nil => rfl
  | cons c t ih =>
    show (Jvm.Cond.and c (allAtoms t)).before a st = _
    rw [Jvm.Cond.before_and, ih, List.all_cons]
def words1 : List Jvm.Cond := Jvm.Cond.code x code maxLocals ret :: tables_1
/-- a 'code' word, met by the world's own term for the bytes: nothing is compared byte by byte -/
theorem code_word {y : MethodName} {bytes : ByteArray} {mx : Nat} {rt : Option FieldType} {a : Array Value} {s : State} {m : MethodId} {meth : Method} {c : Code} (h1 : s.methodNamed? y = some m) (h2 : s.vm.method? m = some meth) (h3 : meth.code = some c) (h4 : c.code = bytes)
    (h5 : (c.maxLocals == mx && c.exceptionTable.isEmpty && decide (c.maxStack ≤ mostOperands) && decide (meth.sig.returnType = rt) && !meth.locks && decide (parseMethodDescriptor y.desc = some meth.sig)) = true) : (Jvm.Cond.code y bytes mx rt).before a s = true := by
  simp only [Bool.and_eq_true, beq_iff_eq, Bool.not_eq_true', decide_eq_true_eq] at h5
  obtain ⟨⟨⟨⟨⟨g1, g2⟩, g3⟩, g4⟩, g5⟩, g6⟩ := h5
  simp [Cond.before, Cond.holds, Cond.value, h1, h2, h3, h4, g1, g2, g3, g4, g5, g6]
def isCode : Jvm.Cond → Bool
  | .code _ _ _ _ => true
  | _ => false
theorem all_split {L : List Jvm.Cond} {P : Jvm.Cond → Bool} (h1 : L.all (fun c => isCode c || P c) = true) (h2 : ∀ c ∈ L.filter isCode, P c = true) : L.all P = true := by
  refine List.all_eq_true.mpr fun c hc => ?_
  have h := List.all_eq_true.mp h1 c hc
  rcases Bool.eq_false_or_eq_true (isCode c) with hi | hi
  · exact h2 c (List.mem_filter.mpr ⟨hc, hi⟩)
  · simpa [hi] using h
set_option maxRecDepth 65536 in
theorem w_c0 : (Jvm.Cond.code x code maxLocals ret).before args0 about1 = true := code_word (m := ⟨1, 1⟩) (meth := k1m1) (c := k1c1) (by decide +kernel) rfl rfl rfl (by decide +kernel)
set_option maxRecDepth 65536 in
theorem w_c1 : (Jvm.Cond.code ({ cls := "java/lang/Math", name := "max", desc := "(II)I" } : Jvm.MethodName) jdk_29_method_65_code (2 : Nat) (Option.some Jvm.ClassFile.FieldType.int)).before args0 about1 = true := code_word (m := ⟨2, 1⟩) (meth := k2m1) (c := k2c1) (by decide +kernel) rfl rfl rfl (by decide +kernel)
set_option maxRecDepth 65536 in
theorem w_c2 : (Jvm.Cond.code ({ cls := "com/example/circlet/circlet/Bench", name := "rank", desc := "(II)I" } : Jvm.MethodName) prog_3_method_17_code (2 : Nat) (Option.some Jvm.ClassFile.FieldType.int)).before args0 about1 = true := code_word (m := ⟨3, 0⟩) (meth := k3m0) (c := k3c0) (by decide +kernel) rfl rfl rfl (by decide +kernel)
def codes1 : List Jvm.Cond := [Jvm.Cond.code x code maxLocals ret, Jvm.Cond.code ({ cls := "java/lang/Math", name := "max", desc := "(II)I" } : Jvm.MethodName) jdk_29_method_65_code (2 : Nat) (Option.some Jvm.ClassFile.FieldType.int), Jvm.Cond.code ({ cls := "com/example/circlet/circlet/Bench", name := "rank", desc := "(II)I" } : Jvm.MethodName) prog_3_method_17_code (2 : Nat) (Option.some Jvm.ClassFile.FieldType.int)]
set_option maxRecDepth 65536 in
theorem codes_eq : words1.filter isCode = codes1 := rfl
theorem w_codes : ∀ c ∈ words1.filter isCode, c.before args0 about1 = true := by
  rw [codes_eq]
  intro c hc
  simp only [codes1, List.mem_cons, List.not_mem_nil, or_false] at hc
  rcases hc with rfl | rfl | rfl
  · exact w_c0
  · exact w_c1
  · exact w_c2
set_option maxRecDepth 65536 in
theorem w_t1 : words1.all (fun c => isCode c || c.before args0 about1) = true := by decide +kernel
theorem w_tables : (allAtoms (Jvm.Cond.code x code maxLocals ret :: tables_1)).before args0 about1 = true := by
  rw [allAtoms_all]
  show words1.all (fun c => c.before args0 about1) = true
  refine all_split ?_ w_codes
  rw [w_t1]
set_option maxRecDepth 65536 in
theorem w_case : (Jvm.Cond.and given_1 narrow_1).before args0 about1 = true := by decide +kernel
theorem w_applies : (headSpec (Jvm.Cond.code x code maxLocals ret :: tables_1) room_1).applies x e0.platform about1 = true :=
  (Spec.applies_iff w_frames).mpr ⟨w_running, w_runnable, w_alone, w_named, w_hears, w_ripe, w_room, w_tables⟩
theorem atStart : AtStart classFile x code maxLocals ret World_1 tables_1 room_1 Calls_1 rest_1 Pre_1 launch0 p0 e0 about1 theMethod args0 below0 :=
  ⟨lists_1, trivial, launch0.admits_env _ _ _, launch0.least_env, fairChoices_fair.cas, fairChoices_fair.clock, w_frames, w_args, w_heap, w_applies, trivial, trivial, w_case⟩
end start1
theorem witness_1 : WitnessClaimed_1 := ⟨start1.p0, start1.e0, start1.about1, start1.theMethod, start1.args0, start1.below0, start1.atStart⟩
end Jvm.Pilot.@@N@@
