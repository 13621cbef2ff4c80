import JvmDerived
import JvmDerived.Pilot.@@N@@Statement
import JvmDerived.Pilot.@@N@@Code
set_option linter.unusedVariables false
set_option linter.unusedSimpArgs false
namespace Jvm.RoadKit
open Sem ClassFile Op Lib Jvm.Stand Jvm.Free Jvm.LawKit
section New
variable {p : Program} {l : Launch} {e : Env} {R : Room} {s : State} {m : MethodId} {args : Array Value} {below : List Frame} {meth : Method} {c : Code} {T : State} {locs : List Loc} {cells slots : Nat}
theorem retI (X : Stand p l e R s m args below meth c T locs cells slots) (hx : p.tables.exec = Jvm.exec) {pc : Nat} {Ls : Array Slot} {z : Int32} {rest : List Value} (hret : meth.sig.returnType = some .int) (hd : decode c.code pc = .ok (.ireturn, 1)) {fs : List Frame}
    (hl : ∀ (f : JFrame) (acts : List Action), f.method = m → f.locked = none → f.entered = [] → (doReturn e (T.setTop f) acts (some (.int z))).1 = T.setFrames fs) : Steps p.tables e below (T.setTop (mkF m pc Ls (.int z :: rest))) (T.setFrames fs) := by
  have hm' : T.vm.method? m = some meth := X.method'
  have hn : narrow .int (.int z) = .int z := rfl
  show Steps p.tables e below (T.setTop { method := m, pc := pc, locals := Ls, stack := _ :: rest, locked := none }) _
  jvm_step X.here [X.here.top, hx, hd, hm', hret, hn]
  first | (intro acts; rw [hl _ acts rfl rfl rfl]) | rw [hl _ _ rfl rfl rfl]
  exact Steps.refl _
end New
end Jvm.RoadKit
namespace Jvm.Pilot.@@N@@
open Jvm Jvm.ClassFile Sem Op Lib Jvm.Free Jvm.Stand Jvm.LawKit Jvm.RoadKit Bundle Jvm.Pilot.@@N@@.Jvm.D
theorem own_i (x v : Int64) (h : v = (x &&& (8796093022207 : Int64))) : 0 ≤ v.toInt ∧ v.toInt ≤ 8796093022207 := by
  have a := c_maskL x 8796093022207 43 (by decide) (by decide)
  rw [← h] at a; omega
theorem own_r (x v : Int32) (h : v = (x &&& (4095 : Int32))) : 0 ≤ v.toInt ∧ v.toInt ≤ 4095 := by
  have a := c_mask x 4095 12 (by decide) (by decide)
  rw [← h] at a; omega
theorem own_m (x v : Int32) (h0 : 0 ≤ x.toInt) (h : v = ((x % (255 : Int32)) + (1 : Int32))) : 1 ≤ v.toInt ∧ v.toInt ≤ 255 := by
  have a := c_irem x 255 255 (by decide)
  have b := c_iadd (x % 255) 1
  rw [← h] at b
  have c := rng32 v
  have e : (1 : Int32).toInt = 1 := by decide
  omega
theorem own_pos (x : Int32) : 0 ≤ (x &&& (2147483647 : Int32)).toInt := by
  have a := c_mask x 2147483647 31 (by decide) (by decide); omega
theorem own_pos1 (x : Int32) : 0 ≤ ((x.toUInt32 >>> ((1 : Int32) &&& 31).toUInt32).toInt32).toInt := by
  have a := c_iushr x 1 1 (by decide) (by decide); omega
theorem own_all (x0 : Int64) (x1 : Int32) (x2 : Int32) (x3 : Int64) (x4 : Int32) (x5 : Int32) (v1 : Int64) (v2 : Int32) (v3 : Int32) (v5 : Int64) (v8 : Int32) (v11 : Int32) (hv1 : v1 = (x0 &&& (8796093022207 : Int64))) (hv2 : v2 = (x1 &&& (4095 : Int32))) (hv3 : v3 = (((x2 &&& (2147483647 : Int32)) % (255 : Int32)) + (1 : Int32))) (hv5 : v5 = (if (x3 &&& (3 : Int64)) = (0 : Int64) then v1 else (((x3.toUInt64 >>> ((2 : Int32) &&& 0x3f).toInt64.toUInt64).toInt64) &&& (8796093022207 : Int64)))) (hv8 : v8 = (if (x4 &&& (1 : Int32)) = (0 : Int32) then v2 else (((x4.toUInt32 >>> ((1 : Int32) &&& 31).toUInt32).toInt32) &&& (4095 : Int32)))) (hv11 : v11 = (if (x5 &&& (1 : Int32)) = (0 : Int32) then v3 else ((((x5.toUInt32 >>> ((1 : Int32) &&& 31).toUInt32).toInt32) % (255 : Int32)) + (1 : Int32)))) :
    (0 ≤ v1.toInt ∧ v1.toInt ≤ 8796093022207) ∧ (0 ≤ v2.toInt ∧ v2.toInt ≤ 4095) ∧ (1 ≤ v3.toInt ∧ v3.toInt ≤ 255) ∧ (0 ≤ v5.toInt ∧ v5.toInt ≤ 8796093022207) ∧ (0 ≤ v8.toInt ∧ v8.toInt ≤ 4095) ∧ (1 ≤ v11.toInt ∧ v11.toInt ≤ 255) := by
  have a := own_i _ _ hv1
  have b := own_r _ _ hv2
  have c := own_m _ _ (own_pos x2) hv3
  refine ⟨a, b, c, ?_, ?_, ?_⟩
  · split at hv5
    · rw [hv5]; exact a
    · exact own_i _ _ hv5
  · split at hv8
    · rw [hv8]; exact b
    · exact own_r _ _ hv8
  · split at hv11
    · rw [hv11]; exact c
    · exact own_m _ _ (own_pos1 x5) hv11
theorem own_sum (i : Int64) (r m : Int32) (hi : 0 ≤ i.toInt ∧ i.toInt ≤ 8796093022207) (hr : 0 ≤ r.toInt ∧ r.toInt ≤ 4095) (hm : 1 ≤ m.toInt ∧ m.toInt ≤ 255) : (((i * (1048576 : Int64)) + ((r.toInt64) * (256 : Int64))) + (m.toInt64)).toInt = i.toInt * 1048576 + r.toInt * 256 + m.toInt := by
  have a := c_lmul i 1048576
  have b := c_lmul r.toInt64 256
  rw [c_i2l] at b
  have e1 : (1048576 : Int64).toInt = 1048576 := by decide
  have e2 : (256 : Int64).toInt = 256 := by decide
  rw [e1] at a
  rw [e2] at b
  have a' := rng64 (i * 1048576)
  have b' := rng64 (r.toInt64 * 256)
  have c := c_ladd (i * 1048576) (r.toInt64 * 256)
  have c' := rng64 (i * 1048576 + r.toInt64 * 256)
  have d := c_ladd (i * 1048576 + r.toInt64 * 256) m.toInt64
  rw [c_i2l] at d
  have d' := rng64 (i * 1048576 + r.toInt64 * 256 + m.toInt64)
  omega
set_option maxHeartbeats 8000000 in
theorem own_b3_1 (x0 : Int32) (q1 : ¬ (x0 < (1 : Int32))) (q2 : ¬ ((255 : Int32) < x0)) : x0 = x0 := by
  rfl
theorem pn_0 : plainName "com/example/kept_term/keptterm/model/Group" = true := by first | (simp [plainName, overriddenIn]; done) | decide +kernel
theorem d3_0 : decode prog_15_method_4_code 0 = .ok (.iload_n 0, 1) := by decide +kernel
theorem d3_1 : decode prog_15_method_4_code 1 = .ok (.iconst 1, 1) := by decide +kernel
theorem d3_2 : decode prog_15_method_4_code 2 = .ok (.if_icmp .lt 10, 3) := by decide +kernel
theorem d3_5 : decode prog_15_method_4_code 5 = .ok (.iload_n 0, 1) := by decide +kernel
theorem d3_6 : decode prog_15_method_4_code 6 = .ok (.sipush 255, 3) := by decide +kernel
theorem d3_9 : decode prog_15_method_4_code 9 = .ok (.if_icmp .le 17, 3) := by decide +kernel
theorem d3_26 : decode prog_15_method_4_code 26 = .ok (.iload_n 0, 1) := by decide +kernel
theorem d3_27 : decode prog_15_method_4_code 27 = .ok (.ireturn, 1) := by decide +kernel
theorem ef_3 (m : MethodId) (x0 : Int32) : entryFrame m #[(.int x0)] 1 = mkF m 0 #[.val (.int x0)] [] := by first | (simp [entryFrame, mkF, argsToLocals, Value.category]; done) | rfl
def Q3 (Z : State) (x0 : Int32) (h0 : Heap) (n0 : Nat) (v : Option Value) (h : Heap) (L : List Loc) : Prop := ∃ z : Int32, v = some (.int z) ∧ Fr n0 L ∧ h = h0 ∧ (z = x0)
set_option maxRecDepth 65536 in
set_option maxHeartbeats 40000000 in
theorem rm3 (l : Launch) (Z : State) (a0 : Array Value) (hw : ∀ d ∈ tables_1, d.before a0 Z = true) (ws : List Jvm.Cond) (x0 : Int32) (h0 : Heap) (n0 : Nat) (Z0 : n0 ≤ h0.size) (q1 : ¬ (x0 < (1 : Int32))) (q2 : ¬ ((255 : Int32) < x0)) :
    MetFree l (⟨"com/example/kept_term/keptterm/model/Group", "checkMemberId", "(I)I"⟩ : MethodName) (head1 (Jvm.Cond.code (⟨"com/example/kept_term/keptterm/model/Group", "checkMemberId", "(I)I"⟩ : MethodName) prog_15_method_4_code 1 (some .int) :: ws) ({ frames := 0, cells := 0, slots := 0, locals := 0 } : Room)) (fun aa U => aa = #[(.int x0)] ∧ Z.Warmed39 U.vm ∧ U.heap = h0) (fun _ _ _ _ _ => True) (fun _ U o U' => ∃ v L, o = .returned v ∧ Q3 Z x0 h0 n0 v U'.heap L ∧ FrameEnd U o U' L ({ frames := 0, cells := 0, slots := 0, locals := 0 } : Room).cells ({ frames := 0, cells := 0, slots := 0, locals := 0 } : Room).slots) := by
  refine MetFree.of_bodySF (plainFor_of_name pn_0) hisR ?_
  intro p e s m args below meth c s₁ Bd hml0 hP hK
  obtain ⟨rfl, hZ, hh⟩ := hP
  have hx := Bd.exec
  have hby := Bd.bytes
  have hml : c.maxLocals = 1 := hml0
  have hown : s.vm.findClass "com/example/kept_term/keptterm/model/Group" = some m.cls := findClass_of_methodNamed Bd.named
  have hnm := (name_of_methodNamed Bd.named Bd.method).1
  have X0 : Stand p l e ({ frames := 0, cells := 0, slots := 0, locals := 0 } : Room) s m #[(.int x0)] below meth c s₁ [] 0 0 := Stand.of_body Bd
  have e0 : s₁.heap = h0 := by rw [← hh, Bd.state]; rfl
  have N0 := Fr.nil n0
  have pre0 : ∀ t, Steps p.tables e below (s₁.setTop (mkF m 0 #[.val (.int x0)] [])) t → Steps p.tables e below (s₁.setTop (entryFrame m #[(.int x0)] 1)) t := fun t k => castTop (ef_3 m x0) k
  have pre1 : ∀ t, Steps p.tables e below (s₁.setTop (mkF m 27 #[.val (.int x0)] [(.int x0)])) t → Steps p.tables e below (s₁.setTop (entryFrame m #[(.int x0)] 1)) t := fun t k => pre0 t (by
    show Steps p.tables e below (s₁.setTop (mkF m 0 #[.val (.int x0)] [])) _
    refine XS.iloadN X0.here hx rfl (hb hby d3_0) rfl ?_
    show Steps p.tables e below (s₁.setTop (mkF m 1 #[.val (.int x0)] [(.int x0)])) _
    refine XS.iconst X0.here hx rfl (hb hby d3_1) ?_
    show Steps p.tables e below (s₁.setTop (mkF m 2 #[.val (.int x0)] [(.int (1 : Int32)), (.int x0)])) _
    refine XS.icmpNo X0.here hx rfl (hb hby d3_2) rfl (flt q1).1 ?_
    show Steps p.tables e below (s₁.setTop (mkF m 5 #[.val (.int x0)] [])) _
    refine XS.iloadN X0.here hx rfl (hb hby d3_5) rfl ?_
    show Steps p.tables e below (s₁.setTop (mkF m 6 #[.val (.int x0)] [(.int x0)])) _
    refine XS.sipush X0.here hx rfl (hb hby d3_6) ?_
    show Steps p.tables e below (s₁.setTop (mkF m 9 #[.val (.int x0)] [(.int (255 : Int32)), (.int x0)])) _
    refine XS.icmpYes X0.here hx rfl (pc0 := 9) (pc' := 26) rfl (hb hby d3_9) rfl (flt q2).2.2.2 (by decide) (by decide) ?_
    show Steps p.tables e below (s₁.setTop (mkF m 26 #[.val (.int x0)] [])) _
    refine XS.iloadN X0.here hx rfl (hb hby d3_26) rfl ?_
    show Steps p.tables e below (s₁.setTop (mkF m 27 #[.val (.int x0)] [(.int x0)])) _
    exact k)
  obtain ⟨fs, hr, hrun, hended, hW, hsame⟩ := X0.leave (v := some (.int x0)) (fun h => by rw [Bd.returns] at h; cases h)
  refine ⟨_, _, pre1 _ ?_, hrun, hended, _, _, rfl, ?_, ⟨_, rfl⟩, hW, hsame.mono (by decide) (by decide)⟩
  · show Steps p.tables e below (s₁.setTop (mkF m 27 #[.val (.int x0)] [(.int x0)])) _
    exact retI X0 hx Bd.returns (hb hby d3_27) hr
  · show Q3 Z x0 h0 n0 _ s₁.heap _
    rw [e0]
    exact ⟨_, rfl, N0, rfl, own_b3_1 x0 q1 q2⟩
set_option maxHeartbeats 8000000 in
theorem own_need1_20_0 (x1 : Int64) (x2 : Int32) (x3 : Int32) (q1 : ¬ (x1 < (0 : Int64))) (q2 : ¬ ((8796093022207 : Int64) < x1)) (q3 : ¬ (x2 < (0 : Int32))) (q4 : ¬ ((4095 : Int32) < x2)) (q5 : ¬ (x3 < (1 : Int32))) (q6 : ¬ ((255 : Int32) < x3)) : ¬ (x3 < (1 : Int32)) := by
  exact q5
set_option maxHeartbeats 8000000 in
theorem own_need1_20_1 (x1 : Int64) (x2 : Int32) (x3 : Int32) (q1 : ¬ (x1 < (0 : Int64))) (q2 : ¬ ((8796093022207 : Int64) < x1)) (q3 : ¬ (x2 < (0 : Int32))) (q4 : ¬ ((4095 : Int32) < x2)) (q5 : ¬ (x3 < (1 : Int32))) (q6 : ¬ ((255 : Int32) < x3)) : ¬ ((255 : Int32) < x3) := by
  exact q6
theorem pd_0 : parseMethodDescriptor "(I)I" = some ⟨[.int], some .int⟩ := by decide +kernel
theorem pn_1 : plainName "com/example/kept_term/keptterm/model/Ballot" = true := by first | (simp [plainName, overriddenIn]; done) | decide +kernel
theorem d1_0 : decode prog_11_method_1_code 0 = .ok (.aload_n 0, 1) := by decide +kernel
theorem d1_1 : decode prog_11_method_1_code 1 = .ok (.invokespecial 3, 3) := by decide +kernel
theorem d1_4 : decode prog_11_method_1_code 4 = .ok (.lload_n 1, 1) := by decide +kernel
theorem d1_5 : decode prog_11_method_1_code 5 = .ok (.lconst 0, 1) := by decide +kernel
theorem d1_6 : decode prog_11_method_1_code 6 = .ok (.lcmp, 1) := by decide +kernel
theorem d1_7 : decode prog_11_method_1_code 7 = .ok (.ifCond .lt 11, 3) := by decide +kernel
theorem d1_10 : decode prog_11_method_1_code 10 = .ok (.lload_n 1, 1) := by decide +kernel
theorem d1_11 : decode prog_11_method_1_code 11 = .ok (.ldc2_w 9, 3) := by decide +kernel
theorem d1_14 : decode prog_11_method_1_code 14 = .ok (.lcmp, 1) := by decide +kernel
theorem d1_15 : decode prog_11_method_1_code 15 = .ok (.ifCond .le 17, 3) := by decide +kernel
theorem d1_32 : decode prog_11_method_1_code 32 = .ok (.iload_n 3, 1) := by decide +kernel
theorem d1_33 : decode prog_11_method_1_code 33 = .ok (.ifCond .lt 10, 3) := by decide +kernel
theorem d1_36 : decode prog_11_method_1_code 36 = .ok (.iload_n 3, 1) := by decide +kernel
theorem d1_37 : decode prog_11_method_1_code 37 = .ok (.sipush 4095, 3) := by decide +kernel
theorem d1_40 : decode prog_11_method_1_code 40 = .ok (.if_icmp .le 17, 3) := by decide +kernel
theorem d1_57 : decode prog_11_method_1_code 57 = .ok (.aload_n 0, 1) := by decide +kernel
theorem d1_58 : decode prog_11_method_1_code 58 = .ok (.lload_n 1, 1) := by decide +kernel
theorem d1_59 : decode prog_11_method_1_code 59 = .ok (.putfield 23, 3) := by decide +kernel
theorem d1_62 : decode prog_11_method_1_code 62 = .ok (.aload_n 0, 1) := by decide +kernel
theorem d1_63 : decode prog_11_method_1_code 63 = .ok (.iload_n 3, 1) := by decide +kernel
theorem d1_64 : decode prog_11_method_1_code 64 = .ok (.putfield 27, 3) := by decide +kernel
theorem d1_67 : decode prog_11_method_1_code 67 = .ok (.aload_n 0, 1) := by decide +kernel
theorem d1_68 : decode prog_11_method_1_code 68 = .ok (.iload 4, 2) := by decide +kernel
theorem d1_70 : decode prog_11_method_1_code 70 = .ok (.invokestatic 31, 3) := by decide +kernel
theorem d1_73 : decode prog_11_method_1_code 73 = .ok (.putfield 37, 3) := by decide +kernel
theorem d1_76 : decode prog_11_method_1_code 76 = .ok (.return_, 1) := by decide +kernel
theorem ef_1 (m : MethodId) (x0 : Addr) (x1 : Int64) (x2 : Int32) (x3 : Int32) : entryFrame m #[(.ref x0), (.long x1), (.int x2), (.int x3)] 5 = mkF m 0 #[.val (.ref x0), .val (.long x1), .second, .val (.int x2), .val (.int x3)] [] := by first | (simp [entryFrame, mkF, argsToLocals, Value.category]; done) | rfl
def Q1 (Z : State) (a : Addr) (x1 : Int64) (x2 : Int32) (x3 : Int32) (h0 : Heap) (n0 : Nat) (v : Option Value) (h : Heap) (L : List Loc) : Prop := v = none ∧ Fr n0 L ∧ Keep h0 h [a] ∧ Exa Z h a "com/example/kept_term/keptterm/model/Ballot" ∧ Fld Z h a "com/example/kept_term/keptterm/model/Ballot" "interval" "J" (.long x1) ∧ Fld Z h a "com/example/kept_term/keptterm/model/Ballot" "round" "I" (.int x2) ∧ Fld Z h a "com/example/kept_term/keptterm/model/Ballot" "member" "I" (.int x3)
set_option maxRecDepth 65536 in
set_option maxHeartbeats 40000000 in
theorem rm1 (l : Launch) (Z : State) (a0 : Array Value) (hw : ∀ d ∈ tables_1, d.before a0 Z = true) (ws : List Jvm.Cond) (a : Addr) (x1 : Int64) (x2 : Int32) (x3 : Int32) (h0 : Heap) (n0 : Nat) (Z0 : n0 ≤ h0.size) (Ea : Exa Z h0 a "com/example/kept_term/keptterm/model/Ballot") (F_interval : Fld Z h0 a "com/example/kept_term/keptterm/model/Ballot" "interval" "J" (.long (0 : Int64))) (F_round : Fld Z h0 a "com/example/kept_term/keptterm/model/Ballot" "round" "I" (.int (0 : Int32))) (F_member : Fld Z h0 a "com/example/kept_term/keptterm/model/Ballot" "member" "I" (.int (0 : Int32))) (ga : n0 ≤ a) (q1 : ¬ (x1 < (0 : Int64))) (q2 : ¬ ((8796093022207 : Int64) < x1)) (q3 : ¬ (x2 < (0 : Int32))) (q4 : ¬ ((4095 : Int32) < x2)) (q5 : ¬ (x3 < (1 : Int32))) (q6 : ¬ ((255 : Int32) < x3)) :
    MetFree l (⟨"com/example/kept_term/keptterm/model/Ballot", "<init>", "(JII)V"⟩ : MethodName) (head1 (Jvm.Cond.code (⟨"com/example/kept_term/keptterm/model/Ballot", "<init>", "(JII)V"⟩ : MethodName) prog_11_method_1_code 5 none :: ws) ({ frames := 1, cells := 0, slots := 0, locals := 13 } : Room)) (fun aa U => aa = #[(.ref a), (.long x1), (.int x2), (.int x3)] ∧ Z.Warmed39 U.vm ∧ U.heap = h0) (fun _ _ _ _ _ => True) (fun _ U o U' => ∃ v L, o = .returned v ∧ Q1 Z a x1 x2 x3 h0 n0 v U'.heap L ∧ FrameEnd U o U' L ({ frames := 1, cells := 0, slots := 0, locals := 13 } : Room).cells ({ frames := 1, cells := 0, slots := 0, locals := 13 } : Room).slots) := by
  refine MetFree.of_bodySF (plainFor_of_name pn_1) hisR ?_
  intro p e s m args below meth c s₁ Bd hml0 hP hK
  obtain ⟨rfl, hZ, hh⟩ := hP
  have hx := Bd.exec
  have hby := Bd.bytes
  have hml : c.maxLocals = 5 := hml0
  have hown : s.vm.findClass "com/example/kept_term/keptterm/model/Ballot" = some m.cls := findClass_of_methodNamed Bd.named
  have hnm := (name_of_methodNamed Bd.named Bd.method).1
  have X0 : Stand p l e ({ frames := 1, cells := 0, slots := 0, locals := 13 } : Room) s m #[(.ref a), (.long x1), (.int x2), (.int x3)] below meth c s₁ [] 0 0 := Stand.of_body Bd
  have e0 : s₁.heap = h0 := by rw [← hh, Bd.state]; rfl
  have N0 := Fr.nil n0
  have pre0 : ∀ t, Steps p.tables e below (s₁.setTop (mkF m 0 #[.val (.ref a), .val (.long x1), .second, .val (.int x2), .val (.int x3)] [])) t → Steps p.tables e below (s₁.setTop (entryFrame m #[(.ref a), (.long x1), (.int x2), (.int x3)] 5)) t := fun t k => castTop (ef_1 m a x1 x2 x3) k
  have pre1 : ∀ t, Steps p.tables e below (s₁.setTop (mkF m 1 #[.val (.ref a), .val (.long x1), .second, .val (.int x2), .val (.int x3)] [(.ref a)])) t → Steps p.tables e below (s₁.setTop (entryFrame m #[(.ref a), (.long x1), (.int x2), (.int x3)] 5)) t := fun t k => pre0 t (by
    show Steps p.tables e below (s₁.setTop (mkF m 0 #[.val (.ref a), .val (.long x1), .second, .val (.int x2), .val (.int x3)] [])) _
    refine XS.aloadN X0.here hx rfl (hb hby d1_0) rfl rfl ?_
    show Steps p.tables e below (s₁.setTop (mkF m 1 #[.val (.ref a), .val (.long x1), .second, .val (.int x2), .val (.int x3)] [(.ref a)])) _
    exact k)
  obtain ⟨T2, X2, e2, st2⟩ := initO X0 hx hZ hown (hw _ (List.mem_of_getElem? (i := 9) rfl)) (hw _ (List.mem_of_getElem? (i := 10) rfl)) (hw _ (List.mem_of_getElem? (i := 11) rfl)) e0 (g := (mkF m 1 #[.val (.ref a), .val (.long x1), .second, .val (.int x2), .val (.int x3)] [(.ref a)])) rfl (by rw [hml]; rfl) rfl (hb hby d1_1) (by decide) (W := 0) (by show 2 * 0 + _ ≤ _; exact Nat.le_of_eq rfl) (by decide)
  have pre3 : ∀ t, Steps p.tables e below (T2.setTop (mkF m 4 #[.val (.ref a), .val (.long x1), .second, .val (.int x2), .val (.int x3)] [])) t → Steps p.tables e below (s₁.setTop (entryFrame m #[(.ref a), (.long x1), (.int x2), (.int x3)] 5)) t := fun t k => pre1 t (st2 _ k)
  have pre4 : ∀ t, Steps p.tables e below (T2.setTop (mkF m 59 #[.val (.ref a), .val (.long x1), .second, .val (.int x2), .val (.int x3)] [(.long x1), (.ref a)])) t → Steps p.tables e below (s₁.setTop (entryFrame m #[(.ref a), (.long x1), (.int x2), (.int x3)] 5)) t := fun t k => pre3 t (by
    show Steps p.tables e below (T2.setTop (mkF m 4 #[.val (.ref a), .val (.long x1), .second, .val (.int x2), .val (.int x3)] [])) _
    refine XS.lloadN X2.here hx rfl (hb hby d1_4) rfl ?_
    show Steps p.tables e below (T2.setTop (mkF m 5 #[.val (.ref a), .val (.long x1), .second, .val (.int x2), .val (.int x3)] [(.long x1)])) _
    refine XS.lconst X2.here hx rfl (hb hby d1_5) ?_
    show Steps p.tables e below (T2.setTop (mkF m 6 #[.val (.ref a), .val (.long x1), .second, .val (.int x2), .val (.int x3)] [(.long (0 : Int64)), (.long x1)])) _
    refine XS.lcmp X2.here hx rfl (hb hby d1_6) rfl ?_
    show Steps p.tables e below (T2.setTop (mkF m 7 #[.val (.ref a), .val (.long x1), .second, .val (.int x2), .val (.int x3)] [(.int (lcmpW x1 (0 : Int64)))])) _
    refine XS.ifNo X2.here hx rfl (hb hby d1_7) rfl ((if0 _ _).trans (flt (fun q => q1 ((lw_lt _ _).mp q))).1) ?_
    show Steps p.tables e below (T2.setTop (mkF m 10 #[.val (.ref a), .val (.long x1), .second, .val (.int x2), .val (.int x3)] [])) _
    refine XS.lloadN X2.here hx rfl (hb hby d1_10) rfl ?_
    show Steps p.tables e below (T2.setTop (mkF m 11 #[.val (.ref a), .val (.long x1), .second, .val (.int x2), .val (.int x3)] [(.long x1)])) _
    refine X2.ldc2Long hx hown (mvT hZ (hw _ (List.mem_of_getElem? (i := 12) rfl))) (g := (mkF m 11 #[.val (.ref a), .val (.long x1), .second, .val (.int x2), .val (.int x3)] [(.long x1)])) rfl (hb hby d1_11) _ ?_
    show Steps p.tables e below (T2.setTop (mkF m 14 #[.val (.ref a), .val (.long x1), .second, .val (.int x2), .val (.int x3)] [(.long (8796093022207 : Int64)), (.long x1)])) _
    refine XS.lcmp X2.here hx rfl (hb hby d1_14) rfl ?_
    show Steps p.tables e below (T2.setTop (mkF m 15 #[.val (.ref a), .val (.long x1), .second, .val (.int x2), .val (.int x3)] [(.int (lcmpW x1 (8796093022207 : Int64)))])) _
    refine XS.ifYes X2.here hx rfl (pc0 := 15) (pc' := 32) rfl (hb hby d1_15) rfl ((if0 _ _).trans (flt (fun q => q2 ((lw_gt _ _).mp q))).2.2.2) (by decide) (by decide) ?_
    show Steps p.tables e below (T2.setTop (mkF m 32 #[.val (.ref a), .val (.long x1), .second, .val (.int x2), .val (.int x3)] [])) _
    refine XS.iloadN X2.here hx rfl (hb hby d1_32) rfl ?_
    show Steps p.tables e below (T2.setTop (mkF m 33 #[.val (.ref a), .val (.long x1), .second, .val (.int x2), .val (.int x3)] [(.int x2)])) _
    refine XS.ifNo X2.here hx rfl (hb hby d1_33) rfl ((if0 _ _).trans (flt q3).1) ?_
    show Steps p.tables e below (T2.setTop (mkF m 36 #[.val (.ref a), .val (.long x1), .second, .val (.int x2), .val (.int x3)] [])) _
    refine XS.iloadN X2.here hx rfl (hb hby d1_36) rfl ?_
    show Steps p.tables e below (T2.setTop (mkF m 37 #[.val (.ref a), .val (.long x1), .second, .val (.int x2), .val (.int x3)] [(.int x2)])) _
    refine XS.sipush X2.here hx rfl (hb hby d1_37) ?_
    show Steps p.tables e below (T2.setTop (mkF m 40 #[.val (.ref a), .val (.long x1), .second, .val (.int x2), .val (.int x3)] [(.int (4095 : Int32)), (.int x2)])) _
    refine XS.icmpYes X2.here hx rfl (pc0 := 40) (pc' := 57) rfl (hb hby d1_40) rfl (flt q4).2.2.2 (by decide) (by decide) ?_
    show Steps p.tables e below (T2.setTop (mkF m 57 #[.val (.ref a), .val (.long x1), .second, .val (.int x2), .val (.int x3)] [])) _
    refine XS.aloadN X2.here hx rfl (hb hby d1_57) rfl rfl ?_
    show Steps p.tables e below (T2.setTop (mkF m 58 #[.val (.ref a), .val (.long x1), .second, .val (.int x2), .val (.int x3)] [(.ref a)])) _
    refine XS.lloadN X2.here hx rfl (hb hby d1_58) rfl ?_
    show Steps p.tables e below (T2.setTop (mkF m 59 #[.val (.ref a), .val (.long x1), .second, .val (.int x2), .val (.int x3)] [(.long x1), (.ref a)])) _
    exact k)
  obtain ⟨T5, h5, X5, e5, W5, st5⟩ := putF X2 hx hZ hown (host := "") (Or.inl (hw _ (List.mem_of_getElem? (i := 13) rfl))) Via.refl e2 F_interval Ea (Or.inr ⟨(hw _ (List.mem_of_getElem? (i := 14) rfl)), rfl, hnm⟩) (hw _ (List.mem_of_getElem? (i := 4) rfl)) (ty := .long) (by decide) rfl rfl (g := (mkF m 59 #[.val (.ref a), .val (.long x1), .second, .val (.int x2), .val (.int x3)] [(.long x1), (.ref a)])) rfl rfl (hb hby d1_59)
  have Fw5 : Fld Z h5 a "com/example/kept_term/keptterm/model/Ballot" "interval" "J" (.long x1) := (F_interval).same W5
  have c6 := (Ea).wr W5
  have c8 := (F_round).other W5 (Or.inr (slot_ne (Or.inr (hw _ (List.mem_of_getElem? (i := 16) rfl))) (Or.inr (hw _ (List.mem_of_getElem? (i := 14) rfl))) (by decide) (t := .int) (t' := .long) (by decide) (by decide)))
  have c9 := (F_member).other W5 (Or.inr (slot_ne (Or.inr (hw _ (List.mem_of_getElem? (i := 22) rfl))) (Or.inr (hw _ (List.mem_of_getElem? (i := 14) rfl))) (by decide) (t := .int) (t' := .long) (by decide) (by decide)))
  have N5 := Fr.snoc X5 N0 ga
  have Zz5 : n0 ≤ h5.size := Nat.le_trans Z0 (Keep.of_wr W5).1
  have pre10 : ∀ t, Steps p.tables e below (T5.setTop (mkF m 62 #[.val (.ref a), .val (.long x1), .second, .val (.int x2), .val (.int x3)] [])) t → Steps p.tables e below (s₁.setTop (entryFrame m #[(.ref a), (.long x1), (.int x2), (.int x3)] 5)) t := fun t k => pre4 t (st5 _ k)
  have Kp5 : Keep h0 h5 [a] := ((Keep.refl h0 [a])).wr W5 (Or.inl (List.mem_of_getElem? (i := 0) rfl))
  have pre11 : ∀ t, Steps p.tables e below (T5.setTop (mkF m 64 #[.val (.ref a), .val (.long x1), .second, .val (.int x2), .val (.int x3)] [(.int x2), (.ref a)])) t → Steps p.tables e below (s₁.setTop (entryFrame m #[(.ref a), (.long x1), (.int x2), (.int x3)] 5)) t := fun t k => pre10 t (by
    show Steps p.tables e below (T5.setTop (mkF m 62 #[.val (.ref a), .val (.long x1), .second, .val (.int x2), .val (.int x3)] [])) _
    refine XS.aloadN X5.here hx rfl (hb hby d1_62) rfl rfl ?_
    show Steps p.tables e below (T5.setTop (mkF m 63 #[.val (.ref a), .val (.long x1), .second, .val (.int x2), .val (.int x3)] [(.ref a)])) _
    refine XS.iloadN X5.here hx rfl (hb hby d1_63) rfl ?_
    show Steps p.tables e below (T5.setTop (mkF m 64 #[.val (.ref a), .val (.long x1), .second, .val (.int x2), .val (.int x3)] [(.int x2), (.ref a)])) _
    exact k)
  obtain ⟨T12, h12, X12, e12, W12, st12⟩ := putF X5 hx hZ hown (host := "") (Or.inl (hw _ (List.mem_of_getElem? (i := 15) rfl))) Via.refl e5 c8 c6 (Or.inr ⟨(hw _ (List.mem_of_getElem? (i := 16) rfl)), rfl, hnm⟩) (hw _ (List.mem_of_getElem? (i := 4) rfl)) (ty := .int) (by decide) rfl rfl (g := (mkF m 64 #[.val (.ref a), .val (.long x1), .second, .val (.int x2), .val (.int x3)] [(.int x2), (.ref a)])) rfl rfl (hb hby d1_64)
  have Fw12 : Fld Z h12 a "com/example/kept_term/keptterm/model/Ballot" "round" "I" (.int x2) := (c8).same W12
  have c13 := (c6).wr W12
  have c15 := (c9).other W12 (Or.inr (slot_ne (Or.inr (hw _ (List.mem_of_getElem? (i := 22) rfl))) (Or.inr (hw _ (List.mem_of_getElem? (i := 16) rfl))) (by decide) (t := .int) (t' := .int) (by decide) (by decide)))
  have c16 := (Fw5).other W12 (Or.inr (slot_ne (Or.inr (hw _ (List.mem_of_getElem? (i := 14) rfl))) (Or.inr (hw _ (List.mem_of_getElem? (i := 16) rfl))) (by decide) (t := .long) (t' := .int) (by decide) (by decide)))
  have N12 := Fr.snoc X12 N5 ga
  have Zz12 : n0 ≤ h12.size := Nat.le_trans Zz5 (Keep.of_wr W12).1
  have pre17 : ∀ t, Steps p.tables e below (T12.setTop (mkF m 67 #[.val (.ref a), .val (.long x1), .second, .val (.int x2), .val (.int x3)] [])) t → Steps p.tables e below (s₁.setTop (entryFrame m #[(.ref a), (.long x1), (.int x2), (.int x3)] 5)) t := fun t k => pre11 t (st12 _ k)
  have Kp12 : Keep h0 h12 [a] := (Kp5).wr W12 (Or.inl (List.mem_of_getElem? (i := 0) rfl))
  have pre18 : ∀ t, Steps p.tables e below (T12.setTop (mkF m 70 #[.val (.ref a), .val (.long x1), .second, .val (.int x2), .val (.int x3)] [(.int x3), (.ref a)])) t → Steps p.tables e below (s₁.setTop (entryFrame m #[(.ref a), (.long x1), (.int x2), (.int x3)] 5)) t := fun t k => pre17 t (by
    show Steps p.tables e below (T12.setTop (mkF m 67 #[.val (.ref a), .val (.long x1), .second, .val (.int x2), .val (.int x3)] [])) _
    refine XS.aloadN X12.here hx rfl (hb hby d1_67) rfl rfl ?_
    show Steps p.tables e below (T12.setTop (mkF m 68 #[.val (.ref a), .val (.long x1), .second, .val (.int x2), .val (.int x3)] [(.ref a)])) _
    refine XS.iload X12.here hx rfl (hb hby d1_68) rfl ?_
    show Steps p.tables e below (T12.setTop (mkF m 70 #[.val (.ref a), .val (.long x1), .second, .val (.int x2), .val (.int x3)] [(.int x3), (.ref a)])) _
    exact k)
  obtain ⟨_, _, ⟨T20, L20, k20, n20⟩, -, X20, ⟨Lc20, hQ20, l20, y20, z20⟩, st20⟩ := Jvm.LawKit.callS X12 hx (y := (⟨"com/example/kept_term/keptterm/model/Group", "checkMemberId", "(I)I"⟩ : MethodName)) hown (mvT hZ (hw _ (List.mem_of_getElem? (i := 17) rfl))) (mvT hZ (hw _ (List.mem_of_getElem? (i := 18) rfl))) (mvT hZ (hw _ (List.mem_of_getElem? (i := 19) rfl))) (mvT hZ (hw _ (List.mem_of_getElem? (i := 20) rfl))) (by decide) (backOf (W := 1) (rm3 l Z a0 hw [] x3  h12 n0 Zz12  (own_need1_20_0 x1 x2 x3 q1 q2 q3 q4 q5 q6) (own_need1_20_1 x1 x2 x3 q1 q2 q3 q4 q5 q6)) hZ (hw _ (List.mem_of_getElem? (i := 20) rfl)) (hw _ (List.mem_of_getElem? (i := 19) rfl)) (by decide) (by decide)) (g := (mkF m 70 #[.val (.ref a), .val (.long x1), .second, .val (.int x2), .val (.int x3)] [(.int x3), (.ref a)])) rfl (by rw [hml]; rfl) (argsL := [(.int x3)]) (rest := [(.ref a)]) (lenOf pd_0 rfl) rfl (by show 2 * 0 + _ ≤ _; exact Nat.le_of_eq rfl) (hb hby d1_70) (fun _ _ => ⟨rfl, e12, (by decide : 0 + 0 ≤ _), (by decide : 0 + 0 ≤ _)⟩)
  dsimp only [Pt.U, Pt.locs, Pt.cells, Pt.slots] at X20 l20 y20 z20 st20 hQ20
  subst l20 y20 z20
  obtain ⟨r20, rfl, N20q, e20, P20⟩ := hQ20
  have N20 := Fr.app N12 N20q
  have pre21 : ∀ t, Steps p.tables e below (T20.setTop (mkF m 73 #[.val (.ref a), .val (.long x1), .second, .val (.int x2), .val (.int x3)] [(.int r20), (.ref a)])) t → Steps p.tables e below (s₁.setTop (entryFrame m #[(.ref a), (.long x1), (.int x2), (.int x3)] 5)) t := fun t k => pre18 t (st20 _ k)
  obtain ⟨T22, h22, X22, e22, W22, st22⟩ := putF X20 hx hZ hown (host := "") (Or.inl (hw _ (List.mem_of_getElem? (i := 21) rfl))) Via.refl e20 c15 c13 (Or.inr ⟨(hw _ (List.mem_of_getElem? (i := 22) rfl)), rfl, hnm⟩) (hw _ (List.mem_of_getElem? (i := 4) rfl)) (ty := .int) (by decide) rfl rfl (g := (mkF m 73 #[.val (.ref a), .val (.long x1), .second, .val (.int x2), .val (.int x3)] [(.int r20), (.ref a)])) rfl rfl (hb hby d1_73)
  have Fw22 : Fld Z h22 a "com/example/kept_term/keptterm/model/Ballot" "member" "I" (.int r20) := (c15).same W22
  have c23 := (c13).wr W22
  have c25 := (c16).other W22 (Or.inr (slot_ne (Or.inr (hw _ (List.mem_of_getElem? (i := 14) rfl))) (Or.inr (hw _ (List.mem_of_getElem? (i := 22) rfl))) (by decide) (t := .long) (t' := .int) (by decide) (by decide)))
  have c26 := (Fw12).other W22 (Or.inr (slot_ne (Or.inr (hw _ (List.mem_of_getElem? (i := 16) rfl))) (Or.inr (hw _ (List.mem_of_getElem? (i := 22) rfl))) (by decide) (t := .int) (t' := .int) (by decide) (by decide)))
  have N22 := Fr.snoc X22 N20 ga
  have Zz22 : n0 ≤ h22.size := Nat.le_trans Zz12 (Keep.of_wr W22).1
  have pre27 : ∀ t, Steps p.tables e below (T22.setTop (mkF m 76 #[.val (.ref a), .val (.long x1), .second, .val (.int x2), .val (.int x3)] [])) t → Steps p.tables e below (s₁.setTop (entryFrame m #[(.ref a), (.long x1), (.int x2), (.int x3)] 5)) t := fun t k => pre21 t (st22 _ k)
  have Kp22 : Keep h0 h22 [a] := (Kp12).wr W22 (Or.inl (List.mem_of_getElem? (i := 0) rfl))
  obtain ⟨fs, hr, hrun, hended, hW, hsame⟩ := X22.leave (v := none) (fun _ => rfl)
  refine ⟨_, _, pre27 _ ?_, hrun, hended, _, _, rfl, ?_, ⟨_, rfl⟩, hW, hsame.mono (by decide) (by decide)⟩
  · show Steps p.tables e below (T22.setTop (mkF m 76 #[.val (.ref a), .val (.long x1), .second, .val (.int x2), .val (.int x3)] [])) _
    exact X22.returnOut hx Bd.returns (hb hby d1_76) hr
  · show Q1 Z a x1 x2 x3 h0 n0 _ T22.heap _
    rw [e22]
    subst P20
    exact ⟨rfl, N22, Kp22, c23, c25, c26, Fw22⟩
def F4 (u_interval : Int64) (u_round : Int32) (u_member : Int32) : Int64 := (((u_interval <<< ((20 : Int32) &&& 0x3f).toInt64) ||| ((u_round.toInt64) <<< ((8 : Int32) &&& 0x3f).toInt64)) ||| (u_member.toInt64))
theorem d4_0 : decode prog_11_method_6_code 0 = .ok (.aload_n 0, 1) := by decide +kernel
theorem d4_1 : decode prog_11_method_6_code 1 = .ok (.getfield 23, 3) := by decide +kernel
theorem d4_4 : decode prog_11_method_6_code 4 = .ok (.bipush 20, 2) := by decide +kernel
theorem d4_6 : decode prog_11_method_6_code 6 = .ok (.lshl, 1) := by decide +kernel
theorem d4_7 : decode prog_11_method_6_code 7 = .ok (.aload_n 0, 1) := by decide +kernel
theorem d4_8 : decode prog_11_method_6_code 8 = .ok (.getfield 27, 3) := by decide +kernel
theorem d4_11 : decode prog_11_method_6_code 11 = .ok (.i2l, 1) := by decide +kernel
theorem d4_12 : decode prog_11_method_6_code 12 = .ok (.bipush 8, 2) := by decide +kernel
theorem d4_14 : decode prog_11_method_6_code 14 = .ok (.lshl, 1) := by decide +kernel
theorem d4_15 : decode prog_11_method_6_code 15 = .ok (.lor, 1) := by decide +kernel
theorem d4_16 : decode prog_11_method_6_code 16 = .ok (.aload_n 0, 1) := by decide +kernel
theorem d4_17 : decode prog_11_method_6_code 17 = .ok (.getfield 37, 3) := by decide +kernel
theorem d4_20 : decode prog_11_method_6_code 20 = .ok (.i2l, 1) := by decide +kernel
theorem d4_21 : decode prog_11_method_6_code 21 = .ok (.lor, 1) := by decide +kernel
theorem d4_22 : decode prog_11_method_6_code 22 = .ok (.lreturn, 1) := by decide +kernel
theorem ef_4 (m : MethodId) (x0 : Addr) : entryFrame m #[(.ref x0)] 1 = mkF m 0 #[.val (.ref x0)] [] := by first | (simp [entryFrame, mkF, argsToLocals, Value.category]; done) | rfl
def Q4 (Z : State) (a : Addr) (u_interval : Int64) (u_round : Int32) (u_member : Int32) (h0 : Heap) (n0 : Nat) (v : Option Value) (h : Heap) (L : List Loc) : Prop := ∃ z : Int64, v = some (.long z) ∧ Fr n0 L ∧ h = h0 ∧ (z = F4 u_interval u_round u_member)
set_option maxRecDepth 65536 in
set_option maxHeartbeats 40000000 in
theorem rm4 (l : Launch) (Z : State) (a0 : Array Value) (hw : ∀ d ∈ tables_1, d.before a0 Z = true) (ws : List Jvm.Cond) (a : Addr) (u_interval : Int64) (u_round : Int32) (u_member : Int32) (h0 : Heap) (n0 : Nat) (Z0 : n0 ≤ h0.size) (F_interval : Fld Z h0 a "com/example/kept_term/keptterm/model/Ballot" "interval" "J" (.long u_interval)) (F_round : Fld Z h0 a "com/example/kept_term/keptterm/model/Ballot" "round" "I" (.int u_round)) (F_member : Fld Z h0 a "com/example/kept_term/keptterm/model/Ballot" "member" "I" (.int u_member)) :
    MetFree l (⟨"com/example/kept_term/keptterm/model/Ballot", "token", "()J"⟩ : MethodName) (head1 (Jvm.Cond.code (⟨"com/example/kept_term/keptterm/model/Ballot", "token", "()J"⟩ : MethodName) prog_11_method_6_code 1 (some .long) :: ws) ({ frames := 0, cells := 0, slots := 0, locals := 0 } : Room)) (fun aa U => aa = #[(.ref a)] ∧ Z.Warmed39 U.vm ∧ U.heap = h0) (fun _ _ _ _ _ => True) (fun _ U o U' => ∃ v L, o = .returned v ∧ Q4 Z a u_interval u_round u_member h0 n0 v U'.heap L ∧ FrameEnd U o U' L ({ frames := 0, cells := 0, slots := 0, locals := 0 } : Room).cells ({ frames := 0, cells := 0, slots := 0, locals := 0 } : Room).slots) := by
  refine MetFree.of_bodySF (plainFor_of_name pn_1) hisR ?_
  intro p e s m args below meth c s₁ Bd hml0 hP hK
  obtain ⟨rfl, hZ, hh⟩ := hP
  have hx := Bd.exec
  have hby := Bd.bytes
  have hml : c.maxLocals = 1 := hml0
  have hown : s.vm.findClass "com/example/kept_term/keptterm/model/Ballot" = some m.cls := findClass_of_methodNamed Bd.named
  have hnm := (name_of_methodNamed Bd.named Bd.method).1
  have X0 : Stand p l e ({ frames := 0, cells := 0, slots := 0, locals := 0 } : Room) s m #[(.ref a)] below meth c s₁ [] 0 0 := Stand.of_body Bd
  have e0 : s₁.heap = h0 := by rw [← hh, Bd.state]; rfl
  have N0 := Fr.nil n0
  have pre0 : ∀ t, Steps p.tables e below (s₁.setTop (mkF m 0 #[.val (.ref a)] [])) t → Steps p.tables e below (s₁.setTop (entryFrame m #[(.ref a)] 1)) t := fun t k => castTop (ef_4 m a) k
  have pre1 : ∀ t, Steps p.tables e below (s₁.setTop (mkF m 1 #[.val (.ref a)] [(.ref a)])) t → Steps p.tables e below (s₁.setTop (entryFrame m #[(.ref a)] 1)) t := fun t k => pre0 t (by
    show Steps p.tables e below (s₁.setTop (mkF m 0 #[.val (.ref a)] [])) _
    refine XS.aloadN X0.here hx rfl (hb hby d4_0) rfl rfl ?_
    show Steps p.tables e below (s₁.setTop (mkF m 1 #[.val (.ref a)] [(.ref a)])) _
    exact k)
  obtain ⟨T2, X2, e2, st2⟩ := getF X0 hx hZ hown (host := "") (Or.inl (hw _ (List.mem_of_getElem? (i := 13) rfl))) Via.refl e0 F_interval (g := (mkF m 1 #[.val (.ref a)] [(.ref a)])) rfl rfl (hb hby d4_1)
  have pre3 : ∀ t, Steps p.tables e below (T2.setTop (mkF m 4 #[.val (.ref a)] [(.long u_interval)])) t → Steps p.tables e below (s₁.setTop (entryFrame m #[(.ref a)] 1)) t := fun t k => pre1 t (st2 _ k)
  have pre4 : ∀ t, Steps p.tables e below (T2.setTop (mkF m 8 #[.val (.ref a)] [(.ref a), (.long (u_interval <<< ((20 : Int32) &&& 0x3f).toInt64))])) t → Steps p.tables e below (s₁.setTop (entryFrame m #[(.ref a)] 1)) t := fun t k => pre3 t (by
    show Steps p.tables e below (T2.setTop (mkF m 4 #[.val (.ref a)] [(.long u_interval)])) _
    refine XS.bipush X2.here hx rfl (hb hby d4_4) ?_
    show Steps p.tables e below (T2.setTop (mkF m 6 #[.val (.ref a)] [(.int (20 : Int32)), (.long u_interval)])) _
    refine XS.lshl X2.here hx rfl (hb hby d4_6) rfl ?_
    show Steps p.tables e below (T2.setTop (mkF m 7 #[.val (.ref a)] [(.long (u_interval <<< ((20 : Int32) &&& 0x3f).toInt64))])) _
    refine XS.aloadN X2.here hx rfl (hb hby d4_7) rfl rfl ?_
    show Steps p.tables e below (T2.setTop (mkF m 8 #[.val (.ref a)] [(.ref a), (.long (u_interval <<< ((20 : Int32) &&& 0x3f).toInt64))])) _
    exact k)
  obtain ⟨T5, X5, e5, st5⟩ := getF X2 hx hZ hown (host := "") (Or.inl (hw _ (List.mem_of_getElem? (i := 15) rfl))) Via.refl e2 F_round (g := (mkF m 8 #[.val (.ref a)] [(.ref a), (.long (u_interval <<< ((20 : Int32) &&& 0x3f).toInt64))])) rfl rfl (hb hby d4_8)
  have pre6 : ∀ t, Steps p.tables e below (T5.setTop (mkF m 11 #[.val (.ref a)] [(.int u_round), (.long (u_interval <<< ((20 : Int32) &&& 0x3f).toInt64))])) t → Steps p.tables e below (s₁.setTop (entryFrame m #[(.ref a)] 1)) t := fun t k => pre4 t (st5 _ k)
  have pre7 : ∀ t, Steps p.tables e below (T5.setTop (mkF m 17 #[.val (.ref a)] [(.ref a), (.long ((u_interval <<< ((20 : Int32) &&& 0x3f).toInt64) ||| ((u_round.toInt64) <<< ((8 : Int32) &&& 0x3f).toInt64)))])) t → Steps p.tables e below (s₁.setTop (entryFrame m #[(.ref a)] 1)) t := fun t k => pre6 t (by
    show Steps p.tables e below (T5.setTop (mkF m 11 #[.val (.ref a)] [(.int u_round), (.long (u_interval <<< ((20 : Int32) &&& 0x3f).toInt64))])) _
    refine XS.i2l X5.here hx rfl (hb hby d4_11) rfl ?_
    show Steps p.tables e below (T5.setTop (mkF m 12 #[.val (.ref a)] [(.long (u_round.toInt64)), (.long (u_interval <<< ((20 : Int32) &&& 0x3f).toInt64))])) _
    refine XS.bipush X5.here hx rfl (hb hby d4_12) ?_
    show Steps p.tables e below (T5.setTop (mkF m 14 #[.val (.ref a)] [(.int (8 : Int32)), (.long (u_round.toInt64)), (.long (u_interval <<< ((20 : Int32) &&& 0x3f).toInt64))])) _
    refine XS.lshl X5.here hx rfl (hb hby d4_14) rfl ?_
    show Steps p.tables e below (T5.setTop (mkF m 15 #[.val (.ref a)] [(.long ((u_round.toInt64) <<< ((8 : Int32) &&& 0x3f).toInt64)), (.long (u_interval <<< ((20 : Int32) &&& 0x3f).toInt64))])) _
    refine XS.lor X5.here hx rfl (hb hby d4_15) rfl ?_
    show Steps p.tables e below (T5.setTop (mkF m 16 #[.val (.ref a)] [(.long ((u_interval <<< ((20 : Int32) &&& 0x3f).toInt64) ||| ((u_round.toInt64) <<< ((8 : Int32) &&& 0x3f).toInt64)))])) _
    refine XS.aloadN X5.here hx rfl (hb hby d4_16) rfl rfl ?_
    show Steps p.tables e below (T5.setTop (mkF m 17 #[.val (.ref a)] [(.ref a), (.long ((u_interval <<< ((20 : Int32) &&& 0x3f).toInt64) ||| ((u_round.toInt64) <<< ((8 : Int32) &&& 0x3f).toInt64)))])) _
    exact k)
  obtain ⟨T8, X8, e8, st8⟩ := getF X5 hx hZ hown (host := "") (Or.inl (hw _ (List.mem_of_getElem? (i := 21) rfl))) Via.refl e5 F_member (g := (mkF m 17 #[.val (.ref a)] [(.ref a), (.long ((u_interval <<< ((20 : Int32) &&& 0x3f).toInt64) ||| ((u_round.toInt64) <<< ((8 : Int32) &&& 0x3f).toInt64)))])) rfl rfl (hb hby d4_17)
  have pre9 : ∀ t, Steps p.tables e below (T8.setTop (mkF m 20 #[.val (.ref a)] [(.int u_member), (.long ((u_interval <<< ((20 : Int32) &&& 0x3f).toInt64) ||| ((u_round.toInt64) <<< ((8 : Int32) &&& 0x3f).toInt64)))])) t → Steps p.tables e below (s₁.setTop (entryFrame m #[(.ref a)] 1)) t := fun t k => pre7 t (st8 _ k)
  have pre10 : ∀ t, Steps p.tables e below (T8.setTop (mkF m 22 #[.val (.ref a)] [(.long (((u_interval <<< ((20 : Int32) &&& 0x3f).toInt64) ||| ((u_round.toInt64) <<< ((8 : Int32) &&& 0x3f).toInt64)) ||| (u_member.toInt64)))])) t → Steps p.tables e below (s₁.setTop (entryFrame m #[(.ref a)] 1)) t := fun t k => pre9 t (by
    show Steps p.tables e below (T8.setTop (mkF m 20 #[.val (.ref a)] [(.int u_member), (.long ((u_interval <<< ((20 : Int32) &&& 0x3f).toInt64) ||| ((u_round.toInt64) <<< ((8 : Int32) &&& 0x3f).toInt64)))])) _
    refine XS.i2l X8.here hx rfl (hb hby d4_20) rfl ?_
    show Steps p.tables e below (T8.setTop (mkF m 21 #[.val (.ref a)] [(.long (u_member.toInt64)), (.long ((u_interval <<< ((20 : Int32) &&& 0x3f).toInt64) ||| ((u_round.toInt64) <<< ((8 : Int32) &&& 0x3f).toInt64)))])) _
    refine XS.lor X8.here hx rfl (hb hby d4_21) rfl ?_
    show Steps p.tables e below (T8.setTop (mkF m 22 #[.val (.ref a)] [(.long (((u_interval <<< ((20 : Int32) &&& 0x3f).toInt64) ||| ((u_round.toInt64) <<< ((8 : Int32) &&& 0x3f).toInt64)) ||| (u_member.toInt64)))])) _
    exact k)
  obtain ⟨fs, hr, hrun, hended, hW, hsame⟩ := X8.leave (v := some (.long (((u_interval <<< ((20 : Int32) &&& 0x3f).toInt64) ||| ((u_round.toInt64) <<< ((8 : Int32) &&& 0x3f).toInt64)) ||| (u_member.toInt64)))) (fun h => by rw [Bd.returns] at h; cases h)
  refine ⟨_, _, pre10 _ ?_, hrun, hended, _, _, rfl, ?_, ⟨_, rfl⟩, hW, hsame.mono (by decide) (by decide)⟩
  · show Steps p.tables e below (T8.setTop (mkF m 22 #[.val (.ref a)] [(.long (((u_interval <<< ((20 : Int32) &&& 0x3f).toInt64) ||| ((u_round.toInt64) <<< ((8 : Int32) &&& 0x3f).toInt64)) ||| (u_member.toInt64)))])) _
    exact X8.lreturnOut hx Bd.returns (hb hby d4_22) hr
  · show Q4 Z a u_interval u_round u_member h0 n0 _ T8.heap _
    rw [e8]
    exact ⟨_, rfl, N0, rfl, by rw [F4]⟩
def F5 (x0 : Int64) (x1 : Int64) : Int32 := (if x0 < x1 then (-1 : Int32) else (if x1 < x0 then (1 : Int32) else (0 : Int32)))
theorem pn_2 : plainName "com/example/kept_term/keptterm/model/BallotTokenPinLaw" = true := by first | (simp [plainName, overriddenIn]; done) | decide +kernel
theorem d5_0 : decode method_2_code 0 = .ok (.lload_n 0, 1) := by decide +kernel
theorem d5_1 : decode method_2_code 1 = .ok (.lload_n 2, 1) := by decide +kernel
theorem d5_2 : decode method_2_code 2 = .ok (.lcmp, 1) := by decide +kernel
theorem d5_3 : decode method_2_code 3 = .ok (.ifCond .ge 5, 3) := by decide +kernel
theorem d5_6 : decode method_2_code 6 = .ok (.iconst (-1), 1) := by decide +kernel
theorem d5_7 : decode method_2_code 7 = .ok (.ireturn, 1) := by decide +kernel
theorem d5_8 : decode method_2_code 8 = .ok (.lload_n 0, 1) := by decide +kernel
theorem d5_9 : decode method_2_code 9 = .ok (.lload_n 2, 1) := by decide +kernel
theorem d5_10 : decode method_2_code 10 = .ok (.lcmp, 1) := by decide +kernel
theorem d5_11 : decode method_2_code 11 = .ok (.ifCond .le 5, 3) := by decide +kernel
theorem d5_14 : decode method_2_code 14 = .ok (.iconst 1, 1) := by decide +kernel
theorem d5_15 : decode method_2_code 15 = .ok (.ireturn, 1) := by decide +kernel
theorem d5_16 : decode method_2_code 16 = .ok (.iconst 0, 1) := by decide +kernel
theorem d5_17 : decode method_2_code 17 = .ok (.ireturn, 1) := by decide +kernel
theorem ef_5 (m : MethodId) (x0 : Int64) (x1 : Int64) : entryFrame m #[(.long x0), (.long x1)] 4 = mkF m 0 #[.val (.long x0), .second, .val (.long x1), .second] [] := by first | (simp [entryFrame, mkF, argsToLocals, Value.category]; done) | rfl
def Q5 (Z : State) (x0 : Int64) (x1 : Int64) (h0 : Heap) (n0 : Nat) (v : Option Value) (h : Heap) (L : List Loc) : Prop := ∃ z : Int32, v = some (.int z) ∧ Fr n0 L ∧ h = h0 ∧ z = F5 x0 x1
set_option maxRecDepth 65536 in
set_option maxHeartbeats 40000000 in
theorem rm5 (l : Launch) (Z : State) (a0 : Array Value) (hw : ∀ d ∈ tables_1, d.before a0 Z = true) (ws : List Jvm.Cond) (x0 : Int64) (x1 : Int64) (h0 : Heap) (n0 : Nat) (Z0 : n0 ≤ h0.size) :
    MetFree l (⟨"com/example/kept_term/keptterm/model/BallotTokenPinLaw", "cmpLong", "(JJ)I"⟩ : MethodName) (head1 (Jvm.Cond.code (⟨"com/example/kept_term/keptterm/model/BallotTokenPinLaw", "cmpLong", "(JJ)I"⟩ : MethodName) method_2_code 4 (some .int) :: ws) ({ frames := 0, cells := 0, slots := 0, locals := 0 } : Room)) (fun aa U => aa = #[(.long x0), (.long x1)] ∧ Z.Warmed39 U.vm ∧ U.heap = h0) (fun _ _ _ _ _ => True) (fun _ U o U' => ∃ v L, o = .returned v ∧ Q5 Z x0 x1 h0 n0 v U'.heap L ∧ FrameEnd U o U' L ({ frames := 0, cells := 0, slots := 0, locals := 0 } : Room).cells ({ frames := 0, cells := 0, slots := 0, locals := 0 } : Room).slots) := by
  refine MetFree.of_bodySF (plainFor_of_name pn_2) hisR ?_
  intro p e s m args below meth c s₁ Bd hml0 hP hK
  obtain ⟨rfl, hZ, hh⟩ := hP
  have hx := Bd.exec
  have hby := Bd.bytes
  have hml : c.maxLocals = 4 := hml0
  have hown : s.vm.findClass "com/example/kept_term/keptterm/model/BallotTokenPinLaw" = some m.cls := findClass_of_methodNamed Bd.named
  have hnm := (name_of_methodNamed Bd.named Bd.method).1
  have X0 : Stand p l e ({ frames := 0, cells := 0, slots := 0, locals := 0 } : Room) s m #[(.long x0), (.long x1)] below meth c s₁ [] 0 0 := Stand.of_body Bd
  have e0 : s₁.heap = h0 := by rw [← hh, Bd.state]; rfl
  have N0 := Fr.nil n0
  have pre0 : ∀ t, Steps p.tables e below (s₁.setTop (mkF m 0 #[.val (.long x0), .second, .val (.long x1), .second] [])) t → Steps p.tables e below (s₁.setTop (entryFrame m #[(.long x0), (.long x1)] 4)) t := fun t k => castTop (ef_5 m x0 x1) k
  have pre1 : ∀ t, Steps p.tables e below (s₁.setTop (mkF m 3 #[.val (.long x0), .second, .val (.long x1), .second] [(.int (lcmpW x0 x1))])) t → Steps p.tables e below (s₁.setTop (entryFrame m #[(.long x0), (.long x1)] 4)) t := fun t k => pre0 t (by
    show Steps p.tables e below (s₁.setTop (mkF m 0 #[.val (.long x0), .second, .val (.long x1), .second] [])) _
    refine XS.lloadN X0.here hx rfl (hb hby d5_0) rfl ?_
    show Steps p.tables e below (s₁.setTop (mkF m 1 #[.val (.long x0), .second, .val (.long x1), .second] [(.long x0)])) _
    refine XS.lloadN X0.here hx rfl (hb hby d5_1) rfl ?_
    show Steps p.tables e below (s₁.setTop (mkF m 2 #[.val (.long x0), .second, .val (.long x1), .second] [(.long x1), (.long x0)])) _
    refine XS.lcmp X0.here hx rfl (hb hby d5_2) rfl ?_
    show Steps p.tables e below (s₁.setTop (mkF m 3 #[.val (.long x0), .second, .val (.long x1), .second] [(.int (lcmpW x0 x1))])) _
    exact k)
  by_cases hc2 : x0 < x1
  · skip
    have pre3 : ∀ t, Steps p.tables e below (s₁.setTop (mkF m 7 #[.val (.long x0), .second, .val (.long x1), .second] [(.int (-1 : Int32))])) t → Steps p.tables e below (s₁.setTop (entryFrame m #[(.long x0), (.long x1)] 4)) t := fun t k => pre1 t (by
      show Steps p.tables e below (s₁.setTop (mkF m 3 #[.val (.long x0), .second, .val (.long x1), .second] [(.int (lcmpW x0 x1))])) _
      refine XS.ifNo X0.here hx rfl (hb hby d5_3) rfl ((if0 _ _).trans (tlt ((lw_lt _ _).mpr hc2)).2.1) ?_
      show Steps p.tables e below (s₁.setTop (mkF m 6 #[.val (.long x0), .second, .val (.long x1), .second] [])) _
      refine XS.iconst X0.here hx rfl (hb hby d5_6) ?_
      show Steps p.tables e below (s₁.setTop (mkF m 7 #[.val (.long x0), .second, .val (.long x1), .second] [(.int (-1 : Int32))])) _
      exact k)
    obtain ⟨fs, hr, hrun, hended, hW, hsame⟩ := X0.leave (v := some (.int (-1 : Int32))) (fun h => by rw [Bd.returns] at h; cases h)
    refine ⟨_, _, pre3 _ ?_, hrun, hended, _, _, rfl, ?_, ⟨_, rfl⟩, hW, hsame.mono (by decide) (by decide)⟩
    · show Steps p.tables e below (s₁.setTop (mkF m 7 #[.val (.long x0), .second, .val (.long x1), .second] [(.int (-1 : Int32))])) _
      exact retI X0 hx Bd.returns (hb hby d5_7) hr
    · show Q5 Z x0 x1 h0 n0 _ s₁.heap _
      rw [e0]
      exact ⟨_, rfl, N0, rfl, by rw [F5, if_pos hc2]⟩
  · skip
    have pre4 : ∀ t, Steps p.tables e below (s₁.setTop (mkF m 11 #[.val (.long x0), .second, .val (.long x1), .second] [(.int (lcmpW x0 x1))])) t → Steps p.tables e below (s₁.setTop (entryFrame m #[(.long x0), (.long x1)] 4)) t := fun t k => pre1 t (by
      show Steps p.tables e below (s₁.setTop (mkF m 3 #[.val (.long x0), .second, .val (.long x1), .second] [(.int (lcmpW x0 x1))])) _
      refine XS.ifYes X0.here hx rfl (pc0 := 3) (pc' := 8) rfl (hb hby d5_3) rfl ((if0 _ _).trans (flt (fun q => hc2 ((lw_lt _ _).mp q))).2.1) (by decide) (by decide) ?_
      show Steps p.tables e below (s₁.setTop (mkF m 8 #[.val (.long x0), .second, .val (.long x1), .second] [])) _
      refine XS.lloadN X0.here hx rfl (hb hby d5_8) rfl ?_
      show Steps p.tables e below (s₁.setTop (mkF m 9 #[.val (.long x0), .second, .val (.long x1), .second] [(.long x0)])) _
      refine XS.lloadN X0.here hx rfl (hb hby d5_9) rfl ?_
      show Steps p.tables e below (s₁.setTop (mkF m 10 #[.val (.long x0), .second, .val (.long x1), .second] [(.long x1), (.long x0)])) _
      refine XS.lcmp X0.here hx rfl (hb hby d5_10) rfl ?_
      show Steps p.tables e below (s₁.setTop (mkF m 11 #[.val (.long x0), .second, .val (.long x1), .second] [(.int (lcmpW x0 x1))])) _
      exact k)
    by_cases hc5 : x1 < x0
    · skip
      have pre6 : ∀ t, Steps p.tables e below (s₁.setTop (mkF m 15 #[.val (.long x0), .second, .val (.long x1), .second] [(.int (1 : Int32))])) t → Steps p.tables e below (s₁.setTop (entryFrame m #[(.long x0), (.long x1)] 4)) t := fun t k => pre4 t (by
        show Steps p.tables e below (s₁.setTop (mkF m 11 #[.val (.long x0), .second, .val (.long x1), .second] [(.int (lcmpW x0 x1))])) _
        refine XS.ifNo X0.here hx rfl (hb hby d5_11) rfl ((if0 _ _).trans (tlt ((lw_gt _ _).mpr hc5)).2.2.2) ?_
        show Steps p.tables e below (s₁.setTop (mkF m 14 #[.val (.long x0), .second, .val (.long x1), .second] [])) _
        refine XS.iconst X0.here hx rfl (hb hby d5_14) ?_
        show Steps p.tables e below (s₁.setTop (mkF m 15 #[.val (.long x0), .second, .val (.long x1), .second] [(.int (1 : Int32))])) _
        exact k)
      obtain ⟨fs, hr, hrun, hended, hW, hsame⟩ := X0.leave (v := some (.int (1 : Int32))) (fun h => by rw [Bd.returns] at h; cases h)
      refine ⟨_, _, pre6 _ ?_, hrun, hended, _, _, rfl, ?_, ⟨_, rfl⟩, hW, hsame.mono (by decide) (by decide)⟩
      · show Steps p.tables e below (s₁.setTop (mkF m 15 #[.val (.long x0), .second, .val (.long x1), .second] [(.int (1 : Int32))])) _
        exact retI X0 hx Bd.returns (hb hby d5_15) hr
      · show Q5 Z x0 x1 h0 n0 _ s₁.heap _
        rw [e0]
        exact ⟨_, rfl, N0, rfl, by rw [F5, if_neg hc2, if_pos hc5]⟩
    · skip
      have pre7 : ∀ t, Steps p.tables e below (s₁.setTop (mkF m 17 #[.val (.long x0), .second, .val (.long x1), .second] [(.int (0 : Int32))])) t → Steps p.tables e below (s₁.setTop (entryFrame m #[(.long x0), (.long x1)] 4)) t := fun t k => pre4 t (by
        show Steps p.tables e below (s₁.setTop (mkF m 11 #[.val (.long x0), .second, .val (.long x1), .second] [(.int (lcmpW x0 x1))])) _
        refine XS.ifYes X0.here hx rfl (pc0 := 11) (pc' := 16) rfl (hb hby d5_11) rfl ((if0 _ _).trans (flt (fun q => hc5 ((lw_gt _ _).mp q))).2.2.2) (by decide) (by decide) ?_
        show Steps p.tables e below (s₁.setTop (mkF m 16 #[.val (.long x0), .second, .val (.long x1), .second] [])) _
        refine XS.iconst X0.here hx rfl (hb hby d5_16) ?_
        show Steps p.tables e below (s₁.setTop (mkF m 17 #[.val (.long x0), .second, .val (.long x1), .second] [(.int (0 : Int32))])) _
        exact k)
      obtain ⟨fs, hr, hrun, hended, hW, hsame⟩ := X0.leave (v := some (.int (0 : Int32))) (fun h => by rw [Bd.returns] at h; cases h)
      refine ⟨_, _, pre7 _ ?_, hrun, hended, _, _, rfl, ?_, ⟨_, rfl⟩, hW, hsame.mono (by decide) (by decide)⟩
      · show Steps p.tables e below (s₁.setTop (mkF m 17 #[.val (.long x0), .second, .val (.long x1), .second] [(.int (0 : Int32))])) _
        exact retI X0 hx Bd.returns (hb hby d5_17) hr
      · show Q5 Z x0 x1 h0 n0 _ s₁.heap _
        rw [e0]
        exact ⟨_, rfl, N0, rfl, by rw [F5, if_neg hc2, if_neg hc5]⟩
def F6 (x0 : Int64) (x1 : Int32) (x2 : Int32) (x3 : Int64) (x4 : Int32) (x5 : Int32) : Int32 := (if x0 = x3 then (if x1 = x4 then (if x2 = x5 then (0 : Int32) else (if x2 < x5 then (-1 : Int32) else (1 : Int32))) else (if x1 < x4 then (-1 : Int32) else (1 : Int32))) else (if x0 < x3 then (-1 : Int32) else (1 : Int32)))
theorem d6_0 : decode method_3_code 0 = .ok (.lload_n 0, 1) := by decide +kernel
theorem d6_1 : decode method_3_code 1 = .ok (.lload 4, 2) := by decide +kernel
theorem d6_3 : decode method_3_code 3 = .ok (.lcmp, 1) := by decide +kernel
theorem d6_4 : decode method_3_code 4 = .ok (.ifCond .eq 16, 3) := by decide +kernel
theorem d6_7 : decode method_3_code 7 = .ok (.lload_n 0, 1) := by decide +kernel
theorem d6_8 : decode method_3_code 8 = .ok (.lload 4, 2) := by decide +kernel
theorem d6_10 : decode method_3_code 10 = .ok (.lcmp, 1) := by decide +kernel
theorem d6_11 : decode method_3_code 11 = .ok (.ifCond .ge 7, 3) := by decide +kernel
theorem d6_14 : decode method_3_code 14 = .ok (.iconst (-1), 1) := by decide +kernel
theorem d6_15 : decode method_3_code 15 = .ok (.goto 4, 3) := by decide +kernel
theorem d6_18 : decode method_3_code 18 = .ok (.iconst 1, 1) := by decide +kernel
theorem d6_19 : decode method_3_code 19 = .ok (.ireturn, 1) := by decide +kernel
theorem d6_20 : decode method_3_code 20 = .ok (.iload_n 2, 1) := by decide +kernel
theorem d6_21 : decode method_3_code 21 = .ok (.iload 6, 2) := by decide +kernel
theorem d6_23 : decode method_3_code 23 = .ok (.if_icmp .eq 15, 3) := by decide +kernel
theorem d6_26 : decode method_3_code 26 = .ok (.iload_n 2, 1) := by decide +kernel
theorem d6_27 : decode method_3_code 27 = .ok (.iload 6, 2) := by decide +kernel
theorem d6_29 : decode method_3_code 29 = .ok (.if_icmp .ge 7, 3) := by decide +kernel
theorem d6_32 : decode method_3_code 32 = .ok (.iconst (-1), 1) := by decide +kernel
theorem d6_33 : decode method_3_code 33 = .ok (.goto 4, 3) := by decide +kernel
theorem d6_36 : decode method_3_code 36 = .ok (.iconst 1, 1) := by decide +kernel
theorem d6_37 : decode method_3_code 37 = .ok (.ireturn, 1) := by decide +kernel
theorem d6_38 : decode method_3_code 38 = .ok (.iload_n 3, 1) := by decide +kernel
theorem d6_39 : decode method_3_code 39 = .ok (.iload 7, 2) := by decide +kernel
theorem d6_41 : decode method_3_code 41 = .ok (.if_icmp .eq 15, 3) := by decide +kernel
theorem d6_44 : decode method_3_code 44 = .ok (.iload_n 3, 1) := by decide +kernel
theorem d6_45 : decode method_3_code 45 = .ok (.iload 7, 2) := by decide +kernel
theorem d6_47 : decode method_3_code 47 = .ok (.if_icmp .ge 7, 3) := by decide +kernel
theorem d6_50 : decode method_3_code 50 = .ok (.iconst (-1), 1) := by decide +kernel
theorem d6_51 : decode method_3_code 51 = .ok (.goto 4, 3) := by decide +kernel
theorem d6_54 : decode method_3_code 54 = .ok (.iconst 1, 1) := by decide +kernel
theorem d6_55 : decode method_3_code 55 = .ok (.ireturn, 1) := by decide +kernel
theorem d6_56 : decode method_3_code 56 = .ok (.iconst 0, 1) := by decide +kernel
theorem d6_57 : decode method_3_code 57 = .ok (.ireturn, 1) := by decide +kernel
theorem ef_6 (m : MethodId) (x0 : Int64) (x1 : Int32) (x2 : Int32) (x3 : Int64) (x4 : Int32) (x5 : Int32) : entryFrame m #[(.long x0), (.int x1), (.int x2), (.long x3), (.int x4), (.int x5)] 8 = mkF m 0 #[.val (.long x0), .second, .val (.int x1), .val (.int x2), .val (.long x3), .second, .val (.int x4), .val (.int x5)] [] := by first | (simp [entryFrame, mkF, argsToLocals, Value.category]; done) | rfl
def Q6 (Z : State) (x0 : Int64) (x1 : Int32) (x2 : Int32) (x3 : Int64) (x4 : Int32) (x5 : Int32) (h0 : Heap) (n0 : Nat) (v : Option Value) (h : Heap) (L : List Loc) : Prop := ∃ z : Int32, v = some (.int z) ∧ Fr n0 L ∧ h = h0 ∧ z = F6 x0 x1 x2 x3 x4 x5
set_option maxRecDepth 65536 in
set_option maxHeartbeats 40000000 in
theorem rm6 (l : Launch) (Z : State) (a0 : Array Value) (hw : ∀ d ∈ tables_1, d.before a0 Z = true) (ws : List Jvm.Cond) (x0 : Int64) (x1 : Int32) (x2 : Int32) (x3 : Int64) (x4 : Int32) (x5 : Int32) (h0 : Heap) (n0 : Nat) (Z0 : n0 ≤ h0.size) :
    MetFree l (⟨"com/example/kept_term/keptterm/model/BallotTokenPinLaw", "lex", "(JIIJII)I"⟩ : MethodName) (head1 (Jvm.Cond.code (⟨"com/example/kept_term/keptterm/model/BallotTokenPinLaw", "lex", "(JIIJII)I"⟩ : MethodName) method_3_code 8 (some .int) :: ws) ({ frames := 0, cells := 0, slots := 0, locals := 0 } : Room)) (fun aa U => aa = #[(.long x0), (.int x1), (.int x2), (.long x3), (.int x4), (.int x5)] ∧ Z.Warmed39 U.vm ∧ U.heap = h0) (fun _ _ _ _ _ => True) (fun _ U o U' => ∃ v L, o = .returned v ∧ Q6 Z x0 x1 x2 x3 x4 x5 h0 n0 v U'.heap L ∧ FrameEnd U o U' L ({ frames := 0, cells := 0, slots := 0, locals := 0 } : Room).cells ({ frames := 0, cells := 0, slots := 0, locals := 0 } : Room).slots) := by
  refine MetFree.of_bodySF (plainFor_of_name pn_2) hisR ?_
  intro p e s m args below meth c s₁ Bd hml0 hP hK
  obtain ⟨rfl, hZ, hh⟩ := hP
  have hx := Bd.exec
  have hby := Bd.bytes
  have hml : c.maxLocals = 8 := hml0
  have hown : s.vm.findClass "com/example/kept_term/keptterm/model/BallotTokenPinLaw" = some m.cls := findClass_of_methodNamed Bd.named
  have hnm := (name_of_methodNamed Bd.named Bd.method).1
  have X0 : Stand p l e ({ frames := 0, cells := 0, slots := 0, locals := 0 } : Room) s m #[(.long x0), (.int x1), (.int x2), (.long x3), (.int x4), (.int x5)] below meth c s₁ [] 0 0 := Stand.of_body Bd
  have e0 : s₁.heap = h0 := by rw [← hh, Bd.state]; rfl
  have N0 := Fr.nil n0
  have pre0 : ∀ t, Steps p.tables e below (s₁.setTop (mkF m 0 #[.val (.long x0), .second, .val (.int x1), .val (.int x2), .val (.long x3), .second, .val (.int x4), .val (.int x5)] [])) t → Steps p.tables e below (s₁.setTop (entryFrame m #[(.long x0), (.int x1), (.int x2), (.long x3), (.int x4), (.int x5)] 8)) t := fun t k => castTop (ef_6 m x0 x1 x2 x3 x4 x5) k
  have pre1 : ∀ t, Steps p.tables e below (s₁.setTop (mkF m 4 #[.val (.long x0), .second, .val (.int x1), .val (.int x2), .val (.long x3), .second, .val (.int x4), .val (.int x5)] [(.int (lcmpW x0 x3))])) t → Steps p.tables e below (s₁.setTop (entryFrame m #[(.long x0), (.int x1), (.int x2), (.long x3), (.int x4), (.int x5)] 8)) t := fun t k => pre0 t (by
    show Steps p.tables e below (s₁.setTop (mkF m 0 #[.val (.long x0), .second, .val (.int x1), .val (.int x2), .val (.long x3), .second, .val (.int x4), .val (.int x5)] [])) _
    refine XS.lloadN X0.here hx rfl (hb hby d6_0) rfl ?_
    show Steps p.tables e below (s₁.setTop (mkF m 1 #[.val (.long x0), .second, .val (.int x1), .val (.int x2), .val (.long x3), .second, .val (.int x4), .val (.int x5)] [(.long x0)])) _
    refine XS.lload X0.here hx rfl (hb hby d6_1) rfl ?_
    show Steps p.tables e below (s₁.setTop (mkF m 3 #[.val (.long x0), .second, .val (.int x1), .val (.int x2), .val (.long x3), .second, .val (.int x4), .val (.int x5)] [(.long x3), (.long x0)])) _
    refine XS.lcmp X0.here hx rfl (hb hby d6_3) rfl ?_
    show Steps p.tables e below (s₁.setTop (mkF m 4 #[.val (.long x0), .second, .val (.int x1), .val (.int x2), .val (.long x3), .second, .val (.int x4), .val (.int x5)] [(.int (lcmpW x0 x3))])) _
    exact k)
  by_cases hc2 : x0 = x3
  · skip
    have pre3 : ∀ t, Steps p.tables e below (s₁.setTop (mkF m 23 #[.val (.long x0), .second, .val (.int x1), .val (.int x2), .val (.long x3), .second, .val (.int x4), .val (.int x5)] [(.int x4), (.int x1)])) t → Steps p.tables e below (s₁.setTop (entryFrame m #[(.long x0), (.int x1), (.int x2), (.long x3), (.int x4), (.int x5)] 8)) t := fun t k => pre1 t (by
      show Steps p.tables e below (s₁.setTop (mkF m 4 #[.val (.long x0), .second, .val (.int x1), .val (.int x2), .val (.long x3), .second, .val (.int x4), .val (.int x5)] [(.int (lcmpW x0 x3))])) _
      refine XS.ifYes X0.here hx rfl (pc0 := 4) (pc' := 20) rfl (hb hby d6_4) rfl ((if0 _ _).trans (teq ((lw_eq _ _).mpr hc2)).1) (by decide) (by decide) ?_
      show Steps p.tables e below (s₁.setTop (mkF m 20 #[.val (.long x0), .second, .val (.int x1), .val (.int x2), .val (.long x3), .second, .val (.int x4), .val (.int x5)] [])) _
      refine XS.iloadN X0.here hx rfl (hb hby d6_20) rfl ?_
      show Steps p.tables e below (s₁.setTop (mkF m 21 #[.val (.long x0), .second, .val (.int x1), .val (.int x2), .val (.long x3), .second, .val (.int x4), .val (.int x5)] [(.int x1)])) _
      refine XS.iload X0.here hx rfl (hb hby d6_21) rfl ?_
      show Steps p.tables e below (s₁.setTop (mkF m 23 #[.val (.long x0), .second, .val (.int x1), .val (.int x2), .val (.long x3), .second, .val (.int x4), .val (.int x5)] [(.int x4), (.int x1)])) _
      exact k)
    by_cases hc4 : x1 = x4
    · skip
      have pre5 : ∀ t, Steps p.tables e below (s₁.setTop (mkF m 41 #[.val (.long x0), .second, .val (.int x1), .val (.int x2), .val (.long x3), .second, .val (.int x4), .val (.int x5)] [(.int x5), (.int x2)])) t → Steps p.tables e below (s₁.setTop (entryFrame m #[(.long x0), (.int x1), (.int x2), (.long x3), (.int x4), (.int x5)] 8)) t := fun t k => pre3 t (by
        show Steps p.tables e below (s₁.setTop (mkF m 23 #[.val (.long x0), .second, .val (.int x1), .val (.int x2), .val (.long x3), .second, .val (.int x4), .val (.int x5)] [(.int x4), (.int x1)])) _
        refine XS.icmpYes X0.here hx rfl (pc0 := 23) (pc' := 38) rfl (hb hby d6_23) rfl (teq hc4).1 (by decide) (by decide) ?_
        show Steps p.tables e below (s₁.setTop (mkF m 38 #[.val (.long x0), .second, .val (.int x1), .val (.int x2), .val (.long x3), .second, .val (.int x4), .val (.int x5)] [])) _
        refine XS.iloadN X0.here hx rfl (hb hby d6_38) rfl ?_
        show Steps p.tables e below (s₁.setTop (mkF m 39 #[.val (.long x0), .second, .val (.int x1), .val (.int x2), .val (.long x3), .second, .val (.int x4), .val (.int x5)] [(.int x2)])) _
        refine XS.iload X0.here hx rfl (hb hby d6_39) rfl ?_
        show Steps p.tables e below (s₁.setTop (mkF m 41 #[.val (.long x0), .second, .val (.int x1), .val (.int x2), .val (.long x3), .second, .val (.int x4), .val (.int x5)] [(.int x5), (.int x2)])) _
        exact k)
      by_cases hc6 : x2 = x5
      · skip
        have pre7 : ∀ t, Steps p.tables e below (s₁.setTop (mkF m 57 #[.val (.long x0), .second, .val (.int x1), .val (.int x2), .val (.long x3), .second, .val (.int x4), .val (.int x5)] [(.int (0 : Int32))])) t → Steps p.tables e below (s₁.setTop (entryFrame m #[(.long x0), (.int x1), (.int x2), (.long x3), (.int x4), (.int x5)] 8)) t := fun t k => pre5 t (by
          show Steps p.tables e below (s₁.setTop (mkF m 41 #[.val (.long x0), .second, .val (.int x1), .val (.int x2), .val (.long x3), .second, .val (.int x4), .val (.int x5)] [(.int x5), (.int x2)])) _
          refine XS.icmpYes X0.here hx rfl (pc0 := 41) (pc' := 56) rfl (hb hby d6_41) rfl (teq hc6).1 (by decide) (by decide) ?_
          show Steps p.tables e below (s₁.setTop (mkF m 56 #[.val (.long x0), .second, .val (.int x1), .val (.int x2), .val (.long x3), .second, .val (.int x4), .val (.int x5)] [])) _
          refine XS.iconst X0.here hx rfl (hb hby d6_56) ?_
          show Steps p.tables e below (s₁.setTop (mkF m 57 #[.val (.long x0), .second, .val (.int x1), .val (.int x2), .val (.long x3), .second, .val (.int x4), .val (.int x5)] [(.int (0 : Int32))])) _
          exact k)
        obtain ⟨fs, hr, hrun, hended, hW, hsame⟩ := X0.leave (v := some (.int (0 : Int32))) (fun h => by rw [Bd.returns] at h; cases h)
        refine ⟨_, _, pre7 _ ?_, hrun, hended, _, _, rfl, ?_, ⟨_, rfl⟩, hW, hsame.mono (by decide) (by decide)⟩
        · show Steps p.tables e below (s₁.setTop (mkF m 57 #[.val (.long x0), .second, .val (.int x1), .val (.int x2), .val (.long x3), .second, .val (.int x4), .val (.int x5)] [(.int (0 : Int32))])) _
          exact retI X0 hx Bd.returns (hb hby d6_57) hr
        · show Q6 Z x0 x1 x2 x3 x4 x5 h0 n0 _ s₁.heap _
          rw [e0]
          exact ⟨_, rfl, N0, rfl, by rw [F6, if_pos hc2, if_pos hc4, if_pos hc6]⟩
      · skip
        obtain ⟨v9, hv9⟩ : ∃ z : Int32, z = (if x2 < x5 then (-1 : Int32) else (1 : Int32)) := ⟨_, rfl⟩
        have pre10 : ∀ t, Steps p.tables e below (s₁.setTop (mkF m 55 #[.val (.long x0), .second, .val (.int x1), .val (.int x2), .val (.long x3), .second, .val (.int x4), .val (.int x5)] [(.int v9)])) t → Steps p.tables e below (s₁.setTop (entryFrame m #[(.long x0), (.int x1), (.int x2), (.long x3), (.int x4), (.int x5)] 8)) t := fun t k => pre5 t (by
          show Steps p.tables e below (s₁.setTop (mkF m 41 #[.val (.long x0), .second, .val (.int x1), .val (.int x2), .val (.long x3), .second, .val (.int x4), .val (.int x5)] [(.int x5), (.int x2)])) _
          refine XS.icmpNo X0.here hx rfl (hb hby d6_41) rfl (feq hc6).1 ?_
          show Steps p.tables e below (s₁.setTop (mkF m 44 #[.val (.long x0), .second, .val (.int x1), .val (.int x2), .val (.long x3), .second, .val (.int x4), .val (.int x5)] [])) _
          refine XS.iloadN X0.here hx rfl (hb hby d6_44) rfl ?_
          show Steps p.tables e below (s₁.setTop (mkF m 45 #[.val (.long x0), .second, .val (.int x1), .val (.int x2), .val (.long x3), .second, .val (.int x4), .val (.int x5)] [(.int x2)])) _
          refine XS.iload X0.here hx rfl (hb hby d6_45) rfl ?_
          show Steps p.tables e below (s₁.setTop (mkF m 47 #[.val (.long x0), .second, .val (.int x1), .val (.int x2), .val (.long x3), .second, .val (.int x4), .val (.int x5)] [(.int x5), (.int x2)])) _
          by_cases hc8 : x2 < x5
          · skip
            refine XS.icmpNo X0.here hx rfl (hb hby d6_47) rfl (tlt hc8).2.1 ?_
            show Steps p.tables e below (s₁.setTop (mkF m 50 #[.val (.long x0), .second, .val (.int x1), .val (.int x2), .val (.long x3), .second, .val (.int x4), .val (.int x5)] [])) _
            refine XS.iconst X0.here hx rfl (hb hby d6_50) ?_
            show Steps p.tables e below (s₁.setTop (mkF m 51 #[.val (.long x0), .second, .val (.int x1), .val (.int x2), .val (.long x3), .second, .val (.int x4), .val (.int x5)] [(.int (-1 : Int32))])) _
            refine XS.goto X0.here hx rfl (pc0 := 51) (pc' := 55) rfl (hb hby d6_51) (by decide) (by decide) ?_
            show Steps p.tables e below (s₁.setTop (mkF m 55 #[.val (.long x0), .second, .val (.int x1), .val (.int x2), .val (.long x3), .second, .val (.int x4), .val (.int x5)] [(.int (-1 : Int32))])) _
            rw [show v9 = (-1 : Int32) from by rw [hv9, if_pos hc8]] at k
            exact k
          · skip
            refine XS.icmpYes X0.here hx rfl (pc0 := 47) (pc' := 54) rfl (hb hby d6_47) rfl (flt hc8).2.1 (by decide) (by decide) ?_
            show Steps p.tables e below (s₁.setTop (mkF m 54 #[.val (.long x0), .second, .val (.int x1), .val (.int x2), .val (.long x3), .second, .val (.int x4), .val (.int x5)] [])) _
            refine XS.iconst X0.here hx rfl (hb hby d6_54) ?_
            show Steps p.tables e below (s₁.setTop (mkF m 55 #[.val (.long x0), .second, .val (.int x1), .val (.int x2), .val (.long x3), .second, .val (.int x4), .val (.int x5)] [(.int (1 : Int32))])) _
            rw [show v9 = (1 : Int32) from by rw [hv9, if_neg hc8]] at k
            exact k)
        obtain ⟨fs, hr, hrun, hended, hW, hsame⟩ := X0.leave (v := some (.int v9)) (fun h => by rw [Bd.returns] at h; cases h)
        refine ⟨_, _, pre10 _ ?_, hrun, hended, _, _, rfl, ?_, ⟨_, rfl⟩, hW, hsame.mono (by decide) (by decide)⟩
        · show Steps p.tables e below (s₁.setTop (mkF m 55 #[.val (.long x0), .second, .val (.int x1), .val (.int x2), .val (.long x3), .second, .val (.int x4), .val (.int x5)] [(.int v9)])) _
          exact retI X0 hx Bd.returns (hb hby d6_55) hr
        · show Q6 Z x0 x1 x2 x3 x4 x5 h0 n0 _ s₁.heap _
          rw [e0]
          exact ⟨_, rfl, N0, rfl, by subst hv9; rw [F6, if_pos hc2, if_pos hc4, if_neg hc6]⟩
    · skip
      obtain ⟨v12, hv12⟩ : ∃ z : Int32, z = (if x1 < x4 then (-1 : Int32) else (1 : Int32)) := ⟨_, rfl⟩
      have pre13 : ∀ t, Steps p.tables e below (s₁.setTop (mkF m 37 #[.val (.long x0), .second, .val (.int x1), .val (.int x2), .val (.long x3), .second, .val (.int x4), .val (.int x5)] [(.int v12)])) t → Steps p.tables e below (s₁.setTop (entryFrame m #[(.long x0), (.int x1), (.int x2), (.long x3), (.int x4), (.int x5)] 8)) t := fun t k => pre3 t (by
        show Steps p.tables e below (s₁.setTop (mkF m 23 #[.val (.long x0), .second, .val (.int x1), .val (.int x2), .val (.long x3), .second, .val (.int x4), .val (.int x5)] [(.int x4), (.int x1)])) _
        refine XS.icmpNo X0.here hx rfl (hb hby d6_23) rfl (feq hc4).1 ?_
        show Steps p.tables e below (s₁.setTop (mkF m 26 #[.val (.long x0), .second, .val (.int x1), .val (.int x2), .val (.long x3), .second, .val (.int x4), .val (.int x5)] [])) _
        refine XS.iloadN X0.here hx rfl (hb hby d6_26) rfl ?_
        show Steps p.tables e below (s₁.setTop (mkF m 27 #[.val (.long x0), .second, .val (.int x1), .val (.int x2), .val (.long x3), .second, .val (.int x4), .val (.int x5)] [(.int x1)])) _
        refine XS.iload X0.here hx rfl (hb hby d6_27) rfl ?_
        show Steps p.tables e below (s₁.setTop (mkF m 29 #[.val (.long x0), .second, .val (.int x1), .val (.int x2), .val (.long x3), .second, .val (.int x4), .val (.int x5)] [(.int x4), (.int x1)])) _
        by_cases hc11 : x1 < x4
        · skip
          refine XS.icmpNo X0.here hx rfl (hb hby d6_29) rfl (tlt hc11).2.1 ?_
          show Steps p.tables e below (s₁.setTop (mkF m 32 #[.val (.long x0), .second, .val (.int x1), .val (.int x2), .val (.long x3), .second, .val (.int x4), .val (.int x5)] [])) _
          refine XS.iconst X0.here hx rfl (hb hby d6_32) ?_
          show Steps p.tables e below (s₁.setTop (mkF m 33 #[.val (.long x0), .second, .val (.int x1), .val (.int x2), .val (.long x3), .second, .val (.int x4), .val (.int x5)] [(.int (-1 : Int32))])) _
          refine XS.goto X0.here hx rfl (pc0 := 33) (pc' := 37) rfl (hb hby d6_33) (by decide) (by decide) ?_
          show Steps p.tables e below (s₁.setTop (mkF m 37 #[.val (.long x0), .second, .val (.int x1), .val (.int x2), .val (.long x3), .second, .val (.int x4), .val (.int x5)] [(.int (-1 : Int32))])) _
          rw [show v12 = (-1 : Int32) from by rw [hv12, if_pos hc11]] at k
          exact k
        · skip
          refine XS.icmpYes X0.here hx rfl (pc0 := 29) (pc' := 36) rfl (hb hby d6_29) rfl (flt hc11).2.1 (by decide) (by decide) ?_
          show Steps p.tables e below (s₁.setTop (mkF m 36 #[.val (.long x0), .second, .val (.int x1), .val (.int x2), .val (.long x3), .second, .val (.int x4), .val (.int x5)] [])) _
          refine XS.iconst X0.here hx rfl (hb hby d6_36) ?_
          show Steps p.tables e below (s₁.setTop (mkF m 37 #[.val (.long x0), .second, .val (.int x1), .val (.int x2), .val (.long x3), .second, .val (.int x4), .val (.int x5)] [(.int (1 : Int32))])) _
          rw [show v12 = (1 : Int32) from by rw [hv12, if_neg hc11]] at k
          exact k)
      obtain ⟨fs, hr, hrun, hended, hW, hsame⟩ := X0.leave (v := some (.int v12)) (fun h => by rw [Bd.returns] at h; cases h)
      refine ⟨_, _, pre13 _ ?_, hrun, hended, _, _, rfl, ?_, ⟨_, rfl⟩, hW, hsame.mono (by decide) (by decide)⟩
      · show Steps p.tables e below (s₁.setTop (mkF m 37 #[.val (.long x0), .second, .val (.int x1), .val (.int x2), .val (.long x3), .second, .val (.int x4), .val (.int x5)] [(.int v12)])) _
        exact retI X0 hx Bd.returns (hb hby d6_37) hr
      · show Q6 Z x0 x1 x2 x3 x4 x5 h0 n0 _ s₁.heap _
        rw [e0]
        exact ⟨_, rfl, N0, rfl, by subst hv12; rw [F6, if_pos hc2, if_neg hc4]⟩
  · skip
    obtain ⟨v15, hv15⟩ : ∃ z : Int32, z = (if x0 < x3 then (-1 : Int32) else (1 : Int32)) := ⟨_, rfl⟩
    have pre16 : ∀ t, Steps p.tables e below (s₁.setTop (mkF m 19 #[.val (.long x0), .second, .val (.int x1), .val (.int x2), .val (.long x3), .second, .val (.int x4), .val (.int x5)] [(.int v15)])) t → Steps p.tables e below (s₁.setTop (entryFrame m #[(.long x0), (.int x1), (.int x2), (.long x3), (.int x4), (.int x5)] 8)) t := fun t k => pre1 t (by
      show Steps p.tables e below (s₁.setTop (mkF m 4 #[.val (.long x0), .second, .val (.int x1), .val (.int x2), .val (.long x3), .second, .val (.int x4), .val (.int x5)] [(.int (lcmpW x0 x3))])) _
      refine XS.ifNo X0.here hx rfl (hb hby d6_4) rfl ((if0 _ _).trans (feq (fun q => hc2 ((lw_eq _ _).mp q))).1) ?_
      show Steps p.tables e below (s₁.setTop (mkF m 7 #[.val (.long x0), .second, .val (.int x1), .val (.int x2), .val (.long x3), .second, .val (.int x4), .val (.int x5)] [])) _
      refine XS.lloadN X0.here hx rfl (hb hby d6_7) rfl ?_
      show Steps p.tables e below (s₁.setTop (mkF m 8 #[.val (.long x0), .second, .val (.int x1), .val (.int x2), .val (.long x3), .second, .val (.int x4), .val (.int x5)] [(.long x0)])) _
      refine XS.lload X0.here hx rfl (hb hby d6_8) rfl ?_
      show Steps p.tables e below (s₁.setTop (mkF m 10 #[.val (.long x0), .second, .val (.int x1), .val (.int x2), .val (.long x3), .second, .val (.int x4), .val (.int x5)] [(.long x3), (.long x0)])) _
      refine XS.lcmp X0.here hx rfl (hb hby d6_10) rfl ?_
      show Steps p.tables e below (s₁.setTop (mkF m 11 #[.val (.long x0), .second, .val (.int x1), .val (.int x2), .val (.long x3), .second, .val (.int x4), .val (.int x5)] [(.int (lcmpW x0 x3))])) _
      by_cases hc14 : x0 < x3
      · skip
        refine XS.ifNo X0.here hx rfl (hb hby d6_11) rfl ((if0 _ _).trans (tlt ((lw_lt _ _).mpr hc14)).2.1) ?_
        show Steps p.tables e below (s₁.setTop (mkF m 14 #[.val (.long x0), .second, .val (.int x1), .val (.int x2), .val (.long x3), .second, .val (.int x4), .val (.int x5)] [])) _
        refine XS.iconst X0.here hx rfl (hb hby d6_14) ?_
        show Steps p.tables e below (s₁.setTop (mkF m 15 #[.val (.long x0), .second, .val (.int x1), .val (.int x2), .val (.long x3), .second, .val (.int x4), .val (.int x5)] [(.int (-1 : Int32))])) _
        refine XS.goto X0.here hx rfl (pc0 := 15) (pc' := 19) rfl (hb hby d6_15) (by decide) (by decide) ?_
        show Steps p.tables e below (s₁.setTop (mkF m 19 #[.val (.long x0), .second, .val (.int x1), .val (.int x2), .val (.long x3), .second, .val (.int x4), .val (.int x5)] [(.int (-1 : Int32))])) _
        rw [show v15 = (-1 : Int32) from by rw [hv15, if_pos hc14]] at k
        exact k
      · skip
        refine XS.ifYes X0.here hx rfl (pc0 := 11) (pc' := 18) rfl (hb hby d6_11) rfl ((if0 _ _).trans (flt (fun q => hc14 ((lw_lt _ _).mp q))).2.1) (by decide) (by decide) ?_
        show Steps p.tables e below (s₁.setTop (mkF m 18 #[.val (.long x0), .second, .val (.int x1), .val (.int x2), .val (.long x3), .second, .val (.int x4), .val (.int x5)] [])) _
        refine XS.iconst X0.here hx rfl (hb hby d6_18) ?_
        show Steps p.tables e below (s₁.setTop (mkF m 19 #[.val (.long x0), .second, .val (.int x1), .val (.int x2), .val (.long x3), .second, .val (.int x4), .val (.int x5)] [(.int (1 : Int32))])) _
        rw [show v15 = (1 : Int32) from by rw [hv15, if_neg hc14]] at k
        exact k)
    obtain ⟨fs, hr, hrun, hended, hW, hsame⟩ := X0.leave (v := some (.int v15)) (fun h => by rw [Bd.returns] at h; cases h)
    refine ⟨_, _, pre16 _ ?_, hrun, hended, _, _, rfl, ?_, ⟨_, rfl⟩, hW, hsame.mono (by decide) (by decide)⟩
    · show Steps p.tables e below (s₁.setTop (mkF m 19 #[.val (.long x0), .second, .val (.int x1), .val (.int x2), .val (.long x3), .second, .val (.int x4), .val (.int x5)] [(.int v15)])) _
      exact retI X0 hx Bd.returns (hb hby d6_19) hr
    · show Q6 Z x0 x1 x2 x3 x4 x5 h0 n0 _ s₁.heap _
      rw [e0]
      exact ⟨_, rfl, N0, rfl, by subst hv15; rw [F6, if_neg hc2]⟩
theorem own_tok (i : Int64) (r m : Int32) (hi : 0 ≤ i.toInt ∧ i.toInt ≤ 8796093022207) (hr : 0 ≤ r.toInt ∧ r.toInt ≤ 4095) (hm : 1 ≤ m.toInt ∧ m.toInt ≤ 255) : (F4 i r m).toInt = i.toInt * 1048576 + r.toInt * 256 + m.toInt := by
  unfold F4
  have a := c_lshl i 20 20 (by decide)
  have b := c_lshl r.toInt64 8 8 (by decide)
  rw [c_i2l] at b
  have a' := rng64 (i <<< ((20 : Int32) &&& 0x3f).toInt64)
  have b' := rng64 (r.toInt64 <<< ((8 : Int32) &&& 0x3f).toInt64)
  generalize i <<< ((20 : Int32) &&& 0x3f).toInt64 = A at *
  generalize r.toInt64 <<< ((8 : Int32) &&& 0x3f).toInt64 = B at *
  have eA : A.toInt = i.toInt * 1048576 := by omega
  have eB : B.toInt = r.toInt * 256 := by omega
  have c := c_orL A B 20 (by decide) 1048576 (by decide) (by omega) (by omega) (by omega)
  have c' := rng64 (A ||| B)
  have eC : (A ||| B).toInt = A.toInt + B.toInt := by omega
  have d := c_orL (A ||| B) m.toInt64 8 (by decide) 256 (by decide) (by omega) (by rw [c_i2l]; omega) (by rw [c_i2l]; omega)
  rw [c_i2l] at d
  have d' := rng64 (A ||| B ||| m.toInt64)
  omega

set_option maxHeartbeats 8000000 in
theorem own_need0_18_0 (x0 : Int64) (x1 : Int32) (x2 : Int32) (x3 : Int64) (x4 : Int32) (x5 : Int32) (v1 : Int64) (v2 : Int32) (v3 : Int32) (v5 : Int64) (v8 : Int32) (v11 : Int32) (hv1 : v1 = (x0 &&& (8796093022207 : Int64))) (hv2 : v2 = (x1 &&& (4095 : Int32))) (hv3 : v3 = (((x2 &&& (2147483647 : Int32)) % (255 : Int32)) + (1 : Int32))) (hv5 : v5 = (if (x3 &&& (3 : Int64)) = (0 : Int64) then v1 else (((x3.toUInt64 >>> ((2 : Int32) &&& 0x3f).toInt64.toUInt64).toInt64) &&& (8796093022207 : Int64)))) (hv8 : v8 = (if (x4 &&& (1 : Int32)) = (0 : Int32) then v2 else (((x4.toUInt32 >>> ((1 : Int32) &&& 31).toUInt32).toInt32) &&& (4095 : Int32)))) (hv11 : v11 = (if (x5 &&& (1 : Int32)) = (0 : Int32) then v3 else ((((x5.toUInt32 >>> ((1 : Int32) &&& 31).toUInt32).toInt32) % (255 : Int32)) + (1 : Int32)))) : ¬ (v1 < (0 : Int64)) := by
  have a := own_all x0 x1 x2 x3 x4 x5 v1 v2 v3 v5 v8 v11 hv1 hv2 hv3 hv5 hv8 hv11
  clear hv1 hv2 hv3 hv5 hv8 hv11
  have e1 : (8796093022207 : Int64).toInt = 8796093022207 := by decide
  have e2 : (0 : Int64).toInt = 0 := by decide
  have e3 : (0 : Int32).toInt = 0 := by decide
  have e4 : (1 : Int32).toInt = 1 := by decide
  have e5 : (4095 : Int32).toInt = 4095 := by decide
  have e6 : (255 : Int32).toInt = 255 := by decide
  first | rw [Int64.lt_iff_toInt_lt] | rw [Int32.lt_iff_toInt_lt]
  omega
set_option maxHeartbeats 8000000 in
theorem own_need0_18_1 (x0 : Int64) (x1 : Int32) (x2 : Int32) (x3 : Int64) (x4 : Int32) (x5 : Int32) (v1 : Int64) (v2 : Int32) (v3 : Int32) (v5 : Int64) (v8 : Int32) (v11 : Int32) (hv1 : v1 = (x0 &&& (8796093022207 : Int64))) (hv2 : v2 = (x1 &&& (4095 : Int32))) (hv3 : v3 = (((x2 &&& (2147483647 : Int32)) % (255 : Int32)) + (1 : Int32))) (hv5 : v5 = (if (x3 &&& (3 : Int64)) = (0 : Int64) then v1 else (((x3.toUInt64 >>> ((2 : Int32) &&& 0x3f).toInt64.toUInt64).toInt64) &&& (8796093022207 : Int64)))) (hv8 : v8 = (if (x4 &&& (1 : Int32)) = (0 : Int32) then v2 else (((x4.toUInt32 >>> ((1 : Int32) &&& 31).toUInt32).toInt32) &&& (4095 : Int32)))) (hv11 : v11 = (if (x5 &&& (1 : Int32)) = (0 : Int32) then v3 else ((((x5.toUInt32 >>> ((1 : Int32) &&& 31).toUInt32).toInt32) % (255 : Int32)) + (1 : Int32)))) : ¬ ((8796093022207 : Int64) < v1) := by
  have a := own_all x0 x1 x2 x3 x4 x5 v1 v2 v3 v5 v8 v11 hv1 hv2 hv3 hv5 hv8 hv11
  clear hv1 hv2 hv3 hv5 hv8 hv11
  have e1 : (8796093022207 : Int64).toInt = 8796093022207 := by decide
  have e2 : (0 : Int64).toInt = 0 := by decide
  have e3 : (0 : Int32).toInt = 0 := by decide
  have e4 : (1 : Int32).toInt = 1 := by decide
  have e5 : (4095 : Int32).toInt = 4095 := by decide
  have e6 : (255 : Int32).toInt = 255 := by decide
  first | rw [Int64.lt_iff_toInt_lt] | rw [Int32.lt_iff_toInt_lt]
  omega
set_option maxHeartbeats 8000000 in
theorem own_need0_18_2 (x0 : Int64) (x1 : Int32) (x2 : Int32) (x3 : Int64) (x4 : Int32) (x5 : Int32) (v1 : Int64) (v2 : Int32) (v3 : Int32) (v5 : Int64) (v8 : Int32) (v11 : Int32) (hv1 : v1 = (x0 &&& (8796093022207 : Int64))) (hv2 : v2 = (x1 &&& (4095 : Int32))) (hv3 : v3 = (((x2 &&& (2147483647 : Int32)) % (255 : Int32)) + (1 : Int32))) (hv5 : v5 = (if (x3 &&& (3 : Int64)) = (0 : Int64) then v1 else (((x3.toUInt64 >>> ((2 : Int32) &&& 0x3f).toInt64.toUInt64).toInt64) &&& (8796093022207 : Int64)))) (hv8 : v8 = (if (x4 &&& (1 : Int32)) = (0 : Int32) then v2 else (((x4.toUInt32 >>> ((1 : Int32) &&& 31).toUInt32).toInt32) &&& (4095 : Int32)))) (hv11 : v11 = (if (x5 &&& (1 : Int32)) = (0 : Int32) then v3 else ((((x5.toUInt32 >>> ((1 : Int32) &&& 31).toUInt32).toInt32) % (255 : Int32)) + (1 : Int32)))) : ¬ (v2 < (0 : Int32)) := by
  have a := own_all x0 x1 x2 x3 x4 x5 v1 v2 v3 v5 v8 v11 hv1 hv2 hv3 hv5 hv8 hv11
  clear hv1 hv2 hv3 hv5 hv8 hv11
  have e1 : (8796093022207 : Int64).toInt = 8796093022207 := by decide
  have e2 : (0 : Int64).toInt = 0 := by decide
  have e3 : (0 : Int32).toInt = 0 := by decide
  have e4 : (1 : Int32).toInt = 1 := by decide
  have e5 : (4095 : Int32).toInt = 4095 := by decide
  have e6 : (255 : Int32).toInt = 255 := by decide
  first | rw [Int64.lt_iff_toInt_lt] | rw [Int32.lt_iff_toInt_lt]
  omega
set_option maxHeartbeats 8000000 in
theorem own_need0_18_3 (x0 : Int64) (x1 : Int32) (x2 : Int32) (x3 : Int64) (x4 : Int32) (x5 : Int32) (v1 : Int64) (v2 : Int32) (v3 : Int32) (v5 : Int64) (v8 : Int32) (v11 : Int32) (hv1 : v1 = (x0 &&& (8796093022207 : Int64))) (hv2 : v2 = (x1 &&& (4095 : Int32))) (hv3 : v3 = (((x2 &&& (2147483647 : Int32)) % (255 : Int32)) + (1 : Int32))) (hv5 : v5 = (if (x3 &&& (3 : Int64)) = (0 : Int64) then v1 else (((x3.toUInt64 >>> ((2 : Int32) &&& 0x3f).toInt64.toUInt64).toInt64) &&& (8796093022207 : Int64)))) (hv8 : v8 = (if (x4 &&& (1 : Int32)) = (0 : Int32) then v2 else (((x4.toUInt32 >>> ((1 : Int32) &&& 31).toUInt32).toInt32) &&& (4095 : Int32)))) (hv11 : v11 = (if (x5 &&& (1 : Int32)) = (0 : Int32) then v3 else ((((x5.toUInt32 >>> ((1 : Int32) &&& 31).toUInt32).toInt32) % (255 : Int32)) + (1 : Int32)))) : ¬ ((4095 : Int32) < v2) := by
  have a := own_all x0 x1 x2 x3 x4 x5 v1 v2 v3 v5 v8 v11 hv1 hv2 hv3 hv5 hv8 hv11
  clear hv1 hv2 hv3 hv5 hv8 hv11
  have e1 : (8796093022207 : Int64).toInt = 8796093022207 := by decide
  have e2 : (0 : Int64).toInt = 0 := by decide
  have e3 : (0 : Int32).toInt = 0 := by decide
  have e4 : (1 : Int32).toInt = 1 := by decide
  have e5 : (4095 : Int32).toInt = 4095 := by decide
  have e6 : (255 : Int32).toInt = 255 := by decide
  first | rw [Int64.lt_iff_toInt_lt] | rw [Int32.lt_iff_toInt_lt]
  omega
set_option maxHeartbeats 8000000 in
theorem own_need0_18_4 (x0 : Int64) (x1 : Int32) (x2 : Int32) (x3 : Int64) (x4 : Int32) (x5 : Int32) (v1 : Int64) (v2 : Int32) (v3 : Int32) (v5 : Int64) (v8 : Int32) (v11 : Int32) (hv1 : v1 = (x0 &&& (8796093022207 : Int64))) (hv2 : v2 = (x1 &&& (4095 : Int32))) (hv3 : v3 = (((x2 &&& (2147483647 : Int32)) % (255 : Int32)) + (1 : Int32))) (hv5 : v5 = (if (x3 &&& (3 : Int64)) = (0 : Int64) then v1 else (((x3.toUInt64 >>> ((2 : Int32) &&& 0x3f).toInt64.toUInt64).toInt64) &&& (8796093022207 : Int64)))) (hv8 : v8 = (if (x4 &&& (1 : Int32)) = (0 : Int32) then v2 else (((x4.toUInt32 >>> ((1 : Int32) &&& 31).toUInt32).toInt32) &&& (4095 : Int32)))) (hv11 : v11 = (if (x5 &&& (1 : Int32)) = (0 : Int32) then v3 else ((((x5.toUInt32 >>> ((1 : Int32) &&& 31).toUInt32).toInt32) % (255 : Int32)) + (1 : Int32)))) : ¬ (v3 < (1 : Int32)) := by
  have a := own_all x0 x1 x2 x3 x4 x5 v1 v2 v3 v5 v8 v11 hv1 hv2 hv3 hv5 hv8 hv11
  clear hv1 hv2 hv3 hv5 hv8 hv11
  have e1 : (8796093022207 : Int64).toInt = 8796093022207 := by decide
  have e2 : (0 : Int64).toInt = 0 := by decide
  have e3 : (0 : Int32).toInt = 0 := by decide
  have e4 : (1 : Int32).toInt = 1 := by decide
  have e5 : (4095 : Int32).toInt = 4095 := by decide
  have e6 : (255 : Int32).toInt = 255 := by decide
  first | rw [Int64.lt_iff_toInt_lt] | rw [Int32.lt_iff_toInt_lt]
  omega
set_option maxHeartbeats 8000000 in
theorem own_need0_18_5 (x0 : Int64) (x1 : Int32) (x2 : Int32) (x3 : Int64) (x4 : Int32) (x5 : Int32) (v1 : Int64) (v2 : Int32) (v3 : Int32) (v5 : Int64) (v8 : Int32) (v11 : Int32) (hv1 : v1 = (x0 &&& (8796093022207 : Int64))) (hv2 : v2 = (x1 &&& (4095 : Int32))) (hv3 : v3 = (((x2 &&& (2147483647 : Int32)) % (255 : Int32)) + (1 : Int32))) (hv5 : v5 = (if (x3 &&& (3 : Int64)) = (0 : Int64) then v1 else (((x3.toUInt64 >>> ((2 : Int32) &&& 0x3f).toInt64.toUInt64).toInt64) &&& (8796093022207 : Int64)))) (hv8 : v8 = (if (x4 &&& (1 : Int32)) = (0 : Int32) then v2 else (((x4.toUInt32 >>> ((1 : Int32) &&& 31).toUInt32).toInt32) &&& (4095 : Int32)))) (hv11 : v11 = (if (x5 &&& (1 : Int32)) = (0 : Int32) then v3 else ((((x5.toUInt32 >>> ((1 : Int32) &&& 31).toUInt32).toInt32) % (255 : Int32)) + (1 : Int32)))) : ¬ ((255 : Int32) < v3) := by
  have a := own_all x0 x1 x2 x3 x4 x5 v1 v2 v3 v5 v8 v11 hv1 hv2 hv3 hv5 hv8 hv11
  clear hv1 hv2 hv3 hv5 hv8 hv11
  have e1 : (8796093022207 : Int64).toInt = 8796093022207 := by decide
  have e2 : (0 : Int64).toInt = 0 := by decide
  have e3 : (0 : Int32).toInt = 0 := by decide
  have e4 : (1 : Int32).toInt = 1 := by decide
  have e5 : (4095 : Int32).toInt = 4095 := by decide
  have e6 : (255 : Int32).toInt = 255 := by decide
  first | rw [Int64.lt_iff_toInt_lt] | rw [Int32.lt_iff_toInt_lt]
  omega
theorem pd_1 : parseMethodDescriptor "(JII)V" = some ⟨[.long, .int, .int], none⟩ := by decide +kernel
set_option maxHeartbeats 8000000 in
theorem own_need0_33_0 (x0 : Int64) (x1 : Int32) (x2 : Int32) (x3 : Int64) (x4 : Int32) (x5 : Int32) (v1 : Int64) (v2 : Int32) (v3 : Int32) (v5 : Int64) (v8 : Int32) (v11 : Int32) (hv1 : v1 = (x0 &&& (8796093022207 : Int64))) (hv2 : v2 = (x1 &&& (4095 : Int32))) (hv3 : v3 = (((x2 &&& (2147483647 : Int32)) % (255 : Int32)) + (1 : Int32))) (hv5 : v5 = (if (x3 &&& (3 : Int64)) = (0 : Int64) then v1 else (((x3.toUInt64 >>> ((2 : Int32) &&& 0x3f).toInt64.toUInt64).toInt64) &&& (8796093022207 : Int64)))) (hv8 : v8 = (if (x4 &&& (1 : Int32)) = (0 : Int32) then v2 else (((x4.toUInt32 >>> ((1 : Int32) &&& 31).toUInt32).toInt32) &&& (4095 : Int32)))) (hv11 : v11 = (if (x5 &&& (1 : Int32)) = (0 : Int32) then v3 else ((((x5.toUInt32 >>> ((1 : Int32) &&& 31).toUInt32).toInt32) % (255 : Int32)) + (1 : Int32)))) : ¬ (v5 < (0 : Int64)) := by
  have a := own_all x0 x1 x2 x3 x4 x5 v1 v2 v3 v5 v8 v11 hv1 hv2 hv3 hv5 hv8 hv11
  clear hv1 hv2 hv3 hv5 hv8 hv11
  have e1 : (8796093022207 : Int64).toInt = 8796093022207 := by decide
  have e2 : (0 : Int64).toInt = 0 := by decide
  have e3 : (0 : Int32).toInt = 0 := by decide
  have e4 : (1 : Int32).toInt = 1 := by decide
  have e5 : (4095 : Int32).toInt = 4095 := by decide
  have e6 : (255 : Int32).toInt = 255 := by decide
  first | rw [Int64.lt_iff_toInt_lt] | rw [Int32.lt_iff_toInt_lt]
  omega
set_option maxHeartbeats 8000000 in
theorem own_need0_33_1 (x0 : Int64) (x1 : Int32) (x2 : Int32) (x3 : Int64) (x4 : Int32) (x5 : Int32) (v1 : Int64) (v2 : Int32) (v3 : Int32) (v5 : Int64) (v8 : Int32) (v11 : Int32) (hv1 : v1 = (x0 &&& (8796093022207 : Int64))) (hv2 : v2 = (x1 &&& (4095 : Int32))) (hv3 : v3 = (((x2 &&& (2147483647 : Int32)) % (255 : Int32)) + (1 : Int32))) (hv5 : v5 = (if (x3 &&& (3 : Int64)) = (0 : Int64) then v1 else (((x3.toUInt64 >>> ((2 : Int32) &&& 0x3f).toInt64.toUInt64).toInt64) &&& (8796093022207 : Int64)))) (hv8 : v8 = (if (x4 &&& (1 : Int32)) = (0 : Int32) then v2 else (((x4.toUInt32 >>> ((1 : Int32) &&& 31).toUInt32).toInt32) &&& (4095 : Int32)))) (hv11 : v11 = (if (x5 &&& (1 : Int32)) = (0 : Int32) then v3 else ((((x5.toUInt32 >>> ((1 : Int32) &&& 31).toUInt32).toInt32) % (255 : Int32)) + (1 : Int32)))) : ¬ ((8796093022207 : Int64) < v5) := by
  have a := own_all x0 x1 x2 x3 x4 x5 v1 v2 v3 v5 v8 v11 hv1 hv2 hv3 hv5 hv8 hv11
  clear hv1 hv2 hv3 hv5 hv8 hv11
  have e1 : (8796093022207 : Int64).toInt = 8796093022207 := by decide
  have e2 : (0 : Int64).toInt = 0 := by decide
  have e3 : (0 : Int32).toInt = 0 := by decide
  have e4 : (1 : Int32).toInt = 1 := by decide
  have e5 : (4095 : Int32).toInt = 4095 := by decide
  have e6 : (255 : Int32).toInt = 255 := by decide
  first | rw [Int64.lt_iff_toInt_lt] | rw [Int32.lt_iff_toInt_lt]
  omega
set_option maxHeartbeats 8000000 in
theorem own_need0_33_2 (x0 : Int64) (x1 : Int32) (x2 : Int32) (x3 : Int64) (x4 : Int32) (x5 : Int32) (v1 : Int64) (v2 : Int32) (v3 : Int32) (v5 : Int64) (v8 : Int32) (v11 : Int32) (hv1 : v1 = (x0 &&& (8796093022207 : Int64))) (hv2 : v2 = (x1 &&& (4095 : Int32))) (hv3 : v3 = (((x2 &&& (2147483647 : Int32)) % (255 : Int32)) + (1 : Int32))) (hv5 : v5 = (if (x3 &&& (3 : Int64)) = (0 : Int64) then v1 else (((x3.toUInt64 >>> ((2 : Int32) &&& 0x3f).toInt64.toUInt64).toInt64) &&& (8796093022207 : Int64)))) (hv8 : v8 = (if (x4 &&& (1 : Int32)) = (0 : Int32) then v2 else (((x4.toUInt32 >>> ((1 : Int32) &&& 31).toUInt32).toInt32) &&& (4095 : Int32)))) (hv11 : v11 = (if (x5 &&& (1 : Int32)) = (0 : Int32) then v3 else ((((x5.toUInt32 >>> ((1 : Int32) &&& 31).toUInt32).toInt32) % (255 : Int32)) + (1 : Int32)))) : ¬ (v8 < (0 : Int32)) := by
  have a := own_all x0 x1 x2 x3 x4 x5 v1 v2 v3 v5 v8 v11 hv1 hv2 hv3 hv5 hv8 hv11
  clear hv1 hv2 hv3 hv5 hv8 hv11
  have e1 : (8796093022207 : Int64).toInt = 8796093022207 := by decide
  have e2 : (0 : Int64).toInt = 0 := by decide
  have e3 : (0 : Int32).toInt = 0 := by decide
  have e4 : (1 : Int32).toInt = 1 := by decide
  have e5 : (4095 : Int32).toInt = 4095 := by decide
  have e6 : (255 : Int32).toInt = 255 := by decide
  first | rw [Int64.lt_iff_toInt_lt] | rw [Int32.lt_iff_toInt_lt]
  omega
set_option maxHeartbeats 8000000 in
theorem own_need0_33_3 (x0 : Int64) (x1 : Int32) (x2 : Int32) (x3 : Int64) (x4 : Int32) (x5 : Int32) (v1 : Int64) (v2 : Int32) (v3 : Int32) (v5 : Int64) (v8 : Int32) (v11 : Int32) (hv1 : v1 = (x0 &&& (8796093022207 : Int64))) (hv2 : v2 = (x1 &&& (4095 : Int32))) (hv3 : v3 = (((x2 &&& (2147483647 : Int32)) % (255 : Int32)) + (1 : Int32))) (hv5 : v5 = (if (x3 &&& (3 : Int64)) = (0 : Int64) then v1 else (((x3.toUInt64 >>> ((2 : Int32) &&& 0x3f).toInt64.toUInt64).toInt64) &&& (8796093022207 : Int64)))) (hv8 : v8 = (if (x4 &&& (1 : Int32)) = (0 : Int32) then v2 else (((x4.toUInt32 >>> ((1 : Int32) &&& 31).toUInt32).toInt32) &&& (4095 : Int32)))) (hv11 : v11 = (if (x5 &&& (1 : Int32)) = (0 : Int32) then v3 else ((((x5.toUInt32 >>> ((1 : Int32) &&& 31).toUInt32).toInt32) % (255 : Int32)) + (1 : Int32)))) : ¬ ((4095 : Int32) < v8) := by
  have a := own_all x0 x1 x2 x3 x4 x5 v1 v2 v3 v5 v8 v11 hv1 hv2 hv3 hv5 hv8 hv11
  clear hv1 hv2 hv3 hv5 hv8 hv11
  have e1 : (8796093022207 : Int64).toInt = 8796093022207 := by decide
  have e2 : (0 : Int64).toInt = 0 := by decide
  have e3 : (0 : Int32).toInt = 0 := by decide
  have e4 : (1 : Int32).toInt = 1 := by decide
  have e5 : (4095 : Int32).toInt = 4095 := by decide
  have e6 : (255 : Int32).toInt = 255 := by decide
  first | rw [Int64.lt_iff_toInt_lt] | rw [Int32.lt_iff_toInt_lt]
  omega
set_option maxHeartbeats 8000000 in
theorem own_need0_33_4 (x0 : Int64) (x1 : Int32) (x2 : Int32) (x3 : Int64) (x4 : Int32) (x5 : Int32) (v1 : Int64) (v2 : Int32) (v3 : Int32) (v5 : Int64) (v8 : Int32) (v11 : Int32) (hv1 : v1 = (x0 &&& (8796093022207 : Int64))) (hv2 : v2 = (x1 &&& (4095 : Int32))) (hv3 : v3 = (((x2 &&& (2147483647 : Int32)) % (255 : Int32)) + (1 : Int32))) (hv5 : v5 = (if (x3 &&& (3 : Int64)) = (0 : Int64) then v1 else (((x3.toUInt64 >>> ((2 : Int32) &&& 0x3f).toInt64.toUInt64).toInt64) &&& (8796093022207 : Int64)))) (hv8 : v8 = (if (x4 &&& (1 : Int32)) = (0 : Int32) then v2 else (((x4.toUInt32 >>> ((1 : Int32) &&& 31).toUInt32).toInt32) &&& (4095 : Int32)))) (hv11 : v11 = (if (x5 &&& (1 : Int32)) = (0 : Int32) then v3 else ((((x5.toUInt32 >>> ((1 : Int32) &&& 31).toUInt32).toInt32) % (255 : Int32)) + (1 : Int32)))) : ¬ (v11 < (1 : Int32)) := by
  have a := own_all x0 x1 x2 x3 x4 x5 v1 v2 v3 v5 v8 v11 hv1 hv2 hv3 hv5 hv8 hv11
  clear hv1 hv2 hv3 hv5 hv8 hv11
  have e1 : (8796093022207 : Int64).toInt = 8796093022207 := by decide
  have e2 : (0 : Int64).toInt = 0 := by decide
  have e3 : (0 : Int32).toInt = 0 := by decide
  have e4 : (1 : Int32).toInt = 1 := by decide
  have e5 : (4095 : Int32).toInt = 4095 := by decide
  have e6 : (255 : Int32).toInt = 255 := by decide
  first | rw [Int64.lt_iff_toInt_lt] | rw [Int32.lt_iff_toInt_lt]
  omega
set_option maxHeartbeats 8000000 in
theorem own_need0_33_5 (x0 : Int64) (x1 : Int32) (x2 : Int32) (x3 : Int64) (x4 : Int32) (x5 : Int32) (v1 : Int64) (v2 : Int32) (v3 : Int32) (v5 : Int64) (v8 : Int32) (v11 : Int32) (hv1 : v1 = (x0 &&& (8796093022207 : Int64))) (hv2 : v2 = (x1 &&& (4095 : Int32))) (hv3 : v3 = (((x2 &&& (2147483647 : Int32)) % (255 : Int32)) + (1 : Int32))) (hv5 : v5 = (if (x3 &&& (3 : Int64)) = (0 : Int64) then v1 else (((x3.toUInt64 >>> ((2 : Int32) &&& 0x3f).toInt64.toUInt64).toInt64) &&& (8796093022207 : Int64)))) (hv8 : v8 = (if (x4 &&& (1 : Int32)) = (0 : Int32) then v2 else (((x4.toUInt32 >>> ((1 : Int32) &&& 31).toUInt32).toInt32) &&& (4095 : Int32)))) (hv11 : v11 = (if (x5 &&& (1 : Int32)) = (0 : Int32) then v3 else ((((x5.toUInt32 >>> ((1 : Int32) &&& 31).toUInt32).toInt32) % (255 : Int32)) + (1 : Int32)))) : ¬ ((255 : Int32) < v11) := by
  have a := own_all x0 x1 x2 x3 x4 x5 v1 v2 v3 v5 v8 v11 hv1 hv2 hv3 hv5 hv8 hv11
  clear hv1 hv2 hv3 hv5 hv8 hv11
  have e1 : (8796093022207 : Int64).toInt = 8796093022207 := by decide
  have e2 : (0 : Int64).toInt = 0 := by decide
  have e3 : (0 : Int32).toInt = 0 := by decide
  have e4 : (1 : Int32).toInt = 1 := by decide
  have e5 : (4095 : Int32).toInt = 4095 := by decide
  have e6 : (255 : Int32).toInt = 255 := by decide
  first | rw [Int64.lt_iff_toInt_lt] | rw [Int32.lt_iff_toInt_lt]
  omega
theorem pd_2 : parseMethodDescriptor "()J" = some ⟨[], some .long⟩ := by decide +kernel
theorem pd_3 : parseMethodDescriptor "(JJ)I" = some ⟨[.long, .long], some .int⟩ := by decide +kernel
theorem pd_4 : parseMethodDescriptor "(JIIJII)I" = some ⟨[.long, .int, .int, .long, .int, .int], some .int⟩ := by decide +kernel
set_option maxHeartbeats 8000000 in
theorem own_fin (x0 : Int64) (x1 : Int32) (x2 : Int32) (x3 : Int64) (x4 : Int32) (x5 : Int32) (v1 : Int64) (v2 : Int32) (v3 : Int32) (v5 : Int64) (v8 : Int32) (v11 : Int32) (r45 : Int64) (r49 : Int64) (v52 : Int32) (v55 : Int32) (v59 : Int32) (r63 : Int32) (r67 : Int32) (v70 : Int32) (v76 : Int32) (hv1 : v1 = (x0 &&& (8796093022207 : Int64))) (hv2 : v2 = (x1 &&& (4095 : Int32))) (hv3 : v3 = (((x2 &&& (2147483647 : Int32)) % (255 : Int32)) + (1 : Int32))) (hv5 : v5 = (if (x3 &&& (3 : Int64)) = (0 : Int64) then v1 else (((x3.toUInt64 >>> ((2 : Int32) &&& 0x3f).toInt64.toUInt64).toInt64) &&& (8796093022207 : Int64)))) (hv8 : v8 = (if (x4 &&& (1 : Int32)) = (0 : Int32) then v2 else (((x4.toUInt32 >>> ((1 : Int32) &&& 31).toUInt32).toInt32) &&& (4095 : Int32)))) (hv11 : v11 = (if (x5 &&& (1 : Int32)) = (0 : Int32) then v3 else ((((x5.toUInt32 >>> ((1 : Int32) &&& 31).toUInt32).toInt32) % (255 : Int32)) + (1 : Int32)))) (P45 : r45 = F4 v1 v2 v3) (P49 : r49 = F4 v5 v8 v11) (hv52 : v52 = (if r45 = (((v1 * (1048576 : Int64)) + ((v2.toInt64) * (256 : Int64))) + (v3.toInt64)) then (1 : Int32) else (0 : Int32))) (hv55 : v55 = (if r49 = (((v5 * (1048576 : Int64)) + ((v8.toInt64) * (256 : Int64))) + (v11.toInt64)) then (1 : Int32) else (0 : Int32))) (hv59 : v59 = (if r45 < (0 : Int64) then (0 : Int32) else (if r49 < (0 : Int64) then (0 : Int32) else (1 : Int32)))) (P63 : r63 = F5 r45 r49) (P67 : r67 = F6 v1 v2 v3 v5 v8 v11) (hv70 : v70 = (if r63 = r67 then (1 : Int32) else (0 : Int32))) (hv76 : v76 = (if v52 = (0 : Int32) then (0 : Int32) else (if v55 = (0 : Int32) then (0 : Int32) else (if v59 = (0 : Int32) then (0 : Int32) else (if v70 = (0 : Int32) then (0 : Int32) else (1 : Int32)))))) : v76 = (1 : Int32) := by
  obtain ⟨a1, a2, a3, a4, a5, a6⟩ := own_all x0 x1 x2 x3 x4 x5 v1 v2 v3 v5 v8 v11 hv1 hv2 hv3 hv5 hv8 hv11
  clear hv1 hv2 hv3 hv5 hv8 hv11
  have t1 := own_tok v1 v2 v3 a1 a2 a3
  have t2 := own_tok v5 v8 v11 a4 a5 a6
  have s1 := own_sum v1 v2 v3 a1 a2 a3
  have s2 := own_sum v5 v8 v11 a4 a5 a6
  rw [← P45] at t1
  rw [← P49] at t2
  rw [if_pos (Int64.toInt_inj.mp (t1.trans s1.symm))] at hv52
  rw [if_pos (Int64.toInt_inj.mp (t2.trans s2.symm))] at hv55
  have e0 : (0 : Int64).toInt = 0 := by decide
  rw [if_neg (by rw [Int64.lt_iff_toInt_lt]; omega), if_neg (by rw [Int64.lt_iff_toInt_lt]; omega)] at hv59
  have h : r63 = r67 := by
    rw [P63, P67]
    unfold F5 F6
    simp only [← Int32.toInt_inj, Int32.lt_iff_toInt_lt, Int64.lt_iff_toInt_lt, ← Int64.toInt_inj, t1, t2]
    clear P45 P49 P63 P67 hv52 hv55 hv59 hv70 hv76 s1 s2 t1 t2
    generalize v1.toInt = i1 at *
    generalize v2.toInt = i2 at *
    generalize v3.toInt = i3 at *
    generalize v5.toInt = i4 at *
    generalize v8.toInt = i5 at *
    generalize v11.toInt = i6 at *
    by_cases h1 : i1 = i4
    · rw [if_pos h1]
      by_cases h2 : i2 = i5
      · rw [if_pos h2]
        by_cases h3 : i3 = i6
        · rw [if_pos h3, if_neg (by omega), if_neg (by omega)]
        · rw [if_neg h3]
          by_cases h4 : i3 < i6
          · rw [if_pos h4, if_pos (by omega)]
          · rw [if_neg h4, if_neg (by omega), if_pos (by omega)]
      · rw [if_neg h2]
        by_cases h4 : i2 < i5
        · rw [if_pos h4, if_pos (by omega)]
        · rw [if_neg h4, if_neg (by omega), if_pos (by omega)]
    · rw [if_neg h1]
      by_cases h4 : i1 < i4
      · rw [if_pos h4, if_pos (by omega)]
      · rw [if_neg h4, if_neg (by omega), if_pos (by omega)]
  rw [if_pos h] at hv70
  subst hv52 hv55 hv59 hv70
  rw [hv76]; decide
theorem ef_0 (m : MethodId) (x0 : Int64) (x1 : Int32) (x2 : Int32) (x3 : Int64) (x4 : Int32) (x5 : Int32) : entryFrame m #[(.long x0), (.int x1), (.int x2), (.long x3), (.int x4), (.int x5)] maxLocals = mkF m 0 #[.val (.long x0), .second, .val (.int x1), .val (.int x2), .val (.long x3), .second, .val (.int x4), .val (.int x5), .unset, .unset, .unset, .unset, .unset, .unset, .unset, .unset, .unset, .unset, .unset, .unset, .unset, .unset, .unset, .unset, .unset, .unset] [] := by first | (simp [entryFrame, mkF, argsToLocals, Value.category, maxLocals]; done) | rfl
def Q0 (Z : State) (x0 : Int64) (x1 : Int32) (x2 : Int32) (x3 : Int64) (x4 : Int32) (x5 : Int32) (h0 : Heap) (n0 : Nat) (v : Option Value) (h : Heap) (L : List Loc) : Prop := v = some (.int 1) ∧ Fr n0 L
set_option maxRecDepth 65536 in
set_option maxHeartbeats 40000000 in
theorem rm0 (l : Launch) (Z : State) (a0 : Array Value) (hw : ∀ d ∈ tables_1, d.before a0 Z = true) (ws : List Jvm.Cond) (x0 : Int64) (x1 : Int32) (x2 : Int32) (x3 : Int64) (x4 : Int32) (x5 : Int32) (h0 : Heap) (n0 : Nat) (Z0 : n0 ≤ h0.size) :
    MetFree l x (head1 (Jvm.Cond.code x code maxLocals ret :: ws) room_1) (fun aa U => aa = #[(.long x0), (.int x1), (.int x2), (.long x3), (.int x4), (.int x5)] ∧ Z.Warmed39 U.vm ∧ U.heap = h0) (fun _ _ _ _ _ => True) (fun _ U o U' => ∃ v L, o = .returned v ∧ Q0 Z x0 x1 x2 x3 x4 x5 h0 n0 v U'.heap L ∧ FrameEnd U o U' L room_1.cells room_1.slots) := by
  refine MetFree.of_bodySF (plainFor_of_name pn_2) hisR ?_
  intro p e s m args below meth c s₁ Bd hml0 hP hK
  obtain ⟨rfl, hZ, hh⟩ := hP
  have hx := Bd.exec
  have hby := Bd.bytes
  have hml : c.maxLocals = 26 := hml0
  have hown : s.vm.findClass "com/example/kept_term/keptterm/model/BallotTokenPinLaw" = some m.cls := findClass_of_methodNamed Bd.named
  have hnm := (name_of_methodNamed Bd.named Bd.method).1
  have X0 : Stand p l e room_1 s m #[(.long x0), (.int x1), (.int x2), (.long x3), (.int x4), (.int x5)] below meth c s₁ [] 0 0 := Stand.of_body Bd
  have e0 : s₁.heap = h0 := by rw [← hh, Bd.state]; rfl
  have N0 := Fr.nil n0
  have pre0 : ∀ t, Steps p.tables e below (s₁.setTop (mkF m 0 #[.val (.long x0), .second, .val (.int x1), .val (.int x2), .val (.long x3), .second, .val (.int x4), .val (.int x5), .unset, .unset, .unset, .unset, .unset, .unset, .unset, .unset, .unset, .unset, .unset, .unset, .unset, .unset, .unset, .unset, .unset, .unset] [])) t → Steps p.tables e below (s₁.setTop (entryFrame m #[(.long x0), (.int x1), (.int x2), (.long x3), (.int x4), (.int x5)] maxLocals)) t := fun t k => castTop (ef_0 m x0 x1 x2 x3 x4 x5) k
  obtain ⟨v1, hv1⟩ : ∃ z : Int64, z = (x0 &&& (8796093022207 : Int64)) := ⟨_, rfl⟩
  obtain ⟨v2, hv2⟩ : ∃ z : Int32, z = (x1 &&& (4095 : Int32)) := ⟨_, rfl⟩
  obtain ⟨v3, hv3⟩ : ∃ z : Int32, z = (((x2 &&& (2147483647 : Int32)) % (255 : Int32)) + (1 : Int32)) := ⟨_, rfl⟩
  obtain ⟨v5, hv5⟩ : ∃ z : Int64, z = (if (x3 &&& (3 : Int64)) = (0 : Int64) then v1 else (((x3.toUInt64 >>> ((2 : Int32) &&& 0x3f).toInt64.toUInt64).toInt64) &&& (8796093022207 : Int64))) := ⟨_, rfl⟩
  have pre6 : ∀ t, Steps p.tables e below (s₁.setTop (mkF m 50 #[.val (.long x0), .second, .val (.int x1), .val (.int x2), .val (.long x3), .second, .val (.int x4), .val (.int x5), .val (.long v1), .second, .val (.int v2), .val (.int v3), .unset, .unset, .unset, .unset, .unset, .unset, .unset, .unset, .unset, .unset, .unset, .unset, .unset, .unset] [(.long v5)])) t → Steps p.tables e below (s₁.setTop (entryFrame m #[(.long x0), (.int x1), (.int x2), (.long x3), (.int x4), (.int x5)] maxLocals)) t := fun t k => pre0 t (by
    subst hv3
    subst hv2
    subst hv1
    show Steps p.tables e below (s₁.setTop (mkF m 0 #[.val (.long x0), .second, .val (.int x1), .val (.int x2), .val (.long x3), .second, .val (.int x4), .val (.int x5), .unset, .unset, .unset, .unset, .unset, .unset, .unset, .unset, .unset, .unset, .unset, .unset, .unset, .unset, .unset, .unset, .unset, .unset] [])) _
    refine XS.lloadN X0.here hx rfl (hb hby at_0) rfl ?_
    show Steps p.tables e below (s₁.setTop (mkF m 1 #[.val (.long x0), .second, .val (.int x1), .val (.int x2), .val (.long x3), .second, .val (.int x4), .val (.int x5), .unset, .unset, .unset, .unset, .unset, .unset, .unset, .unset, .unset, .unset, .unset, .unset, .unset, .unset, .unset, .unset, .unset, .unset] [(.long x0)])) _
    refine X0.ldc2Long hx hown (mvT hZ (hw _ (List.mem_of_getElem? (i := 0) rfl))) (g := (mkF m 1 #[.val (.long x0), .second, .val (.int x1), .val (.int x2), .val (.long x3), .second, .val (.int x4), .val (.int x5), .unset, .unset, .unset, .unset, .unset, .unset, .unset, .unset, .unset, .unset, .unset, .unset, .unset, .unset, .unset, .unset, .unset, .unset] [(.long x0)])) rfl (hb hby at_1) _ ?_
    show Steps p.tables e below (s₁.setTop (mkF m 4 #[.val (.long x0), .second, .val (.int x1), .val (.int x2), .val (.long x3), .second, .val (.int x4), .val (.int x5), .unset, .unset, .unset, .unset, .unset, .unset, .unset, .unset, .unset, .unset, .unset, .unset, .unset, .unset, .unset, .unset, .unset, .unset] [(.long (8796093022207 : Int64)), (.long x0)])) _
    refine XS.land X0.here hx rfl (hb hby at_4) rfl ?_
    show Steps p.tables e below (s₁.setTop (mkF m 5 #[.val (.long x0), .second, .val (.int x1), .val (.int x2), .val (.long x3), .second, .val (.int x4), .val (.int x5), .unset, .unset, .unset, .unset, .unset, .unset, .unset, .unset, .unset, .unset, .unset, .unset, .unset, .unset, .unset, .unset, .unset, .unset] [(.long (x0 &&& (8796093022207 : Int64)))])) _
    refine XS.lstore X0.here hx rfl (hb hby at_5) rfl (l' := #[.val (.long x0), .second, .val (.int x1), .val (.int x2), .val (.long x3), .second, .val (.int x4), .val (.int x5), .val (.long (x0 &&& (8796093022207 : Int64))), .second, .unset, .unset, .unset, .unset, .unset, .unset, .unset, .unset, .unset, .unset, .unset, .unset, .unset, .unset, .unset, .unset]) rfl ?_
    show Steps p.tables e below (s₁.setTop (mkF m 7 #[.val (.long x0), .second, .val (.int x1), .val (.int x2), .val (.long x3), .second, .val (.int x4), .val (.int x5), .val (.long (x0 &&& (8796093022207 : Int64))), .second, .unset, .unset, .unset, .unset, .unset, .unset, .unset, .unset, .unset, .unset, .unset, .unset, .unset, .unset, .unset, .unset] [])) _
    refine XS.iloadN X0.here hx rfl (hb hby at_7) rfl ?_
    show Steps p.tables e below (s₁.setTop (mkF m 8 #[.val (.long x0), .second, .val (.int x1), .val (.int x2), .val (.long x3), .second, .val (.int x4), .val (.int x5), .val (.long (x0 &&& (8796093022207 : Int64))), .second, .unset, .unset, .unset, .unset, .unset, .unset, .unset, .unset, .unset, .unset, .unset, .unset, .unset, .unset, .unset, .unset] [(.int x1)])) _
    refine XS.sipush X0.here hx rfl (hb hby at_8) ?_
    show Steps p.tables e below (s₁.setTop (mkF m 11 #[.val (.long x0), .second, .val (.int x1), .val (.int x2), .val (.long x3), .second, .val (.int x4), .val (.int x5), .val (.long (x0 &&& (8796093022207 : Int64))), .second, .unset, .unset, .unset, .unset, .unset, .unset, .unset, .unset, .unset, .unset, .unset, .unset, .unset, .unset, .unset, .unset] [(.int (4095 : Int32)), (.int x1)])) _
    refine XS.iand X0.here hx rfl (hb hby at_11) rfl ?_
    show Steps p.tables e below (s₁.setTop (mkF m 12 #[.val (.long x0), .second, .val (.int x1), .val (.int x2), .val (.long x3), .second, .val (.int x4), .val (.int x5), .val (.long (x0 &&& (8796093022207 : Int64))), .second, .unset, .unset, .unset, .unset, .unset, .unset, .unset, .unset, .unset, .unset, .unset, .unset, .unset, .unset, .unset, .unset] [(.int (x1 &&& (4095 : Int32)))])) _
    refine XS.istore X0.here hx rfl (hb hby at_12) rfl (l' := #[.val (.long x0), .second, .val (.int x1), .val (.int x2), .val (.long x3), .second, .val (.int x4), .val (.int x5), .val (.long (x0 &&& (8796093022207 : Int64))), .second, .val (.int (x1 &&& (4095 : Int32))), .unset, .unset, .unset, .unset, .unset, .unset, .unset, .unset, .unset, .unset, .unset, .unset, .unset, .unset, .unset]) rfl ?_
    show Steps p.tables e below (s₁.setTop (mkF m 14 #[.val (.long x0), .second, .val (.int x1), .val (.int x2), .val (.long x3), .second, .val (.int x4), .val (.int x5), .val (.long (x0 &&& (8796093022207 : Int64))), .second, .val (.int (x1 &&& (4095 : Int32))), .unset, .unset, .unset, .unset, .unset, .unset, .unset, .unset, .unset, .unset, .unset, .unset, .unset, .unset, .unset] [])) _
    refine XS.iloadN X0.here hx rfl (hb hby at_14) rfl ?_
    show Steps p.tables e below (s₁.setTop (mkF m 15 #[.val (.long x0), .second, .val (.int x1), .val (.int x2), .val (.long x3), .second, .val (.int x4), .val (.int x5), .val (.long (x0 &&& (8796093022207 : Int64))), .second, .val (.int (x1 &&& (4095 : Int32))), .unset, .unset, .unset, .unset, .unset, .unset, .unset, .unset, .unset, .unset, .unset, .unset, .unset, .unset, .unset] [(.int x2)])) _
    refine X0.ldcInt hx hown (mvT hZ (hw _ (List.mem_of_getElem? (i := 1) rfl))) (g := (mkF m 15 #[.val (.long x0), .second, .val (.int x1), .val (.int x2), .val (.long x3), .second, .val (.int x4), .val (.int x5), .val (.long (x0 &&& (8796093022207 : Int64))), .second, .val (.int (x1 &&& (4095 : Int32))), .unset, .unset, .unset, .unset, .unset, .unset, .unset, .unset, .unset, .unset, .unset, .unset, .unset, .unset, .unset] [(.int x2)])) rfl (hb hby at_15) _ ?_
    show Steps p.tables e below (s₁.setTop (mkF m 17 #[.val (.long x0), .second, .val (.int x1), .val (.int x2), .val (.long x3), .second, .val (.int x4), .val (.int x5), .val (.long (x0 &&& (8796093022207 : Int64))), .second, .val (.int (x1 &&& (4095 : Int32))), .unset, .unset, .unset, .unset, .unset, .unset, .unset, .unset, .unset, .unset, .unset, .unset, .unset, .unset, .unset] [(.int (2147483647 : Int32)), (.int x2)])) _
    refine XS.iand X0.here hx rfl (hb hby at_17) rfl ?_
    show Steps p.tables e below (s₁.setTop (mkF m 18 #[.val (.long x0), .second, .val (.int x1), .val (.int x2), .val (.long x3), .second, .val (.int x4), .val (.int x5), .val (.long (x0 &&& (8796093022207 : Int64))), .second, .val (.int (x1 &&& (4095 : Int32))), .unset, .unset, .unset, .unset, .unset, .unset, .unset, .unset, .unset, .unset, .unset, .unset, .unset, .unset, .unset] [(.int (x2 &&& (2147483647 : Int32)))])) _
    refine XS.sipush X0.here hx rfl (hb hby at_18) ?_
    show Steps p.tables e below (s₁.setTop (mkF m 21 #[.val (.long x0), .second, .val (.int x1), .val (.int x2), .val (.long x3), .second, .val (.int x4), .val (.int x5), .val (.long (x0 &&& (8796093022207 : Int64))), .second, .val (.int (x1 &&& (4095 : Int32))), .unset, .unset, .unset, .unset, .unset, .unset, .unset, .unset, .unset, .unset, .unset, .unset, .unset, .unset, .unset] [(.int (255 : Int32)), (.int (x2 &&& (2147483647 : Int32)))])) _
    refine iremM X0 hx rfl (hb hby at_21) rfl (by decide) ?_
    show Steps p.tables e below (s₁.setTop (mkF m 22 #[.val (.long x0), .second, .val (.int x1), .val (.int x2), .val (.long x3), .second, .val (.int x4), .val (.int x5), .val (.long (x0 &&& (8796093022207 : Int64))), .second, .val (.int (x1 &&& (4095 : Int32))), .unset, .unset, .unset, .unset, .unset, .unset, .unset, .unset, .unset, .unset, .unset, .unset, .unset, .unset, .unset] [(.int ((x2 &&& (2147483647 : Int32)) % (255 : Int32)))])) _
    refine XS.iconst X0.here hx rfl (hb hby at_22) ?_
    show Steps p.tables e below (s₁.setTop (mkF m 23 #[.val (.long x0), .second, .val (.int x1), .val (.int x2), .val (.long x3), .second, .val (.int x4), .val (.int x5), .val (.long (x0 &&& (8796093022207 : Int64))), .second, .val (.int (x1 &&& (4095 : Int32))), .unset, .unset, .unset, .unset, .unset, .unset, .unset, .unset, .unset, .unset, .unset, .unset, .unset, .unset, .unset] [(.int (1 : Int32)), (.int ((x2 &&& (2147483647 : Int32)) % (255 : Int32)))])) _
    refine XS.iadd X0.here hx rfl (hb hby at_23) rfl ?_
    show Steps p.tables e below (s₁.setTop (mkF m 24 #[.val (.long x0), .second, .val (.int x1), .val (.int x2), .val (.long x3), .second, .val (.int x4), .val (.int x5), .val (.long (x0 &&& (8796093022207 : Int64))), .second, .val (.int (x1 &&& (4095 : Int32))), .unset, .unset, .unset, .unset, .unset, .unset, .unset, .unset, .unset, .unset, .unset, .unset, .unset, .unset, .unset] [(.int (((x2 &&& (2147483647 : Int32)) % (255 : Int32)) + (1 : Int32)))])) _
    refine XS.istore X0.here hx rfl (hb hby at_24) rfl (l' := #[.val (.long x0), .second, .val (.int x1), .val (.int x2), .val (.long x3), .second, .val (.int x4), .val (.int x5), .val (.long (x0 &&& (8796093022207 : Int64))), .second, .val (.int (x1 &&& (4095 : Int32))), .val (.int (((x2 &&& (2147483647 : Int32)) % (255 : Int32)) + (1 : Int32))), .unset, .unset, .unset, .unset, .unset, .unset, .unset, .unset, .unset, .unset, .unset, .unset, .unset, .unset]) rfl ?_
    show Steps p.tables e below (s₁.setTop (mkF m 26 #[.val (.long x0), .second, .val (.int x1), .val (.int x2), .val (.long x3), .second, .val (.int x4), .val (.int x5), .val (.long (x0 &&& (8796093022207 : Int64))), .second, .val (.int (x1 &&& (4095 : Int32))), .val (.int (((x2 &&& (2147483647 : Int32)) % (255 : Int32)) + (1 : Int32))), .unset, .unset, .unset, .unset, .unset, .unset, .unset, .unset, .unset, .unset, .unset, .unset, .unset, .unset] [])) _
    refine XS.lload X0.here hx rfl (hb hby at_26) rfl ?_
    show Steps p.tables e below (s₁.setTop (mkF m 28 #[.val (.long x0), .second, .val (.int x1), .val (.int x2), .val (.long x3), .second, .val (.int x4), .val (.int x5), .val (.long (x0 &&& (8796093022207 : Int64))), .second, .val (.int (x1 &&& (4095 : Int32))), .val (.int (((x2 &&& (2147483647 : Int32)) % (255 : Int32)) + (1 : Int32))), .unset, .unset, .unset, .unset, .unset, .unset, .unset, .unset, .unset, .unset, .unset, .unset, .unset, .unset] [(.long x3)])) _
    refine X0.ldc2Long hx hown (mvT hZ (hw _ (List.mem_of_getElem? (i := 2) rfl))) (g := (mkF m 28 #[.val (.long x0), .second, .val (.int x1), .val (.int x2), .val (.long x3), .second, .val (.int x4), .val (.int x5), .val (.long (x0 &&& (8796093022207 : Int64))), .second, .val (.int (x1 &&& (4095 : Int32))), .val (.int (((x2 &&& (2147483647 : Int32)) % (255 : Int32)) + (1 : Int32))), .unset, .unset, .unset, .unset, .unset, .unset, .unset, .unset, .unset, .unset, .unset, .unset, .unset, .unset] [(.long x3)])) rfl (hb hby at_28) _ ?_
    show Steps p.tables e below (s₁.setTop (mkF m 31 #[.val (.long x0), .second, .val (.int x1), .val (.int x2), .val (.long x3), .second, .val (.int x4), .val (.int x5), .val (.long (x0 &&& (8796093022207 : Int64))), .second, .val (.int (x1 &&& (4095 : Int32))), .val (.int (((x2 &&& (2147483647 : Int32)) % (255 : Int32)) + (1 : Int32))), .unset, .unset, .unset, .unset, .unset, .unset, .unset, .unset, .unset, .unset, .unset, .unset, .unset, .unset] [(.long (3 : Int64)), (.long x3)])) _
    refine XS.land X0.here hx rfl (hb hby at_31) rfl ?_
    show Steps p.tables e below (s₁.setTop (mkF m 32 #[.val (.long x0), .second, .val (.int x1), .val (.int x2), .val (.long x3), .second, .val (.int x4), .val (.int x5), .val (.long (x0 &&& (8796093022207 : Int64))), .second, .val (.int (x1 &&& (4095 : Int32))), .val (.int (((x2 &&& (2147483647 : Int32)) % (255 : Int32)) + (1 : Int32))), .unset, .unset, .unset, .unset, .unset, .unset, .unset, .unset, .unset, .unset, .unset, .unset, .unset, .unset] [(.long (x3 &&& (3 : Int64)))])) _
    refine XS.lconst X0.here hx rfl (hb hby at_32) ?_
    show Steps p.tables e below (s₁.setTop (mkF m 33 #[.val (.long x0), .second, .val (.int x1), .val (.int x2), .val (.long x3), .second, .val (.int x4), .val (.int x5), .val (.long (x0 &&& (8796093022207 : Int64))), .second, .val (.int (x1 &&& (4095 : Int32))), .val (.int (((x2 &&& (2147483647 : Int32)) % (255 : Int32)) + (1 : Int32))), .unset, .unset, .unset, .unset, .unset, .unset, .unset, .unset, .unset, .unset, .unset, .unset, .unset, .unset] [(.long (0 : Int64)), (.long (x3 &&& (3 : Int64)))])) _
    refine XS.lcmp X0.here hx rfl (hb hby at_33) rfl ?_
    show Steps p.tables e below (s₁.setTop (mkF m 34 #[.val (.long x0), .second, .val (.int x1), .val (.int x2), .val (.long x3), .second, .val (.int x4), .val (.int x5), .val (.long (x0 &&& (8796093022207 : Int64))), .second, .val (.int (x1 &&& (4095 : Int32))), .val (.int (((x2 &&& (2147483647 : Int32)) % (255 : Int32)) + (1 : Int32))), .unset, .unset, .unset, .unset, .unset, .unset, .unset, .unset, .unset, .unset, .unset, .unset, .unset, .unset] [(.int (lcmpW (x3 &&& (3 : Int64)) (0 : Int64)))])) _
    by_cases hc4 : (x3 &&& (3 : Int64)) = (0 : Int64)
    · skip
      refine XS.ifNo X0.here hx rfl (hb hby at_34) rfl ((if0 _ _).trans (teq ((lw_eq _ _).mpr hc4)).2) ?_
      show Steps p.tables e below (s₁.setTop (mkF m 37 #[.val (.long x0), .second, .val (.int x1), .val (.int x2), .val (.long x3), .second, .val (.int x4), .val (.int x5), .val (.long (x0 &&& (8796093022207 : Int64))), .second, .val (.int (x1 &&& (4095 : Int32))), .val (.int (((x2 &&& (2147483647 : Int32)) % (255 : Int32)) + (1 : Int32))), .unset, .unset, .unset, .unset, .unset, .unset, .unset, .unset, .unset, .unset, .unset, .unset, .unset, .unset] [])) _
      refine XS.lload X0.here hx rfl (hb hby at_37) rfl ?_
      show Steps p.tables e below (s₁.setTop (mkF m 39 #[.val (.long x0), .second, .val (.int x1), .val (.int x2), .val (.long x3), .second, .val (.int x4), .val (.int x5), .val (.long (x0 &&& (8796093022207 : Int64))), .second, .val (.int (x1 &&& (4095 : Int32))), .val (.int (((x2 &&& (2147483647 : Int32)) % (255 : Int32)) + (1 : Int32))), .unset, .unset, .unset, .unset, .unset, .unset, .unset, .unset, .unset, .unset, .unset, .unset, .unset, .unset] [(.long (x0 &&& (8796093022207 : Int64)))])) _
      refine XS.goto X0.here hx rfl (pc0 := 39) (pc' := 50) rfl (hb hby at_39) (by decide) (by decide) ?_
      show Steps p.tables e below (s₁.setTop (mkF m 50 #[.val (.long x0), .second, .val (.int x1), .val (.int x2), .val (.long x3), .second, .val (.int x4), .val (.int x5), .val (.long (x0 &&& (8796093022207 : Int64))), .second, .val (.int (x1 &&& (4095 : Int32))), .val (.int (((x2 &&& (2147483647 : Int32)) % (255 : Int32)) + (1 : Int32))), .unset, .unset, .unset, .unset, .unset, .unset, .unset, .unset, .unset, .unset, .unset, .unset, .unset, .unset] [(.long (x0 &&& (8796093022207 : Int64)))])) _
      rw [show v5 = (x0 &&& (8796093022207 : Int64)) from by rw [hv5, if_pos hc4]] at k
      exact k
    · skip
      refine XS.ifYes X0.here hx rfl (pc0 := 34) (pc' := 42) rfl (hb hby at_34) rfl ((if0 _ _).trans (feq (fun q => hc4 ((lw_eq _ _).mp q))).2) (by decide) (by decide) ?_
      show Steps p.tables e below (s₁.setTop (mkF m 42 #[.val (.long x0), .second, .val (.int x1), .val (.int x2), .val (.long x3), .second, .val (.int x4), .val (.int x5), .val (.long (x0 &&& (8796093022207 : Int64))), .second, .val (.int (x1 &&& (4095 : Int32))), .val (.int (((x2 &&& (2147483647 : Int32)) % (255 : Int32)) + (1 : Int32))), .unset, .unset, .unset, .unset, .unset, .unset, .unset, .unset, .unset, .unset, .unset, .unset, .unset, .unset] [])) _
      refine XS.lload X0.here hx rfl (hb hby at_42) rfl ?_
      show Steps p.tables e below (s₁.setTop (mkF m 44 #[.val (.long x0), .second, .val (.int x1), .val (.int x2), .val (.long x3), .second, .val (.int x4), .val (.int x5), .val (.long (x0 &&& (8796093022207 : Int64))), .second, .val (.int (x1 &&& (4095 : Int32))), .val (.int (((x2 &&& (2147483647 : Int32)) % (255 : Int32)) + (1 : Int32))), .unset, .unset, .unset, .unset, .unset, .unset, .unset, .unset, .unset, .unset, .unset, .unset, .unset, .unset] [(.long x3)])) _
      refine XS.iconst X0.here hx rfl (hb hby at_44) ?_
      show Steps p.tables e below (s₁.setTop (mkF m 45 #[.val (.long x0), .second, .val (.int x1), .val (.int x2), .val (.long x3), .second, .val (.int x4), .val (.int x5), .val (.long (x0 &&& (8796093022207 : Int64))), .second, .val (.int (x1 &&& (4095 : Int32))), .val (.int (((x2 &&& (2147483647 : Int32)) % (255 : Int32)) + (1 : Int32))), .unset, .unset, .unset, .unset, .unset, .unset, .unset, .unset, .unset, .unset, .unset, .unset, .unset, .unset] [(.int (2 : Int32)), (.long x3)])) _
      refine XS.lushr X0.here hx rfl (hb hby at_45) rfl ?_
      show Steps p.tables e below (s₁.setTop (mkF m 46 #[.val (.long x0), .second, .val (.int x1), .val (.int x2), .val (.long x3), .second, .val (.int x4), .val (.int x5), .val (.long (x0 &&& (8796093022207 : Int64))), .second, .val (.int (x1 &&& (4095 : Int32))), .val (.int (((x2 &&& (2147483647 : Int32)) % (255 : Int32)) + (1 : Int32))), .unset, .unset, .unset, .unset, .unset, .unset, .unset, .unset, .unset, .unset, .unset, .unset, .unset, .unset] [(.long ((x3.toUInt64 >>> ((2 : Int32) &&& 0x3f).toInt64.toUInt64).toInt64))])) _
      refine X0.ldc2Long hx hown (mvT hZ (hw _ (List.mem_of_getElem? (i := 0) rfl))) (g := (mkF m 46 #[.val (.long x0), .second, .val (.int x1), .val (.int x2), .val (.long x3), .second, .val (.int x4), .val (.int x5), .val (.long (x0 &&& (8796093022207 : Int64))), .second, .val (.int (x1 &&& (4095 : Int32))), .val (.int (((x2 &&& (2147483647 : Int32)) % (255 : Int32)) + (1 : Int32))), .unset, .unset, .unset, .unset, .unset, .unset, .unset, .unset, .unset, .unset, .unset, .unset, .unset, .unset] [(.long ((x3.toUInt64 >>> ((2 : Int32) &&& 0x3f).toInt64.toUInt64).toInt64))])) rfl (hb hby at_46) _ ?_
      show Steps p.tables e below (s₁.setTop (mkF m 49 #[.val (.long x0), .second, .val (.int x1), .val (.int x2), .val (.long x3), .second, .val (.int x4), .val (.int x5), .val (.long (x0 &&& (8796093022207 : Int64))), .second, .val (.int (x1 &&& (4095 : Int32))), .val (.int (((x2 &&& (2147483647 : Int32)) % (255 : Int32)) + (1 : Int32))), .unset, .unset, .unset, .unset, .unset, .unset, .unset, .unset, .unset, .unset, .unset, .unset, .unset, .unset] [(.long (8796093022207 : Int64)), (.long ((x3.toUInt64 >>> ((2 : Int32) &&& 0x3f).toInt64.toUInt64).toInt64))])) _
      refine XS.land X0.here hx rfl (hb hby at_49) rfl ?_
      show Steps p.tables e below (s₁.setTop (mkF m 50 #[.val (.long x0), .second, .val (.int x1), .val (.int x2), .val (.long x3), .second, .val (.int x4), .val (.int x5), .val (.long (x0 &&& (8796093022207 : Int64))), .second, .val (.int (x1 &&& (4095 : Int32))), .val (.int (((x2 &&& (2147483647 : Int32)) % (255 : Int32)) + (1 : Int32))), .unset, .unset, .unset, .unset, .unset, .unset, .unset, .unset, .unset, .unset, .unset, .unset, .unset, .unset] [(.long (((x3.toUInt64 >>> ((2 : Int32) &&& 0x3f).toInt64.toUInt64).toInt64) &&& (8796093022207 : Int64)))])) _
      rw [show v5 = (((x3.toUInt64 >>> ((2 : Int32) &&& 0x3f).toInt64.toUInt64).toInt64) &&& (8796093022207 : Int64)) from by rw [hv5, if_neg hc4]] at k
      exact k)
  obtain ⟨v8, hv8⟩ : ∃ z : Int32, z = (if (x4 &&& (1 : Int32)) = (0 : Int32) then v2 else (((x4.toUInt32 >>> ((1 : Int32) &&& 31).toUInt32).toInt32) &&& (4095 : Int32))) := ⟨_, rfl⟩
  have pre9 : ∀ t, Steps p.tables e below (s₁.setTop (mkF m 72 #[.val (.long x0), .second, .val (.int x1), .val (.int x2), .val (.long x3), .second, .val (.int x4), .val (.int x5), .val (.long v1), .second, .val (.int v2), .val (.int v3), .val (.long v5), .second, .unset, .unset, .unset, .unset, .unset, .unset, .unset, .unset, .unset, .unset, .unset, .unset] [(.int v8)])) t → Steps p.tables e below (s₁.setTop (entryFrame m #[(.long x0), (.int x1), (.int x2), (.long x3), (.int x4), (.int x5)] maxLocals)) t := fun t k => pre6 t (by
    show Steps p.tables e below (s₁.setTop (mkF m 50 #[.val (.long x0), .second, .val (.int x1), .val (.int x2), .val (.long x3), .second, .val (.int x4), .val (.int x5), .val (.long v1), .second, .val (.int v2), .val (.int v3), .unset, .unset, .unset, .unset, .unset, .unset, .unset, .unset, .unset, .unset, .unset, .unset, .unset, .unset] [(.long v5)])) _
    refine XS.lstore X0.here hx rfl (hb hby at_50) rfl (l' := #[.val (.long x0), .second, .val (.int x1), .val (.int x2), .val (.long x3), .second, .val (.int x4), .val (.int x5), .val (.long v1), .second, .val (.int v2), .val (.int v3), .val (.long v5), .second, .unset, .unset, .unset, .unset, .unset, .unset, .unset, .unset, .unset, .unset, .unset, .unset]) rfl ?_
    show Steps p.tables e below (s₁.setTop (mkF m 52 #[.val (.long x0), .second, .val (.int x1), .val (.int x2), .val (.long x3), .second, .val (.int x4), .val (.int x5), .val (.long v1), .second, .val (.int v2), .val (.int v3), .val (.long v5), .second, .unset, .unset, .unset, .unset, .unset, .unset, .unset, .unset, .unset, .unset, .unset, .unset] [])) _
    refine XS.iload X0.here hx rfl (hb hby at_52) rfl ?_
    show Steps p.tables e below (s₁.setTop (mkF m 54 #[.val (.long x0), .second, .val (.int x1), .val (.int x2), .val (.long x3), .second, .val (.int x4), .val (.int x5), .val (.long v1), .second, .val (.int v2), .val (.int v3), .val (.long v5), .second, .unset, .unset, .unset, .unset, .unset, .unset, .unset, .unset, .unset, .unset, .unset, .unset] [(.int x4)])) _
    refine XS.iconst X0.here hx rfl (hb hby at_54) ?_
    show Steps p.tables e below (s₁.setTop (mkF m 55 #[.val (.long x0), .second, .val (.int x1), .val (.int x2), .val (.long x3), .second, .val (.int x4), .val (.int x5), .val (.long v1), .second, .val (.int v2), .val (.int v3), .val (.long v5), .second, .unset, .unset, .unset, .unset, .unset, .unset, .unset, .unset, .unset, .unset, .unset, .unset] [(.int (1 : Int32)), (.int x4)])) _
    refine XS.iand X0.here hx rfl (hb hby at_55) rfl ?_
    show Steps p.tables e below (s₁.setTop (mkF m 56 #[.val (.long x0), .second, .val (.int x1), .val (.int x2), .val (.long x3), .second, .val (.int x4), .val (.int x5), .val (.long v1), .second, .val (.int v2), .val (.int v3), .val (.long v5), .second, .unset, .unset, .unset, .unset, .unset, .unset, .unset, .unset, .unset, .unset, .unset, .unset] [(.int (x4 &&& (1 : Int32)))])) _
    by_cases hc7 : (x4 &&& (1 : Int32)) = (0 : Int32)
    · skip
      refine XS.ifNo X0.here hx rfl (hb hby at_56) rfl ((if0 _ _).trans (teq hc7).2) ?_
      show Steps p.tables e below (s₁.setTop (mkF m 59 #[.val (.long x0), .second, .val (.int x1), .val (.int x2), .val (.long x3), .second, .val (.int x4), .val (.int x5), .val (.long v1), .second, .val (.int v2), .val (.int v3), .val (.long v5), .second, .unset, .unset, .unset, .unset, .unset, .unset, .unset, .unset, .unset, .unset, .unset, .unset] [])) _
      refine XS.iload X0.here hx rfl (hb hby at_59) rfl ?_
      show Steps p.tables e below (s₁.setTop (mkF m 61 #[.val (.long x0), .second, .val (.int x1), .val (.int x2), .val (.long x3), .second, .val (.int x4), .val (.int x5), .val (.long v1), .second, .val (.int v2), .val (.int v3), .val (.long v5), .second, .unset, .unset, .unset, .unset, .unset, .unset, .unset, .unset, .unset, .unset, .unset, .unset] [(.int v2)])) _
      refine XS.goto X0.here hx rfl (pc0 := 61) (pc' := 72) rfl (hb hby at_61) (by decide) (by decide) ?_
      show Steps p.tables e below (s₁.setTop (mkF m 72 #[.val (.long x0), .second, .val (.int x1), .val (.int x2), .val (.long x3), .second, .val (.int x4), .val (.int x5), .val (.long v1), .second, .val (.int v2), .val (.int v3), .val (.long v5), .second, .unset, .unset, .unset, .unset, .unset, .unset, .unset, .unset, .unset, .unset, .unset, .unset] [(.int v2)])) _
      rw [show v8 = v2 from by rw [hv8, if_pos hc7]] at k
      exact k
    · skip
      refine XS.ifYes X0.here hx rfl (pc0 := 56) (pc' := 64) rfl (hb hby at_56) rfl ((if0 _ _).trans (feq hc7).2) (by decide) (by decide) ?_
      show Steps p.tables e below (s₁.setTop (mkF m 64 #[.val (.long x0), .second, .val (.int x1), .val (.int x2), .val (.long x3), .second, .val (.int x4), .val (.int x5), .val (.long v1), .second, .val (.int v2), .val (.int v3), .val (.long v5), .second, .unset, .unset, .unset, .unset, .unset, .unset, .unset, .unset, .unset, .unset, .unset, .unset] [])) _
      refine XS.iload X0.here hx rfl (hb hby at_64) rfl ?_
      show Steps p.tables e below (s₁.setTop (mkF m 66 #[.val (.long x0), .second, .val (.int x1), .val (.int x2), .val (.long x3), .second, .val (.int x4), .val (.int x5), .val (.long v1), .second, .val (.int v2), .val (.int v3), .val (.long v5), .second, .unset, .unset, .unset, .unset, .unset, .unset, .unset, .unset, .unset, .unset, .unset, .unset] [(.int x4)])) _
      refine XS.iconst X0.here hx rfl (hb hby at_66) ?_
      show Steps p.tables e below (s₁.setTop (mkF m 67 #[.val (.long x0), .second, .val (.int x1), .val (.int x2), .val (.long x3), .second, .val (.int x4), .val (.int x5), .val (.long v1), .second, .val (.int v2), .val (.int v3), .val (.long v5), .second, .unset, .unset, .unset, .unset, .unset, .unset, .unset, .unset, .unset, .unset, .unset, .unset] [(.int (1 : Int32)), (.int x4)])) _
      refine XS.iushr X0.here hx rfl (hb hby at_67) rfl ?_
      show Steps p.tables e below (s₁.setTop (mkF m 68 #[.val (.long x0), .second, .val (.int x1), .val (.int x2), .val (.long x3), .second, .val (.int x4), .val (.int x5), .val (.long v1), .second, .val (.int v2), .val (.int v3), .val (.long v5), .second, .unset, .unset, .unset, .unset, .unset, .unset, .unset, .unset, .unset, .unset, .unset, .unset] [(.int ((x4.toUInt32 >>> ((1 : Int32) &&& 31).toUInt32).toInt32))])) _
      refine XS.sipush X0.here hx rfl (hb hby at_68) ?_
      show Steps p.tables e below (s₁.setTop (mkF m 71 #[.val (.long x0), .second, .val (.int x1), .val (.int x2), .val (.long x3), .second, .val (.int x4), .val (.int x5), .val (.long v1), .second, .val (.int v2), .val (.int v3), .val (.long v5), .second, .unset, .unset, .unset, .unset, .unset, .unset, .unset, .unset, .unset, .unset, .unset, .unset] [(.int (4095 : Int32)), (.int ((x4.toUInt32 >>> ((1 : Int32) &&& 31).toUInt32).toInt32))])) _
      refine XS.iand X0.here hx rfl (hb hby at_71) rfl ?_
      show Steps p.tables e below (s₁.setTop (mkF m 72 #[.val (.long x0), .second, .val (.int x1), .val (.int x2), .val (.long x3), .second, .val (.int x4), .val (.int x5), .val (.long v1), .second, .val (.int v2), .val (.int v3), .val (.long v5), .second, .unset, .unset, .unset, .unset, .unset, .unset, .unset, .unset, .unset, .unset, .unset, .unset] [(.int (((x4.toUInt32 >>> ((1 : Int32) &&& 31).toUInt32).toInt32) &&& (4095 : Int32)))])) _
      rw [show v8 = (((x4.toUInt32 >>> ((1 : Int32) &&& 31).toUInt32).toInt32) &&& (4095 : Int32)) from by rw [hv8, if_neg hc7]] at k
      exact k)
  obtain ⟨v11, hv11⟩ : ∃ z : Int32, z = (if (x5 &&& (1 : Int32)) = (0 : Int32) then v3 else ((((x5.toUInt32 >>> ((1 : Int32) &&& 31).toUInt32).toInt32) % (255 : Int32)) + (1 : Int32))) := ⟨_, rfl⟩
  have pre12 : ∀ t, Steps p.tables e below (s₁.setTop (mkF m 96 #[.val (.long x0), .second, .val (.int x1), .val (.int x2), .val (.long x3), .second, .val (.int x4), .val (.int x5), .val (.long v1), .second, .val (.int v2), .val (.int v3), .val (.long v5), .second, .val (.int v8), .unset, .unset, .unset, .unset, .unset, .unset, .unset, .unset, .unset, .unset, .unset] [(.int v11)])) t → Steps p.tables e below (s₁.setTop (entryFrame m #[(.long x0), (.int x1), (.int x2), (.long x3), (.int x4), (.int x5)] maxLocals)) t := fun t k => pre9 t (by
    show Steps p.tables e below (s₁.setTop (mkF m 72 #[.val (.long x0), .second, .val (.int x1), .val (.int x2), .val (.long x3), .second, .val (.int x4), .val (.int x5), .val (.long v1), .second, .val (.int v2), .val (.int v3), .val (.long v5), .second, .unset, .unset, .unset, .unset, .unset, .unset, .unset, .unset, .unset, .unset, .unset, .unset] [(.int v8)])) _
    refine XS.istore X0.here hx rfl (hb hby at_72) rfl (l' := #[.val (.long x0), .second, .val (.int x1), .val (.int x2), .val (.long x3), .second, .val (.int x4), .val (.int x5), .val (.long v1), .second, .val (.int v2), .val (.int v3), .val (.long v5), .second, .val (.int v8), .unset, .unset, .unset, .unset, .unset, .unset, .unset, .unset, .unset, .unset, .unset]) rfl ?_
    show Steps p.tables e below (s₁.setTop (mkF m 74 #[.val (.long x0), .second, .val (.int x1), .val (.int x2), .val (.long x3), .second, .val (.int x4), .val (.int x5), .val (.long v1), .second, .val (.int v2), .val (.int v3), .val (.long v5), .second, .val (.int v8), .unset, .unset, .unset, .unset, .unset, .unset, .unset, .unset, .unset, .unset, .unset] [])) _
    refine XS.iload X0.here hx rfl (hb hby at_74) rfl ?_
    show Steps p.tables e below (s₁.setTop (mkF m 76 #[.val (.long x0), .second, .val (.int x1), .val (.int x2), .val (.long x3), .second, .val (.int x4), .val (.int x5), .val (.long v1), .second, .val (.int v2), .val (.int v3), .val (.long v5), .second, .val (.int v8), .unset, .unset, .unset, .unset, .unset, .unset, .unset, .unset, .unset, .unset, .unset] [(.int x5)])) _
    refine XS.iconst X0.here hx rfl (hb hby at_76) ?_
    show Steps p.tables e below (s₁.setTop (mkF m 77 #[.val (.long x0), .second, .val (.int x1), .val (.int x2), .val (.long x3), .second, .val (.int x4), .val (.int x5), .val (.long v1), .second, .val (.int v2), .val (.int v3), .val (.long v5), .second, .val (.int v8), .unset, .unset, .unset, .unset, .unset, .unset, .unset, .unset, .unset, .unset, .unset] [(.int (1 : Int32)), (.int x5)])) _
    refine XS.iand X0.here hx rfl (hb hby at_77) rfl ?_
    show Steps p.tables e below (s₁.setTop (mkF m 78 #[.val (.long x0), .second, .val (.int x1), .val (.int x2), .val (.long x3), .second, .val (.int x4), .val (.int x5), .val (.long v1), .second, .val (.int v2), .val (.int v3), .val (.long v5), .second, .val (.int v8), .unset, .unset, .unset, .unset, .unset, .unset, .unset, .unset, .unset, .unset, .unset] [(.int (x5 &&& (1 : Int32)))])) _
    by_cases hc10 : (x5 &&& (1 : Int32)) = (0 : Int32)
    · skip
      refine XS.ifNo X0.here hx rfl (hb hby at_78) rfl ((if0 _ _).trans (teq hc10).2) ?_
      show Steps p.tables e below (s₁.setTop (mkF m 81 #[.val (.long x0), .second, .val (.int x1), .val (.int x2), .val (.long x3), .second, .val (.int x4), .val (.int x5), .val (.long v1), .second, .val (.int v2), .val (.int v3), .val (.long v5), .second, .val (.int v8), .unset, .unset, .unset, .unset, .unset, .unset, .unset, .unset, .unset, .unset, .unset] [])) _
      refine XS.iload X0.here hx rfl (hb hby at_81) rfl ?_
      show Steps p.tables e below (s₁.setTop (mkF m 83 #[.val (.long x0), .second, .val (.int x1), .val (.int x2), .val (.long x3), .second, .val (.int x4), .val (.int x5), .val (.long v1), .second, .val (.int v2), .val (.int v3), .val (.long v5), .second, .val (.int v8), .unset, .unset, .unset, .unset, .unset, .unset, .unset, .unset, .unset, .unset, .unset] [(.int v3)])) _
      refine XS.goto X0.here hx rfl (pc0 := 83) (pc' := 96) rfl (hb hby at_83) (by decide) (by decide) ?_
      show Steps p.tables e below (s₁.setTop (mkF m 96 #[.val (.long x0), .second, .val (.int x1), .val (.int x2), .val (.long x3), .second, .val (.int x4), .val (.int x5), .val (.long v1), .second, .val (.int v2), .val (.int v3), .val (.long v5), .second, .val (.int v8), .unset, .unset, .unset, .unset, .unset, .unset, .unset, .unset, .unset, .unset, .unset] [(.int v3)])) _
      rw [show v11 = v3 from by rw [hv11, if_pos hc10]] at k
      exact k
    · skip
      refine XS.ifYes X0.here hx rfl (pc0 := 78) (pc' := 86) rfl (hb hby at_78) rfl ((if0 _ _).trans (feq hc10).2) (by decide) (by decide) ?_
      show Steps p.tables e below (s₁.setTop (mkF m 86 #[.val (.long x0), .second, .val (.int x1), .val (.int x2), .val (.long x3), .second, .val (.int x4), .val (.int x5), .val (.long v1), .second, .val (.int v2), .val (.int v3), .val (.long v5), .second, .val (.int v8), .unset, .unset, .unset, .unset, .unset, .unset, .unset, .unset, .unset, .unset, .unset] [])) _
      refine XS.iload X0.here hx rfl (hb hby at_86) rfl ?_
      show Steps p.tables e below (s₁.setTop (mkF m 88 #[.val (.long x0), .second, .val (.int x1), .val (.int x2), .val (.long x3), .second, .val (.int x4), .val (.int x5), .val (.long v1), .second, .val (.int v2), .val (.int v3), .val (.long v5), .second, .val (.int v8), .unset, .unset, .unset, .unset, .unset, .unset, .unset, .unset, .unset, .unset, .unset] [(.int x5)])) _
      refine XS.iconst X0.here hx rfl (hb hby at_88) ?_
      show Steps p.tables e below (s₁.setTop (mkF m 89 #[.val (.long x0), .second, .val (.int x1), .val (.int x2), .val (.long x3), .second, .val (.int x4), .val (.int x5), .val (.long v1), .second, .val (.int v2), .val (.int v3), .val (.long v5), .second, .val (.int v8), .unset, .unset, .unset, .unset, .unset, .unset, .unset, .unset, .unset, .unset, .unset] [(.int (1 : Int32)), (.int x5)])) _
      refine XS.iushr X0.here hx rfl (hb hby at_89) rfl ?_
      show Steps p.tables e below (s₁.setTop (mkF m 90 #[.val (.long x0), .second, .val (.int x1), .val (.int x2), .val (.long x3), .second, .val (.int x4), .val (.int x5), .val (.long v1), .second, .val (.int v2), .val (.int v3), .val (.long v5), .second, .val (.int v8), .unset, .unset, .unset, .unset, .unset, .unset, .unset, .unset, .unset, .unset, .unset] [(.int ((x5.toUInt32 >>> ((1 : Int32) &&& 31).toUInt32).toInt32))])) _
      refine XS.sipush X0.here hx rfl (hb hby at_90) ?_
      show Steps p.tables e below (s₁.setTop (mkF m 93 #[.val (.long x0), .second, .val (.int x1), .val (.int x2), .val (.long x3), .second, .val (.int x4), .val (.int x5), .val (.long v1), .second, .val (.int v2), .val (.int v3), .val (.long v5), .second, .val (.int v8), .unset, .unset, .unset, .unset, .unset, .unset, .unset, .unset, .unset, .unset, .unset] [(.int (255 : Int32)), (.int ((x5.toUInt32 >>> ((1 : Int32) &&& 31).toUInt32).toInt32))])) _
      refine iremM X0 hx rfl (hb hby at_93) rfl (by decide) ?_
      show Steps p.tables e below (s₁.setTop (mkF m 94 #[.val (.long x0), .second, .val (.int x1), .val (.int x2), .val (.long x3), .second, .val (.int x4), .val (.int x5), .val (.long v1), .second, .val (.int v2), .val (.int v3), .val (.long v5), .second, .val (.int v8), .unset, .unset, .unset, .unset, .unset, .unset, .unset, .unset, .unset, .unset, .unset] [(.int (((x5.toUInt32 >>> ((1 : Int32) &&& 31).toUInt32).toInt32) % (255 : Int32)))])) _
      refine XS.iconst X0.here hx rfl (hb hby at_94) ?_
      show Steps p.tables e below (s₁.setTop (mkF m 95 #[.val (.long x0), .second, .val (.int x1), .val (.int x2), .val (.long x3), .second, .val (.int x4), .val (.int x5), .val (.long v1), .second, .val (.int v2), .val (.int v3), .val (.long v5), .second, .val (.int v8), .unset, .unset, .unset, .unset, .unset, .unset, .unset, .unset, .unset, .unset, .unset] [(.int (1 : Int32)), (.int (((x5.toUInt32 >>> ((1 : Int32) &&& 31).toUInt32).toInt32) % (255 : Int32)))])) _
      refine XS.iadd X0.here hx rfl (hb hby at_95) rfl ?_
      show Steps p.tables e below (s₁.setTop (mkF m 96 #[.val (.long x0), .second, .val (.int x1), .val (.int x2), .val (.long x3), .second, .val (.int x4), .val (.int x5), .val (.long v1), .second, .val (.int v2), .val (.int v3), .val (.long v5), .second, .val (.int v8), .unset, .unset, .unset, .unset, .unset, .unset, .unset, .unset, .unset, .unset, .unset] [(.int ((((x5.toUInt32 >>> ((1 : Int32) &&& 31).toUInt32).toInt32) % (255 : Int32)) + (1 : Int32)))])) _
      rw [show v11 = ((((x5.toUInt32 >>> ((1 : Int32) &&& 31).toUInt32).toInt32) % (255 : Int32)) + (1 : Int32)) from by rw [hv11, if_neg hc10]] at k
      exact k)
  have pre13 : ∀ t, Steps p.tables e below (s₁.setTop (mkF m 98 #[.val (.long x0), .second, .val (.int x1), .val (.int x2), .val (.long x3), .second, .val (.int x4), .val (.int x5), .val (.long v1), .second, .val (.int v2), .val (.int v3), .val (.long v5), .second, .val (.int v8), .val (.int v11), .unset, .unset, .unset, .unset, .unset, .unset, .unset, .unset, .unset, .unset] [])) t → Steps p.tables e below (s₁.setTop (entryFrame m #[(.long x0), (.int x1), (.int x2), (.long x3), (.int x4), (.int x5)] maxLocals)) t := fun t k => pre12 t (by
    show Steps p.tables e below (s₁.setTop (mkF m 96 #[.val (.long x0), .second, .val (.int x1), .val (.int x2), .val (.long x3), .second, .val (.int x4), .val (.int x5), .val (.long v1), .second, .val (.int v2), .val (.int v3), .val (.long v5), .second, .val (.int v8), .unset, .unset, .unset, .unset, .unset, .unset, .unset, .unset, .unset, .unset, .unset] [(.int v11)])) _
    refine XS.istore X0.here hx rfl (hb hby at_96) rfl (l' := #[.val (.long x0), .second, .val (.int x1), .val (.int x2), .val (.long x3), .second, .val (.int x4), .val (.int x5), .val (.long v1), .second, .val (.int v2), .val (.int v3), .val (.long v5), .second, .val (.int v8), .val (.int v11), .unset, .unset, .unset, .unset, .unset, .unset, .unset, .unset, .unset, .unset]) rfl ?_
    show Steps p.tables e below (s₁.setTop (mkF m 98 #[.val (.long x0), .second, .val (.int x1), .val (.int x2), .val (.long x3), .second, .val (.int x4), .val (.int x5), .val (.long v1), .second, .val (.int v2), .val (.int v3), .val (.long v5), .second, .val (.int v8), .val (.int v11), .unset, .unset, .unset, .unset, .unset, .unset, .unset, .unset, .unset, .unset] [])) _
    exact k)
  obtain ⟨T14, h14, X14, e14, E14, A14, D14, -, st14⟩ := newO X0 hx hZ hown (hw _ (List.mem_of_getElem? (i := 3) rfl)) (hw _ (List.mem_of_getElem? (i := 4) rfl)) (hw _ (List.mem_of_getElem? (i := 5) rfl)) e0 (g := (mkF m 98 #[.val (.long x0), .second, .val (.int x1), .val (.int x2), .val (.long x3), .second, .val (.int x4), .val (.int x5), .val (.long v1), .second, .val (.int v2), .val (.int v3), .val (.long v5), .second, .val (.int v8), .val (.int v11), .unset, .unset, .unset, .unset, .unset, .unset, .unset, .unset, .unset, .unset] [])) rfl (hb hby at_98) (by decide) (by decide)
  obtain ⟨b14, g14⟩ : ∃ z, z = h0.size := ⟨_, rfl⟩
  rw [← g14] at A14 D14 st14
  have g_b14 : n0 ≤ b14 := Nat.le_trans Z0 (Nat.le_of_eq g14.symm)
  have Zz14 : n0 ≤ h14.size := Nat.le_trans Z0 E14.1
  have F_interval_b14 : Fld Z h14 b14 "com/example/kept_term/keptterm/model/Ballot" "interval" "J" (.long (0 : Int64)) := D14 (Or.inr (hw _ (List.mem_of_getElem? (i := 14) rfl))) (ty := .long) (by decide)
  have F_round_b14 : Fld Z h14 b14 "com/example/kept_term/keptterm/model/Ballot" "round" "I" (.int (0 : Int32)) := D14 (Or.inr (hw _ (List.mem_of_getElem? (i := 16) rfl))) (ty := .int) (by decide)
  have F_member_b14 : Fld Z h14 b14 "com/example/kept_term/keptterm/model/Ballot" "member" "I" (.int (0 : Int32)) := D14 (Or.inr (hw _ (List.mem_of_getElem? (i := 22) rfl))) (ty := .int) (by decide)
  have pre15 : ∀ t, Steps p.tables e below (T14.setTop (mkF m 101 #[.val (.long x0), .second, .val (.int x1), .val (.int x2), .val (.long x3), .second, .val (.int x4), .val (.int x5), .val (.long v1), .second, .val (.int v2), .val (.int v3), .val (.long v5), .second, .val (.int v8), .val (.int v11), .unset, .unset, .unset, .unset, .unset, .unset, .unset, .unset, .unset, .unset] [(.ref b14)])) t → Steps p.tables e below (s₁.setTop (entryFrame m #[(.long x0), (.int x1), (.int x2), (.long x3), (.int x4), (.int x5)] maxLocals)) t := fun t k => pre13 t (st14 _ k)
  have pre16 : ∀ t, Steps p.tables e below (T14.setTop (mkF m 108 #[.val (.long x0), .second, .val (.int x1), .val (.int x2), .val (.long x3), .second, .val (.int x4), .val (.int x5), .val (.long v1), .second, .val (.int v2), .val (.int v3), .val (.long v5), .second, .val (.int v8), .val (.int v11), .unset, .unset, .unset, .unset, .unset, .unset, .unset, .unset, .unset, .unset] [(.int v3), (.int v2), (.long v1), (.ref b14), (.ref b14)])) t → Steps p.tables e below (s₁.setTop (entryFrame m #[(.long x0), (.int x1), (.int x2), (.long x3), (.int x4), (.int x5)] maxLocals)) t := fun t k => pre15 t (by
    show Steps p.tables e below (T14.setTop (mkF m 101 #[.val (.long x0), .second, .val (.int x1), .val (.int x2), .val (.long x3), .second, .val (.int x4), .val (.int x5), .val (.long v1), .second, .val (.int v2), .val (.int v3), .val (.long v5), .second, .val (.int v8), .val (.int v11), .unset, .unset, .unset, .unset, .unset, .unset, .unset, .unset, .unset, .unset] [(.ref b14)])) _
    refine XS.dup X14.here hx rfl (hb hby at_101) rfl rfl ?_
    show Steps p.tables e below (T14.setTop (mkF m 102 #[.val (.long x0), .second, .val (.int x1), .val (.int x2), .val (.long x3), .second, .val (.int x4), .val (.int x5), .val (.long v1), .second, .val (.int v2), .val (.int v3), .val (.long v5), .second, .val (.int v8), .val (.int v11), .unset, .unset, .unset, .unset, .unset, .unset, .unset, .unset, .unset, .unset] [(.ref b14), (.ref b14)])) _
    refine XS.lload X14.here hx rfl (hb hby at_102) rfl ?_
    show Steps p.tables e below (T14.setTop (mkF m 104 #[.val (.long x0), .second, .val (.int x1), .val (.int x2), .val (.long x3), .second, .val (.int x4), .val (.int x5), .val (.long v1), .second, .val (.int v2), .val (.int v3), .val (.long v5), .second, .val (.int v8), .val (.int v11), .unset, .unset, .unset, .unset, .unset, .unset, .unset, .unset, .unset, .unset] [(.long v1), (.ref b14), (.ref b14)])) _
    refine XS.iload X14.here hx rfl (hb hby at_104) rfl ?_
    show Steps p.tables e below (T14.setTop (mkF m 106 #[.val (.long x0), .second, .val (.int x1), .val (.int x2), .val (.long x3), .second, .val (.int x4), .val (.int x5), .val (.long v1), .second, .val (.int v2), .val (.int v3), .val (.long v5), .second, .val (.int v8), .val (.int v11), .unset, .unset, .unset, .unset, .unset, .unset, .unset, .unset, .unset, .unset] [(.int v2), (.long v1), (.ref b14), (.ref b14)])) _
    refine XS.iload X14.here hx rfl (hb hby at_106) rfl ?_
    show Steps p.tables e below (T14.setTop (mkF m 108 #[.val (.long x0), .second, .val (.int x1), .val (.int x2), .val (.long x3), .second, .val (.int x4), .val (.int x5), .val (.long v1), .second, .val (.int v2), .val (.int v3), .val (.long v5), .second, .val (.int v8), .val (.int v11), .unset, .unset, .unset, .unset, .unset, .unset, .unset, .unset, .unset, .unset] [(.int v3), (.int v2), (.long v1), (.ref b14), (.ref b14)])) _
    exact k)
  obtain ⟨_, _, ⟨T18, L18, k18, n18⟩, -, X18, ⟨Lc18, hQ18, l18, y18, z18⟩, st18⟩ := X14.specialBack hx (y := (⟨"com/example/kept_term/keptterm/model/Ballot", "<init>", "(JII)V"⟩ : MethodName)) rfl hown (mvT hZ (hw _ (List.mem_of_getElem? (i := 6) rfl))) (mvT hZ (hw _ (List.mem_of_getElem? (i := 7) rfl))) (mvT hZ (hw _ (List.mem_of_getElem? (i := 8) rfl))) (by decide) (backOf (W := 1) (rm1 l Z a0 hw [] b14 v1 v2 v3   h14 n0 Zz14 A14 F_interval_b14 F_round_b14 F_member_b14 g_b14 (own_need0_18_0 x0 x1 x2 x3 x4 x5 v1 v2 v3 v5 v8 v11 hv1 hv2 hv3 hv5 hv8 hv11) (own_need0_18_1 x0 x1 x2 x3 x4 x5 v1 v2 v3 v5 v8 v11 hv1 hv2 hv3 hv5 hv8 hv11) (own_need0_18_2 x0 x1 x2 x3 x4 x5 v1 v2 v3 v5 v8 v11 hv1 hv2 hv3 hv5 hv8 hv11) (own_need0_18_3 x0 x1 x2 x3 x4 x5 v1 v2 v3 v5 v8 v11 hv1 hv2 hv3 hv5 hv8 hv11) (own_need0_18_4 x0 x1 x2 x3 x4 x5 v1 v2 v3 v5 v8 v11 hv1 hv2 hv3 hv5 hv8 hv11) (own_need0_18_5 x0 x1 x2 x3 x4 x5 v1 v2 v3 v5 v8 v11 hv1 hv2 hv3 hv5 hv8 hv11)) hZ (hw _ (List.mem_of_getElem? (i := 8) rfl)) (hw _ (List.mem_of_getElem? (i := 5) rfl)) (by decide) (by decide)) (g := (mkF m 108 #[.val (.long x0), .second, .val (.int x1), .val (.int x2), .val (.long x3), .second, .val (.int x4), .val (.int x5), .val (.long v1), .second, .val (.int v2), .val (.int v3), .val (.long v5), .second, .val (.int v8), .val (.int v11), .unset, .unset, .unset, .unset, .unset, .unset, .unset, .unset, .unset, .unset] [(.int v3), (.int v2), (.long v1), (.ref b14), (.ref b14)])) rfl (by rw [hml]; rfl) (Steps.refl _) (a := b14) (argsL := [(.long v1), (.int v2), (.int v3)]) (rest := [(.ref b14)]) (lenOf pd_1 rfl) rfl (by show 2 * 0 + _ ≤ _; exact Nat.le_of_eq rfl) (hb hby at_108) (fun _ _ => ⟨rfl, e14, (by decide : 1 + 0 ≤ _), (by decide : 3 + 0 ≤ _)⟩)
  dsimp only [Pt.U, Pt.locs, Pt.cells, Pt.slots] at X18 l18 y18 z18 st18 hQ18
  subst l18 y18 z18
  obtain ⟨rfl, N18q, K18, Ec18, Fc18_interval, Fc18_round, Fc18_member⟩ := hQ18
  have N18 := Fr.app N0 N18q
  have pre19 : ∀ t, Steps p.tables e below (T18.setTop (mkF m 111 #[.val (.long x0), .second, .val (.int x1), .val (.int x2), .val (.long x3), .second, .val (.int x4), .val (.int x5), .val (.long v1), .second, .val (.int v2), .val (.int v3), .val (.long v5), .second, .val (.int v8), .val (.int v11), .unset, .unset, .unset, .unset, .unset, .unset, .unset, .unset, .unset, .unset] [(.ref b14)])) t → Steps p.tables e below (s₁.setTop (entryFrame m #[(.long x0), (.int x1), (.int x2), (.long x3), (.int x4), (.int x5)] maxLocals)) t := fun t k => pre16 t (st18.trans k)
  have Zz18 : n0 ≤ T18.heap.size := Nat.le_trans Zz14 K18.1
  have c20 := (A14).keep K18
  have pre24 : ∀ t, Steps p.tables e below (T18.setTop (mkF m 113 #[.val (.long x0), .second, .val (.int x1), .val (.int x2), .val (.long x3), .second, .val (.int x4), .val (.int x5), .val (.long v1), .second, .val (.int v2), .val (.int v3), .val (.long v5), .second, .val (.int v8), .val (.int v11), .val (.ref b14), .unset, .unset, .unset, .unset, .unset, .unset, .unset, .unset, .unset] [])) t → Steps p.tables e below (s₁.setTop (entryFrame m #[(.long x0), (.int x1), (.int x2), (.long x3), (.int x4), (.int x5)] maxLocals)) t := fun t k => pre19 t (by
    show Steps p.tables e below (T18.setTop (mkF m 111 #[.val (.long x0), .second, .val (.int x1), .val (.int x2), .val (.long x3), .second, .val (.int x4), .val (.int x5), .val (.long v1), .second, .val (.int v2), .val (.int v3), .val (.long v5), .second, .val (.int v8), .val (.int v11), .unset, .unset, .unset, .unset, .unset, .unset, .unset, .unset, .unset, .unset] [(.ref b14)])) _
    refine XS.astore X18.here hx rfl (hb hby at_111) rfl rfl (l' := #[.val (.long x0), .second, .val (.int x1), .val (.int x2), .val (.long x3), .second, .val (.int x4), .val (.int x5), .val (.long v1), .second, .val (.int v2), .val (.int v3), .val (.long v5), .second, .val (.int v8), .val (.int v11), .val (.ref b14), .unset, .unset, .unset, .unset, .unset, .unset, .unset, .unset, .unset]) rfl ?_
    show Steps p.tables e below (T18.setTop (mkF m 113 #[.val (.long x0), .second, .val (.int x1), .val (.int x2), .val (.long x3), .second, .val (.int x4), .val (.int x5), .val (.long v1), .second, .val (.int v2), .val (.int v3), .val (.long v5), .second, .val (.int v8), .val (.int v11), .val (.ref b14), .unset, .unset, .unset, .unset, .unset, .unset, .unset, .unset, .unset] [])) _
    exact k)
  obtain ⟨T25, h25, X25, e25, E25, A25, D25, -, st25⟩ := newO X18 hx hZ hown (hw _ (List.mem_of_getElem? (i := 3) rfl)) (hw _ (List.mem_of_getElem? (i := 4) rfl)) (hw _ (List.mem_of_getElem? (i := 5) rfl)) rfl (g := (mkF m 113 #[.val (.long x0), .second, .val (.int x1), .val (.int x2), .val (.long x3), .second, .val (.int x4), .val (.int x5), .val (.long v1), .second, .val (.int v2), .val (.int v3), .val (.long v5), .second, .val (.int v8), .val (.int v11), .val (.ref b14), .unset, .unset, .unset, .unset, .unset, .unset, .unset, .unset, .unset] [])) rfl (hb hby at_113) (by decide) (by decide)
  obtain ⟨b25, g25⟩ : ∃ z, z = T18.heap.size := ⟨_, rfl⟩
  rw [← g25] at A25 D25 st25
  have ne_b14_b25 : b14 ≠ b25 := Nat.ne_of_lt (Nat.lt_of_lt_of_le (Ec18).lt (Nat.le_of_eq g25.symm))
  have g_b25 : n0 ≤ b25 := Nat.le_trans Zz18 (Nat.le_of_eq g25.symm)
  have c26 := (Ec18).ext E25
  have c27 := (Fc18_interval).ext E25
  have c28 := (Fc18_round).ext E25
  have c29 := (Fc18_member).ext E25
  have Zz25 : n0 ≤ h25.size := Nat.le_trans Zz18 E25.1
  have F_interval_b25 : Fld Z h25 b25 "com/example/kept_term/keptterm/model/Ballot" "interval" "J" (.long (0 : Int64)) := D25 (Or.inr (hw _ (List.mem_of_getElem? (i := 14) rfl))) (ty := .long) (by decide)
  have F_round_b25 : Fld Z h25 b25 "com/example/kept_term/keptterm/model/Ballot" "round" "I" (.int (0 : Int32)) := D25 (Or.inr (hw _ (List.mem_of_getElem? (i := 16) rfl))) (ty := .int) (by decide)
  have F_member_b25 : Fld Z h25 b25 "com/example/kept_term/keptterm/model/Ballot" "member" "I" (.int (0 : Int32)) := D25 (Or.inr (hw _ (List.mem_of_getElem? (i := 22) rfl))) (ty := .int) (by decide)
  have pre30 : ∀ t, Steps p.tables e below (T25.setTop (mkF m 116 #[.val (.long x0), .second, .val (.int x1), .val (.int x2), .val (.long x3), .second, .val (.int x4), .val (.int x5), .val (.long v1), .second, .val (.int v2), .val (.int v3), .val (.long v5), .second, .val (.int v8), .val (.int v11), .val (.ref b14), .unset, .unset, .unset, .unset, .unset, .unset, .unset, .unset, .unset] [(.ref b25)])) t → Steps p.tables e below (s₁.setTop (entryFrame m #[(.long x0), (.int x1), (.int x2), (.long x3), (.int x4), (.int x5)] maxLocals)) t := fun t k => pre24 t (st25 _ k)
  have pre31 : ∀ t, Steps p.tables e below (T25.setTop (mkF m 123 #[.val (.long x0), .second, .val (.int x1), .val (.int x2), .val (.long x3), .second, .val (.int x4), .val (.int x5), .val (.long v1), .second, .val (.int v2), .val (.int v3), .val (.long v5), .second, .val (.int v8), .val (.int v11), .val (.ref b14), .unset, .unset, .unset, .unset, .unset, .unset, .unset, .unset, .unset] [(.int v11), (.int v8), (.long v5), (.ref b25), (.ref b25)])) t → Steps p.tables e below (s₁.setTop (entryFrame m #[(.long x0), (.int x1), (.int x2), (.long x3), (.int x4), (.int x5)] maxLocals)) t := fun t k => pre30 t (by
    show Steps p.tables e below (T25.setTop (mkF m 116 #[.val (.long x0), .second, .val (.int x1), .val (.int x2), .val (.long x3), .second, .val (.int x4), .val (.int x5), .val (.long v1), .second, .val (.int v2), .val (.int v3), .val (.long v5), .second, .val (.int v8), .val (.int v11), .val (.ref b14), .unset, .unset, .unset, .unset, .unset, .unset, .unset, .unset, .unset] [(.ref b25)])) _
    refine XS.dup X25.here hx rfl (hb hby at_116) rfl rfl ?_
    show Steps p.tables e below (T25.setTop (mkF m 117 #[.val (.long x0), .second, .val (.int x1), .val (.int x2), .val (.long x3), .second, .val (.int x4), .val (.int x5), .val (.long v1), .second, .val (.int v2), .val (.int v3), .val (.long v5), .second, .val (.int v8), .val (.int v11), .val (.ref b14), .unset, .unset, .unset, .unset, .unset, .unset, .unset, .unset, .unset] [(.ref b25), (.ref b25)])) _
    refine XS.lload X25.here hx rfl (hb hby at_117) rfl ?_
    show Steps p.tables e below (T25.setTop (mkF m 119 #[.val (.long x0), .second, .val (.int x1), .val (.int x2), .val (.long x3), .second, .val (.int x4), .val (.int x5), .val (.long v1), .second, .val (.int v2), .val (.int v3), .val (.long v5), .second, .val (.int v8), .val (.int v11), .val (.ref b14), .unset, .unset, .unset, .unset, .unset, .unset, .unset, .unset, .unset] [(.long v5), (.ref b25), (.ref b25)])) _
    refine XS.iload X25.here hx rfl (hb hby at_119) rfl ?_
    show Steps p.tables e below (T25.setTop (mkF m 121 #[.val (.long x0), .second, .val (.int x1), .val (.int x2), .val (.long x3), .second, .val (.int x4), .val (.int x5), .val (.long v1), .second, .val (.int v2), .val (.int v3), .val (.long v5), .second, .val (.int v8), .val (.int v11), .val (.ref b14), .unset, .unset, .unset, .unset, .unset, .unset, .unset, .unset, .unset] [(.int v8), (.long v5), (.ref b25), (.ref b25)])) _
    refine XS.iload X25.here hx rfl (hb hby at_121) rfl ?_
    show Steps p.tables e below (T25.setTop (mkF m 123 #[.val (.long x0), .second, .val (.int x1), .val (.int x2), .val (.long x3), .second, .val (.int x4), .val (.int x5), .val (.long v1), .second, .val (.int v2), .val (.int v3), .val (.long v5), .second, .val (.int v8), .val (.int v11), .val (.ref b14), .unset, .unset, .unset, .unset, .unset, .unset, .unset, .unset, .unset] [(.int v11), (.int v8), (.long v5), (.ref b25), (.ref b25)])) _
    exact k)
  obtain ⟨_, _, ⟨T33, L33, k33, n33⟩, -, X33, ⟨Lc33, hQ33, l33, y33, z33⟩, st33⟩ := X25.specialBack hx (y := (⟨"com/example/kept_term/keptterm/model/Ballot", "<init>", "(JII)V"⟩ : MethodName)) rfl hown (mvT hZ (hw _ (List.mem_of_getElem? (i := 6) rfl))) (mvT hZ (hw _ (List.mem_of_getElem? (i := 7) rfl))) (mvT hZ (hw _ (List.mem_of_getElem? (i := 8) rfl))) (by decide) (backOf (W := 1) (rm1 l Z a0 hw [] b25 v5 v8 v11   h25 n0 Zz25 A25 F_interval_b25 F_round_b25 F_member_b25 g_b25 (own_need0_33_0 x0 x1 x2 x3 x4 x5 v1 v2 v3 v5 v8 v11 hv1 hv2 hv3 hv5 hv8 hv11) (own_need0_33_1 x0 x1 x2 x3 x4 x5 v1 v2 v3 v5 v8 v11 hv1 hv2 hv3 hv5 hv8 hv11) (own_need0_33_2 x0 x1 x2 x3 x4 x5 v1 v2 v3 v5 v8 v11 hv1 hv2 hv3 hv5 hv8 hv11) (own_need0_33_3 x0 x1 x2 x3 x4 x5 v1 v2 v3 v5 v8 v11 hv1 hv2 hv3 hv5 hv8 hv11) (own_need0_33_4 x0 x1 x2 x3 x4 x5 v1 v2 v3 v5 v8 v11 hv1 hv2 hv3 hv5 hv8 hv11) (own_need0_33_5 x0 x1 x2 x3 x4 x5 v1 v2 v3 v5 v8 v11 hv1 hv2 hv3 hv5 hv8 hv11)) hZ (hw _ (List.mem_of_getElem? (i := 8) rfl)) (hw _ (List.mem_of_getElem? (i := 5) rfl)) (by decide) (by decide)) (g := (mkF m 123 #[.val (.long x0), .second, .val (.int x1), .val (.int x2), .val (.long x3), .second, .val (.int x4), .val (.int x5), .val (.long v1), .second, .val (.int v2), .val (.int v3), .val (.long v5), .second, .val (.int v8), .val (.int v11), .val (.ref b14), .unset, .unset, .unset, .unset, .unset, .unset, .unset, .unset, .unset] [(.int v11), (.int v8), (.long v5), (.ref b25), (.ref b25)])) rfl (by rw [hml]; rfl) (Steps.refl _) (a := b25) (argsL := [(.long v5), (.int v8), (.int v11)]) (rest := [(.ref b25)]) (lenOf pd_1 rfl) rfl (by show 2 * 0 + _ ≤ _; exact Nat.le_of_eq rfl) (hb hby at_123) (fun _ _ => ⟨rfl, e25, (by decide : 2 + 0 ≤ _), (by decide : 6 + 0 ≤ _)⟩)
  dsimp only [Pt.U, Pt.locs, Pt.cells, Pt.slots] at X33 l33 y33 z33 st33 hQ33
  subst l33 y33 z33
  obtain ⟨rfl, N33q, K33, Ec33, Fc33_interval, Fc33_round, Fc33_member⟩ := hQ33
  have N33 := Fr.app N18 N33q
  have pre34 : ∀ t, Steps p.tables e below (T33.setTop (mkF m 126 #[.val (.long x0), .second, .val (.int x1), .val (.int x2), .val (.long x3), .second, .val (.int x4), .val (.int x5), .val (.long v1), .second, .val (.int v2), .val (.int v3), .val (.long v5), .second, .val (.int v8), .val (.int v11), .val (.ref b14), .unset, .unset, .unset, .unset, .unset, .unset, .unset, .unset, .unset] [(.ref b25)])) t → Steps p.tables e below (s₁.setTop (entryFrame m #[(.long x0), (.int x1), (.int x2), (.long x3), (.int x4), (.int x5)] maxLocals)) t := fun t k => pre31 t (st33.trans k)
  have Zz33 : n0 ≤ T33.heap.size := Nat.le_trans Zz25 K33.1
  have c35 := (c26).keep K33
  have c36 := (c27).keep K33 (ninS ne_b14_b25 (nin0))
  have c37 := (c28).keep K33 (ninS ne_b14_b25 (nin0))
  have c38 := (c29).keep K33 (ninS ne_b14_b25 (nin0))
  have c39 := (A25).keep K33
  have pre43 : ∀ t, Steps p.tables e below (T33.setTop (mkF m 130 #[.val (.long x0), .second, .val (.int x1), .val (.int x2), .val (.long x3), .second, .val (.int x4), .val (.int x5), .val (.long v1), .second, .val (.int v2), .val (.int v3), .val (.long v5), .second, .val (.int v8), .val (.int v11), .val (.ref b14), .val (.ref b25), .unset, .unset, .unset, .unset, .unset, .unset, .unset, .unset] [(.ref b14)])) t → Steps p.tables e below (s₁.setTop (entryFrame m #[(.long x0), (.int x1), (.int x2), (.long x3), (.int x4), (.int x5)] maxLocals)) t := fun t k => pre34 t (by
    show Steps p.tables e below (T33.setTop (mkF m 126 #[.val (.long x0), .second, .val (.int x1), .val (.int x2), .val (.long x3), .second, .val (.int x4), .val (.int x5), .val (.long v1), .second, .val (.int v2), .val (.int v3), .val (.long v5), .second, .val (.int v8), .val (.int v11), .val (.ref b14), .unset, .unset, .unset, .unset, .unset, .unset, .unset, .unset, .unset] [(.ref b25)])) _
    refine XS.astore X33.here hx rfl (hb hby at_126) rfl rfl (l' := #[.val (.long x0), .second, .val (.int x1), .val (.int x2), .val (.long x3), .second, .val (.int x4), .val (.int x5), .val (.long v1), .second, .val (.int v2), .val (.int v3), .val (.long v5), .second, .val (.int v8), .val (.int v11), .val (.ref b14), .val (.ref b25), .unset, .unset, .unset, .unset, .unset, .unset, .unset, .unset]) rfl ?_
    show Steps p.tables e below (T33.setTop (mkF m 128 #[.val (.long x0), .second, .val (.int x1), .val (.int x2), .val (.long x3), .second, .val (.int x4), .val (.int x5), .val (.long v1), .second, .val (.int v2), .val (.int v3), .val (.long v5), .second, .val (.int v8), .val (.int v11), .val (.ref b14), .val (.ref b25), .unset, .unset, .unset, .unset, .unset, .unset, .unset, .unset] [])) _
    refine XS.aload X33.here hx rfl (hb hby at_128) rfl rfl ?_
    show Steps p.tables e below (T33.setTop (mkF m 130 #[.val (.long x0), .second, .val (.int x1), .val (.int x2), .val (.long x3), .second, .val (.int x4), .val (.int x5), .val (.long v1), .second, .val (.int v2), .val (.int v3), .val (.long v5), .second, .val (.int v8), .val (.int v11), .val (.ref b14), .val (.ref b25), .unset, .unset, .unset, .unset, .unset, .unset, .unset, .unset] [(.ref b14)])) _
    exact k)
  obtain ⟨cq45, kq45, q45a, q45b, q45c⟩ := isOf hZ rfl c35
  obtain ⟨_, _, ⟨T45, L45, k45, n45⟩, -, X45, ⟨Lc45, hQ45, l45, y45, z45⟩, st45⟩ := X33.virtualBack hx (y := (⟨"com/example/kept_term/keptterm/model/Ballot", "token", "()J"⟩ : MethodName)) (z := (⟨"com/example/kept_term/keptterm/model/Ballot", "token", "()J"⟩ : MethodName)) hown (mvT hZ (hw _ (List.mem_of_getElem? (i := 23) rfl))) (mvT hZ (hw _ (List.mem_of_getElem? (i := 24) rfl))) (notFace_of_selects (args := #[]) (mvT hZ (hw _ (List.mem_of_getElem? (i := 26) rfl)))) (mvT hZ (hw _ (List.mem_of_getElem? (i := 26) rfl))) (mvT hZ (hw _ (List.mem_of_getElem? (i := 25) rfl))) (by decide) (backOf (W := 0) (rm4 l Z a0 hw [] b14 v1 v2 v3 T33.heap n0 Zz33 c36 c37 c38) hZ (hw _ (List.mem_of_getElem? (i := 27) rfl)) (hw _ (List.mem_of_getElem? (i := 5) rfl)) (by decide) (by decide)) q45a q45c (g := (mkF m 130 #[.val (.long x0), .second, .val (.int x1), .val (.int x2), .val (.long x3), .second, .val (.int x4), .val (.int x5), .val (.long v1), .second, .val (.int v2), .val (.int v3), .val (.long v5), .second, .val (.int v8), .val (.int v11), .val (.ref b14), .val (.ref b25), .unset, .unset, .unset, .unset, .unset, .unset, .unset, .unset] [(.ref b14)])) rfl (by rw [hml]; rfl) (Steps.refl _) (argsL := []) (rest := []) (lenOf pd_2 rfl) rfl (by show 2 * 0 + _ ≤ _; exact Nat.le_of_eq rfl) (hb hby at_130) (fun _ _ => ⟨rfl, rfl, (by decide : 2 + 0 ≤ _), (by decide : 6 + 0 ≤ _)⟩)
  dsimp only [Pt.U, Pt.locs, Pt.cells, Pt.slots] at X45 l45 y45 z45 st45 hQ45
  subst l45 y45 z45
  obtain ⟨r45, rfl, N45q, e45, P45⟩ := hQ45
  have N45 := Fr.app N33 N45q
  have pre46 : ∀ t, Steps p.tables e below (T45.setTop (mkF m 133 #[.val (.long x0), .second, .val (.int x1), .val (.int x2), .val (.long x3), .second, .val (.int x4), .val (.int x5), .val (.long v1), .second, .val (.int v2), .val (.int v3), .val (.long v5), .second, .val (.int v8), .val (.int v11), .val (.ref b14), .val (.ref b25), .unset, .unset, .unset, .unset, .unset, .unset, .unset, .unset] [(.long r45)])) t → Steps p.tables e below (s₁.setTop (entryFrame m #[(.long x0), (.int x1), (.int x2), (.long x3), (.int x4), (.int x5)] maxLocals)) t := fun t k => pre43 t (st45.trans k)
  have pre47 : ∀ t, Steps p.tables e below (T45.setTop (mkF m 137 #[.val (.long x0), .second, .val (.int x1), .val (.int x2), .val (.long x3), .second, .val (.int x4), .val (.int x5), .val (.long v1), .second, .val (.int v2), .val (.int v3), .val (.long v5), .second, .val (.int v8), .val (.int v11), .val (.ref b14), .val (.ref b25), .val (.long r45), .second, .unset, .unset, .unset, .unset, .unset, .unset] [(.ref b25)])) t → Steps p.tables e below (s₁.setTop (entryFrame m #[(.long x0), (.int x1), (.int x2), (.long x3), (.int x4), (.int x5)] maxLocals)) t := fun t k => pre46 t (by
    show Steps p.tables e below (T45.setTop (mkF m 133 #[.val (.long x0), .second, .val (.int x1), .val (.int x2), .val (.long x3), .second, .val (.int x4), .val (.int x5), .val (.long v1), .second, .val (.int v2), .val (.int v3), .val (.long v5), .second, .val (.int v8), .val (.int v11), .val (.ref b14), .val (.ref b25), .unset, .unset, .unset, .unset, .unset, .unset, .unset, .unset] [(.long r45)])) _
    refine XS.lstore X45.here hx rfl (hb hby at_133) rfl (l' := #[.val (.long x0), .second, .val (.int x1), .val (.int x2), .val (.long x3), .second, .val (.int x4), .val (.int x5), .val (.long v1), .second, .val (.int v2), .val (.int v3), .val (.long v5), .second, .val (.int v8), .val (.int v11), .val (.ref b14), .val (.ref b25), .val (.long r45), .second, .unset, .unset, .unset, .unset, .unset, .unset]) rfl ?_
    show Steps p.tables e below (T45.setTop (mkF m 135 #[.val (.long x0), .second, .val (.int x1), .val (.int x2), .val (.long x3), .second, .val (.int x4), .val (.int x5), .val (.long v1), .second, .val (.int v2), .val (.int v3), .val (.long v5), .second, .val (.int v8), .val (.int v11), .val (.ref b14), .val (.ref b25), .val (.long r45), .second, .unset, .unset, .unset, .unset, .unset, .unset] [])) _
    refine XS.aload X45.here hx rfl (hb hby at_135) rfl rfl ?_
    show Steps p.tables e below (T45.setTop (mkF m 137 #[.val (.long x0), .second, .val (.int x1), .val (.int x2), .val (.long x3), .second, .val (.int x4), .val (.int x5), .val (.long v1), .second, .val (.int v2), .val (.int v3), .val (.long v5), .second, .val (.int v8), .val (.int v11), .val (.ref b14), .val (.ref b25), .val (.long r45), .second, .unset, .unset, .unset, .unset, .unset, .unset] [(.ref b25)])) _
    exact k)
  obtain ⟨cq49, kq49, q49a, q49b, q49c⟩ := isOf hZ e45 Ec33
  obtain ⟨_, _, ⟨T49, L49, k49, n49⟩, -, X49, ⟨Lc49, hQ49, l49, y49, z49⟩, st49⟩ := X45.virtualBack hx (y := (⟨"com/example/kept_term/keptterm/model/Ballot", "token", "()J"⟩ : MethodName)) (z := (⟨"com/example/kept_term/keptterm/model/Ballot", "token", "()J"⟩ : MethodName)) hown (mvT hZ (hw _ (List.mem_of_getElem? (i := 23) rfl))) (mvT hZ (hw _ (List.mem_of_getElem? (i := 24) rfl))) (notFace_of_selects (args := #[]) (mvT hZ (hw _ (List.mem_of_getElem? (i := 26) rfl)))) (mvT hZ (hw _ (List.mem_of_getElem? (i := 26) rfl))) (mvT hZ (hw _ (List.mem_of_getElem? (i := 25) rfl))) (by decide) (backOf (W := 0) (rm4 l Z a0 hw [] b25 v5 v8 v11 T33.heap n0 Zz33 Fc33_interval Fc33_round Fc33_member) hZ (hw _ (List.mem_of_getElem? (i := 27) rfl)) (hw _ (List.mem_of_getElem? (i := 5) rfl)) (by decide) (by decide)) q49a q49c (g := (mkF m 137 #[.val (.long x0), .second, .val (.int x1), .val (.int x2), .val (.long x3), .second, .val (.int x4), .val (.int x5), .val (.long v1), .second, .val (.int v2), .val (.int v3), .val (.long v5), .second, .val (.int v8), .val (.int v11), .val (.ref b14), .val (.ref b25), .val (.long r45), .second, .unset, .unset, .unset, .unset, .unset, .unset] [(.ref b25)])) rfl (by rw [hml]; rfl) (Steps.refl _) (argsL := []) (rest := []) (lenOf pd_2 rfl) rfl (by show 2 * 0 + _ ≤ _; exact Nat.le_of_eq rfl) (hb hby at_137) (fun _ _ => ⟨rfl, e45, (by decide : 2 + 0 ≤ _), (by decide : 6 + 0 ≤ _)⟩)
  dsimp only [Pt.U, Pt.locs, Pt.cells, Pt.slots] at X49 l49 y49 z49 st49 hQ49
  subst l49 y49 z49
  obtain ⟨r49, rfl, N49q, e49, P49⟩ := hQ49
  have N49 := Fr.app N45 N49q
  have pre50 : ∀ t, Steps p.tables e below (T49.setTop (mkF m 140 #[.val (.long x0), .second, .val (.int x1), .val (.int x2), .val (.long x3), .second, .val (.int x4), .val (.int x5), .val (.long v1), .second, .val (.int v2), .val (.int v3), .val (.long v5), .second, .val (.int v8), .val (.int v11), .val (.ref b14), .val (.ref b25), .val (.long r45), .second, .unset, .unset, .unset, .unset, .unset, .unset] [(.long r49)])) t → Steps p.tables e below (s₁.setTop (entryFrame m #[(.long x0), (.int x1), (.int x2), (.long x3), (.int x4), (.int x5)] maxLocals)) t := fun t k => pre47 t (st49.trans k)
  obtain ⟨v52, hv52⟩ : ∃ z : Int32, z = (if r45 = (((v1 * (1048576 : Int64)) + ((v2.toInt64) * (256 : Int64))) + (v3.toInt64)) then (1 : Int32) else (0 : Int32)) := ⟨_, rfl⟩
  have pre53 : ∀ t, Steps p.tables e below (T49.setTop (mkF m 171 #[.val (.long x0), .second, .val (.int x1), .val (.int x2), .val (.long x3), .second, .val (.int x4), .val (.int x5), .val (.long v1), .second, .val (.int v2), .val (.int v3), .val (.long v5), .second, .val (.int v8), .val (.int v11), .val (.ref b14), .val (.ref b25), .val (.long r45), .second, .val (.long r49), .second, .unset, .unset, .unset, .unset] [(.int v52)])) t → Steps p.tables e below (s₁.setTop (entryFrame m #[(.long x0), (.int x1), (.int x2), (.long x3), (.int x4), (.int x5)] maxLocals)) t := fun t k => pre50 t (by
    show Steps p.tables e below (T49.setTop (mkF m 140 #[.val (.long x0), .second, .val (.int x1), .val (.int x2), .val (.long x3), .second, .val (.int x4), .val (.int x5), .val (.long v1), .second, .val (.int v2), .val (.int v3), .val (.long v5), .second, .val (.int v8), .val (.int v11), .val (.ref b14), .val (.ref b25), .val (.long r45), .second, .unset, .unset, .unset, .unset, .unset, .unset] [(.long r49)])) _
    refine XS.lstore X49.here hx rfl (hb hby at_140) rfl (l' := #[.val (.long x0), .second, .val (.int x1), .val (.int x2), .val (.long x3), .second, .val (.int x4), .val (.int x5), .val (.long v1), .second, .val (.int v2), .val (.int v3), .val (.long v5), .second, .val (.int v8), .val (.int v11), .val (.ref b14), .val (.ref b25), .val (.long r45), .second, .val (.long r49), .second, .unset, .unset, .unset, .unset]) rfl ?_
    show Steps p.tables e below (T49.setTop (mkF m 142 #[.val (.long x0), .second, .val (.int x1), .val (.int x2), .val (.long x3), .second, .val (.int x4), .val (.int x5), .val (.long v1), .second, .val (.int v2), .val (.int v3), .val (.long v5), .second, .val (.int v8), .val (.int v11), .val (.ref b14), .val (.ref b25), .val (.long r45), .second, .val (.long r49), .second, .unset, .unset, .unset, .unset] [])) _
    refine XS.lload X49.here hx rfl (hb hby at_142) rfl ?_
    show Steps p.tables e below (T49.setTop (mkF m 144 #[.val (.long x0), .second, .val (.int x1), .val (.int x2), .val (.long x3), .second, .val (.int x4), .val (.int x5), .val (.long v1), .second, .val (.int v2), .val (.int v3), .val (.long v5), .second, .val (.int v8), .val (.int v11), .val (.ref b14), .val (.ref b25), .val (.long r45), .second, .val (.long r49), .second, .unset, .unset, .unset, .unset] [(.long r45)])) _
    refine XS.lload X49.here hx rfl (hb hby at_144) rfl ?_
    show Steps p.tables e below (T49.setTop (mkF m 146 #[.val (.long x0), .second, .val (.int x1), .val (.int x2), .val (.long x3), .second, .val (.int x4), .val (.int x5), .val (.long v1), .second, .val (.int v2), .val (.int v3), .val (.long v5), .second, .val (.int v8), .val (.int v11), .val (.ref b14), .val (.ref b25), .val (.long r45), .second, .val (.long r49), .second, .unset, .unset, .unset, .unset] [(.long v1), (.long r45)])) _
    refine X49.ldc2Long hx hown (mvT hZ (hw _ (List.mem_of_getElem? (i := 28) rfl))) (g := (mkF m 146 #[.val (.long x0), .second, .val (.int x1), .val (.int x2), .val (.long x3), .second, .val (.int x4), .val (.int x5), .val (.long v1), .second, .val (.int v2), .val (.int v3), .val (.long v5), .second, .val (.int v8), .val (.int v11), .val (.ref b14), .val (.ref b25), .val (.long r45), .second, .val (.long r49), .second, .unset, .unset, .unset, .unset] [(.long v1), (.long r45)])) rfl (hb hby at_146) _ ?_
    show Steps p.tables e below (T49.setTop (mkF m 149 #[.val (.long x0), .second, .val (.int x1), .val (.int x2), .val (.long x3), .second, .val (.int x4), .val (.int x5), .val (.long v1), .second, .val (.int v2), .val (.int v3), .val (.long v5), .second, .val (.int v8), .val (.int v11), .val (.ref b14), .val (.ref b25), .val (.long r45), .second, .val (.long r49), .second, .unset, .unset, .unset, .unset] [(.long (1048576 : Int64)), (.long v1), (.long r45)])) _
    refine XS.lmul X49.here hx rfl (hb hby at_149) rfl ?_
    show Steps p.tables e below (T49.setTop (mkF m 150 #[.val (.long x0), .second, .val (.int x1), .val (.int x2), .val (.long x3), .second, .val (.int x4), .val (.int x5), .val (.long v1), .second, .val (.int v2), .val (.int v3), .val (.long v5), .second, .val (.int v8), .val (.int v11), .val (.ref b14), .val (.ref b25), .val (.long r45), .second, .val (.long r49), .second, .unset, .unset, .unset, .unset] [(.long (v1 * (1048576 : Int64))), (.long r45)])) _
    refine XS.iload X49.here hx rfl (hb hby at_150) rfl ?_
    show Steps p.tables e below (T49.setTop (mkF m 152 #[.val (.long x0), .second, .val (.int x1), .val (.int x2), .val (.long x3), .second, .val (.int x4), .val (.int x5), .val (.long v1), .second, .val (.int v2), .val (.int v3), .val (.long v5), .second, .val (.int v8), .val (.int v11), .val (.ref b14), .val (.ref b25), .val (.long r45), .second, .val (.long r49), .second, .unset, .unset, .unset, .unset] [(.int v2), (.long (v1 * (1048576 : Int64))), (.long r45)])) _
    refine XS.i2l X49.here hx rfl (hb hby at_152) rfl ?_
    show Steps p.tables e below (T49.setTop (mkF m 153 #[.val (.long x0), .second, .val (.int x1), .val (.int x2), .val (.long x3), .second, .val (.int x4), .val (.int x5), .val (.long v1), .second, .val (.int v2), .val (.int v3), .val (.long v5), .second, .val (.int v8), .val (.int v11), .val (.ref b14), .val (.ref b25), .val (.long r45), .second, .val (.long r49), .second, .unset, .unset, .unset, .unset] [(.long (v2.toInt64)), (.long (v1 * (1048576 : Int64))), (.long r45)])) _
    refine X49.ldc2Long hx hown (mvT hZ (hw _ (List.mem_of_getElem? (i := 29) rfl))) (g := (mkF m 153 #[.val (.long x0), .second, .val (.int x1), .val (.int x2), .val (.long x3), .second, .val (.int x4), .val (.int x5), .val (.long v1), .second, .val (.int v2), .val (.int v3), .val (.long v5), .second, .val (.int v8), .val (.int v11), .val (.ref b14), .val (.ref b25), .val (.long r45), .second, .val (.long r49), .second, .unset, .unset, .unset, .unset] [(.long (v2.toInt64)), (.long (v1 * (1048576 : Int64))), (.long r45)])) rfl (hb hby at_153) _ ?_
    show Steps p.tables e below (T49.setTop (mkF m 156 #[.val (.long x0), .second, .val (.int x1), .val (.int x2), .val (.long x3), .second, .val (.int x4), .val (.int x5), .val (.long v1), .second, .val (.int v2), .val (.int v3), .val (.long v5), .second, .val (.int v8), .val (.int v11), .val (.ref b14), .val (.ref b25), .val (.long r45), .second, .val (.long r49), .second, .unset, .unset, .unset, .unset] [(.long (256 : Int64)), (.long (v2.toInt64)), (.long (v1 * (1048576 : Int64))), (.long r45)])) _
    refine XS.lmul X49.here hx rfl (hb hby at_156) rfl ?_
    show Steps p.tables e below (T49.setTop (mkF m 157 #[.val (.long x0), .second, .val (.int x1), .val (.int x2), .val (.long x3), .second, .val (.int x4), .val (.int x5), .val (.long v1), .second, .val (.int v2), .val (.int v3), .val (.long v5), .second, .val (.int v8), .val (.int v11), .val (.ref b14), .val (.ref b25), .val (.long r45), .second, .val (.long r49), .second, .unset, .unset, .unset, .unset] [(.long ((v2.toInt64) * (256 : Int64))), (.long (v1 * (1048576 : Int64))), (.long r45)])) _
    refine XS.ladd X49.here hx rfl (hb hby at_157) rfl ?_
    show Steps p.tables e below (T49.setTop (mkF m 158 #[.val (.long x0), .second, .val (.int x1), .val (.int x2), .val (.long x3), .second, .val (.int x4), .val (.int x5), .val (.long v1), .second, .val (.int v2), .val (.int v3), .val (.long v5), .second, .val (.int v8), .val (.int v11), .val (.ref b14), .val (.ref b25), .val (.long r45), .second, .val (.long r49), .second, .unset, .unset, .unset, .unset] [(.long ((v1 * (1048576 : Int64)) + ((v2.toInt64) * (256 : Int64)))), (.long r45)])) _
    refine XS.iload X49.here hx rfl (hb hby at_158) rfl ?_
    show Steps p.tables e below (T49.setTop (mkF m 160 #[.val (.long x0), .second, .val (.int x1), .val (.int x2), .val (.long x3), .second, .val (.int x4), .val (.int x5), .val (.long v1), .second, .val (.int v2), .val (.int v3), .val (.long v5), .second, .val (.int v8), .val (.int v11), .val (.ref b14), .val (.ref b25), .val (.long r45), .second, .val (.long r49), .second, .unset, .unset, .unset, .unset] [(.int v3), (.long ((v1 * (1048576 : Int64)) + ((v2.toInt64) * (256 : Int64)))), (.long r45)])) _
    refine XS.i2l X49.here hx rfl (hb hby at_160) rfl ?_
    show Steps p.tables e below (T49.setTop (mkF m 161 #[.val (.long x0), .second, .val (.int x1), .val (.int x2), .val (.long x3), .second, .val (.int x4), .val (.int x5), .val (.long v1), .second, .val (.int v2), .val (.int v3), .val (.long v5), .second, .val (.int v8), .val (.int v11), .val (.ref b14), .val (.ref b25), .val (.long r45), .second, .val (.long r49), .second, .unset, .unset, .unset, .unset] [(.long (v3.toInt64)), (.long ((v1 * (1048576 : Int64)) + ((v2.toInt64) * (256 : Int64)))), (.long r45)])) _
    refine XS.ladd X49.here hx rfl (hb hby at_161) rfl ?_
    show Steps p.tables e below (T49.setTop (mkF m 162 #[.val (.long x0), .second, .val (.int x1), .val (.int x2), .val (.long x3), .second, .val (.int x4), .val (.int x5), .val (.long v1), .second, .val (.int v2), .val (.int v3), .val (.long v5), .second, .val (.int v8), .val (.int v11), .val (.ref b14), .val (.ref b25), .val (.long r45), .second, .val (.long r49), .second, .unset, .unset, .unset, .unset] [(.long (((v1 * (1048576 : Int64)) + ((v2.toInt64) * (256 : Int64))) + (v3.toInt64))), (.long r45)])) _
    refine XS.lcmp X49.here hx rfl (hb hby at_162) rfl ?_
    show Steps p.tables e below (T49.setTop (mkF m 163 #[.val (.long x0), .second, .val (.int x1), .val (.int x2), .val (.long x3), .second, .val (.int x4), .val (.int x5), .val (.long v1), .second, .val (.int v2), .val (.int v3), .val (.long v5), .second, .val (.int v8), .val (.int v11), .val (.ref b14), .val (.ref b25), .val (.long r45), .second, .val (.long r49), .second, .unset, .unset, .unset, .unset] [(.int (lcmpW r45 (((v1 * (1048576 : Int64)) + ((v2.toInt64) * (256 : Int64))) + (v3.toInt64))))])) _
    by_cases hc51 : r45 = (((v1 * (1048576 : Int64)) + ((v2.toInt64) * (256 : Int64))) + (v3.toInt64))
    · skip
      refine XS.ifNo X49.here hx rfl (hb hby at_163) rfl ((if0 _ _).trans (teq ((lw_eq _ _).mpr hc51)).2) ?_
      show Steps p.tables e below (T49.setTop (mkF m 166 #[.val (.long x0), .second, .val (.int x1), .val (.int x2), .val (.long x3), .second, .val (.int x4), .val (.int x5), .val (.long v1), .second, .val (.int v2), .val (.int v3), .val (.long v5), .second, .val (.int v8), .val (.int v11), .val (.ref b14), .val (.ref b25), .val (.long r45), .second, .val (.long r49), .second, .unset, .unset, .unset, .unset] [])) _
      refine XS.iconst X49.here hx rfl (hb hby at_166) ?_
      show Steps p.tables e below (T49.setTop (mkF m 167 #[.val (.long x0), .second, .val (.int x1), .val (.int x2), .val (.long x3), .second, .val (.int x4), .val (.int x5), .val (.long v1), .second, .val (.int v2), .val (.int v3), .val (.long v5), .second, .val (.int v8), .val (.int v11), .val (.ref b14), .val (.ref b25), .val (.long r45), .second, .val (.long r49), .second, .unset, .unset, .unset, .unset] [(.int (1 : Int32))])) _
      refine XS.goto X49.here hx rfl (pc0 := 167) (pc' := 171) rfl (hb hby at_167) (by decide) (by decide) ?_
      show Steps p.tables e below (T49.setTop (mkF m 171 #[.val (.long x0), .second, .val (.int x1), .val (.int x2), .val (.long x3), .second, .val (.int x4), .val (.int x5), .val (.long v1), .second, .val (.int v2), .val (.int v3), .val (.long v5), .second, .val (.int v8), .val (.int v11), .val (.ref b14), .val (.ref b25), .val (.long r45), .second, .val (.long r49), .second, .unset, .unset, .unset, .unset] [(.int (1 : Int32))])) _
      rw [show v52 = (1 : Int32) from by rw [hv52, if_pos hc51]] at k
      exact k
    · skip
      refine XS.ifYes X49.here hx rfl (pc0 := 163) (pc' := 170) rfl (hb hby at_163) rfl ((if0 _ _).trans (feq (fun q => hc51 ((lw_eq _ _).mp q))).2) (by decide) (by decide) ?_
      show Steps p.tables e below (T49.setTop (mkF m 170 #[.val (.long x0), .second, .val (.int x1), .val (.int x2), .val (.long x3), .second, .val (.int x4), .val (.int x5), .val (.long v1), .second, .val (.int v2), .val (.int v3), .val (.long v5), .second, .val (.int v8), .val (.int v11), .val (.ref b14), .val (.ref b25), .val (.long r45), .second, .val (.long r49), .second, .unset, .unset, .unset, .unset] [])) _
      refine XS.iconst X49.here hx rfl (hb hby at_170) ?_
      show Steps p.tables e below (T49.setTop (mkF m 171 #[.val (.long x0), .second, .val (.int x1), .val (.int x2), .val (.long x3), .second, .val (.int x4), .val (.int x5), .val (.long v1), .second, .val (.int v2), .val (.int v3), .val (.long v5), .second, .val (.int v8), .val (.int v11), .val (.ref b14), .val (.ref b25), .val (.long r45), .second, .val (.long r49), .second, .unset, .unset, .unset, .unset] [(.int (0 : Int32))])) _
      rw [show v52 = (0 : Int32) from by rw [hv52, if_neg hc51]] at k
      exact k)
  obtain ⟨v55, hv55⟩ : ∃ z : Int32, z = (if r49 = (((v5 * (1048576 : Int64)) + ((v8.toInt64) * (256 : Int64))) + (v11.toInt64)) then (1 : Int32) else (0 : Int32)) := ⟨_, rfl⟩
  have pre56 : ∀ t, Steps p.tables e below (T49.setTop (mkF m 202 #[.val (.long x0), .second, .val (.int x1), .val (.int x2), .val (.long x3), .second, .val (.int x4), .val (.int x5), .val (.long v1), .second, .val (.int v2), .val (.int v3), .val (.long v5), .second, .val (.int v8), .val (.int v11), .val (.ref b14), .val (.ref b25), .val (.long r45), .second, .val (.long r49), .second, .val (.int v52), .unset, .unset, .unset] [(.int v55)])) t → Steps p.tables e below (s₁.setTop (entryFrame m #[(.long x0), (.int x1), (.int x2), (.long x3), (.int x4), (.int x5)] maxLocals)) t := fun t k => pre53 t (by
    show Steps p.tables e below (T49.setTop (mkF m 171 #[.val (.long x0), .second, .val (.int x1), .val (.int x2), .val (.long x3), .second, .val (.int x4), .val (.int x5), .val (.long v1), .second, .val (.int v2), .val (.int v3), .val (.long v5), .second, .val (.int v8), .val (.int v11), .val (.ref b14), .val (.ref b25), .val (.long r45), .second, .val (.long r49), .second, .unset, .unset, .unset, .unset] [(.int v52)])) _
    refine XS.istore X49.here hx rfl (hb hby at_171) rfl (l' := #[.val (.long x0), .second, .val (.int x1), .val (.int x2), .val (.long x3), .second, .val (.int x4), .val (.int x5), .val (.long v1), .second, .val (.int v2), .val (.int v3), .val (.long v5), .second, .val (.int v8), .val (.int v11), .val (.ref b14), .val (.ref b25), .val (.long r45), .second, .val (.long r49), .second, .val (.int v52), .unset, .unset, .unset]) rfl ?_
    show Steps p.tables e below (T49.setTop (mkF m 173 #[.val (.long x0), .second, .val (.int x1), .val (.int x2), .val (.long x3), .second, .val (.int x4), .val (.int x5), .val (.long v1), .second, .val (.int v2), .val (.int v3), .val (.long v5), .second, .val (.int v8), .val (.int v11), .val (.ref b14), .val (.ref b25), .val (.long r45), .second, .val (.long r49), .second, .val (.int v52), .unset, .unset, .unset] [])) _
    refine XS.lload X49.here hx rfl (hb hby at_173) rfl ?_
    show Steps p.tables e below (T49.setTop (mkF m 175 #[.val (.long x0), .second, .val (.int x1), .val (.int x2), .val (.long x3), .second, .val (.int x4), .val (.int x5), .val (.long v1), .second, .val (.int v2), .val (.int v3), .val (.long v5), .second, .val (.int v8), .val (.int v11), .val (.ref b14), .val (.ref b25), .val (.long r45), .second, .val (.long r49), .second, .val (.int v52), .unset, .unset, .unset] [(.long r49)])) _
    refine XS.lload X49.here hx rfl (hb hby at_175) rfl ?_
    show Steps p.tables e below (T49.setTop (mkF m 177 #[.val (.long x0), .second, .val (.int x1), .val (.int x2), .val (.long x3), .second, .val (.int x4), .val (.int x5), .val (.long v1), .second, .val (.int v2), .val (.int v3), .val (.long v5), .second, .val (.int v8), .val (.int v11), .val (.ref b14), .val (.ref b25), .val (.long r45), .second, .val (.long r49), .second, .val (.int v52), .unset, .unset, .unset] [(.long v5), (.long r49)])) _
    refine X49.ldc2Long hx hown (mvT hZ (hw _ (List.mem_of_getElem? (i := 28) rfl))) (g := (mkF m 177 #[.val (.long x0), .second, .val (.int x1), .val (.int x2), .val (.long x3), .second, .val (.int x4), .val (.int x5), .val (.long v1), .second, .val (.int v2), .val (.int v3), .val (.long v5), .second, .val (.int v8), .val (.int v11), .val (.ref b14), .val (.ref b25), .val (.long r45), .second, .val (.long r49), .second, .val (.int v52), .unset, .unset, .unset] [(.long v5), (.long r49)])) rfl (hb hby at_177) _ ?_
    show Steps p.tables e below (T49.setTop (mkF m 180 #[.val (.long x0), .second, .val (.int x1), .val (.int x2), .val (.long x3), .second, .val (.int x4), .val (.int x5), .val (.long v1), .second, .val (.int v2), .val (.int v3), .val (.long v5), .second, .val (.int v8), .val (.int v11), .val (.ref b14), .val (.ref b25), .val (.long r45), .second, .val (.long r49), .second, .val (.int v52), .unset, .unset, .unset] [(.long (1048576 : Int64)), (.long v5), (.long r49)])) _
    refine XS.lmul X49.here hx rfl (hb hby at_180) rfl ?_
    show Steps p.tables e below (T49.setTop (mkF m 181 #[.val (.long x0), .second, .val (.int x1), .val (.int x2), .val (.long x3), .second, .val (.int x4), .val (.int x5), .val (.long v1), .second, .val (.int v2), .val (.int v3), .val (.long v5), .second, .val (.int v8), .val (.int v11), .val (.ref b14), .val (.ref b25), .val (.long r45), .second, .val (.long r49), .second, .val (.int v52), .unset, .unset, .unset] [(.long (v5 * (1048576 : Int64))), (.long r49)])) _
    refine XS.iload X49.here hx rfl (hb hby at_181) rfl ?_
    show Steps p.tables e below (T49.setTop (mkF m 183 #[.val (.long x0), .second, .val (.int x1), .val (.int x2), .val (.long x3), .second, .val (.int x4), .val (.int x5), .val (.long v1), .second, .val (.int v2), .val (.int v3), .val (.long v5), .second, .val (.int v8), .val (.int v11), .val (.ref b14), .val (.ref b25), .val (.long r45), .second, .val (.long r49), .second, .val (.int v52), .unset, .unset, .unset] [(.int v8), (.long (v5 * (1048576 : Int64))), (.long r49)])) _
    refine XS.i2l X49.here hx rfl (hb hby at_183) rfl ?_
    show Steps p.tables e below (T49.setTop (mkF m 184 #[.val (.long x0), .second, .val (.int x1), .val (.int x2), .val (.long x3), .second, .val (.int x4), .val (.int x5), .val (.long v1), .second, .val (.int v2), .val (.int v3), .val (.long v5), .second, .val (.int v8), .val (.int v11), .val (.ref b14), .val (.ref b25), .val (.long r45), .second, .val (.long r49), .second, .val (.int v52), .unset, .unset, .unset] [(.long (v8.toInt64)), (.long (v5 * (1048576 : Int64))), (.long r49)])) _
    refine X49.ldc2Long hx hown (mvT hZ (hw _ (List.mem_of_getElem? (i := 29) rfl))) (g := (mkF m 184 #[.val (.long x0), .second, .val (.int x1), .val (.int x2), .val (.long x3), .second, .val (.int x4), .val (.int x5), .val (.long v1), .second, .val (.int v2), .val (.int v3), .val (.long v5), .second, .val (.int v8), .val (.int v11), .val (.ref b14), .val (.ref b25), .val (.long r45), .second, .val (.long r49), .second, .val (.int v52), .unset, .unset, .unset] [(.long (v8.toInt64)), (.long (v5 * (1048576 : Int64))), (.long r49)])) rfl (hb hby at_184) _ ?_
    show Steps p.tables e below (T49.setTop (mkF m 187 #[.val (.long x0), .second, .val (.int x1), .val (.int x2), .val (.long x3), .second, .val (.int x4), .val (.int x5), .val (.long v1), .second, .val (.int v2), .val (.int v3), .val (.long v5), .second, .val (.int v8), .val (.int v11), .val (.ref b14), .val (.ref b25), .val (.long r45), .second, .val (.long r49), .second, .val (.int v52), .unset, .unset, .unset] [(.long (256 : Int64)), (.long (v8.toInt64)), (.long (v5 * (1048576 : Int64))), (.long r49)])) _
    refine XS.lmul X49.here hx rfl (hb hby at_187) rfl ?_
    show Steps p.tables e below (T49.setTop (mkF m 188 #[.val (.long x0), .second, .val (.int x1), .val (.int x2), .val (.long x3), .second, .val (.int x4), .val (.int x5), .val (.long v1), .second, .val (.int v2), .val (.int v3), .val (.long v5), .second, .val (.int v8), .val (.int v11), .val (.ref b14), .val (.ref b25), .val (.long r45), .second, .val (.long r49), .second, .val (.int v52), .unset, .unset, .unset] [(.long ((v8.toInt64) * (256 : Int64))), (.long (v5 * (1048576 : Int64))), (.long r49)])) _
    refine XS.ladd X49.here hx rfl (hb hby at_188) rfl ?_
    show Steps p.tables e below (T49.setTop (mkF m 189 #[.val (.long x0), .second, .val (.int x1), .val (.int x2), .val (.long x3), .second, .val (.int x4), .val (.int x5), .val (.long v1), .second, .val (.int v2), .val (.int v3), .val (.long v5), .second, .val (.int v8), .val (.int v11), .val (.ref b14), .val (.ref b25), .val (.long r45), .second, .val (.long r49), .second, .val (.int v52), .unset, .unset, .unset] [(.long ((v5 * (1048576 : Int64)) + ((v8.toInt64) * (256 : Int64)))), (.long r49)])) _
    refine XS.iload X49.here hx rfl (hb hby at_189) rfl ?_
    show Steps p.tables e below (T49.setTop (mkF m 191 #[.val (.long x0), .second, .val (.int x1), .val (.int x2), .val (.long x3), .second, .val (.int x4), .val (.int x5), .val (.long v1), .second, .val (.int v2), .val (.int v3), .val (.long v5), .second, .val (.int v8), .val (.int v11), .val (.ref b14), .val (.ref b25), .val (.long r45), .second, .val (.long r49), .second, .val (.int v52), .unset, .unset, .unset] [(.int v11), (.long ((v5 * (1048576 : Int64)) + ((v8.toInt64) * (256 : Int64)))), (.long r49)])) _
    refine XS.i2l X49.here hx rfl (hb hby at_191) rfl ?_
    show Steps p.tables e below (T49.setTop (mkF m 192 #[.val (.long x0), .second, .val (.int x1), .val (.int x2), .val (.long x3), .second, .val (.int x4), .val (.int x5), .val (.long v1), .second, .val (.int v2), .val (.int v3), .val (.long v5), .second, .val (.int v8), .val (.int v11), .val (.ref b14), .val (.ref b25), .val (.long r45), .second, .val (.long r49), .second, .val (.int v52), .unset, .unset, .unset] [(.long (v11.toInt64)), (.long ((v5 * (1048576 : Int64)) + ((v8.toInt64) * (256 : Int64)))), (.long r49)])) _
    refine XS.ladd X49.here hx rfl (hb hby at_192) rfl ?_
    show Steps p.tables e below (T49.setTop (mkF m 193 #[.val (.long x0), .second, .val (.int x1), .val (.int x2), .val (.long x3), .second, .val (.int x4), .val (.int x5), .val (.long v1), .second, .val (.int v2), .val (.int v3), .val (.long v5), .second, .val (.int v8), .val (.int v11), .val (.ref b14), .val (.ref b25), .val (.long r45), .second, .val (.long r49), .second, .val (.int v52), .unset, .unset, .unset] [(.long (((v5 * (1048576 : Int64)) + ((v8.toInt64) * (256 : Int64))) + (v11.toInt64))), (.long r49)])) _
    refine XS.lcmp X49.here hx rfl (hb hby at_193) rfl ?_
    show Steps p.tables e below (T49.setTop (mkF m 194 #[.val (.long x0), .second, .val (.int x1), .val (.int x2), .val (.long x3), .second, .val (.int x4), .val (.int x5), .val (.long v1), .second, .val (.int v2), .val (.int v3), .val (.long v5), .second, .val (.int v8), .val (.int v11), .val (.ref b14), .val (.ref b25), .val (.long r45), .second, .val (.long r49), .second, .val (.int v52), .unset, .unset, .unset] [(.int (lcmpW r49 (((v5 * (1048576 : Int64)) + ((v8.toInt64) * (256 : Int64))) + (v11.toInt64))))])) _
    by_cases hc54 : r49 = (((v5 * (1048576 : Int64)) + ((v8.toInt64) * (256 : Int64))) + (v11.toInt64))
    · skip
      refine XS.ifNo X49.here hx rfl (hb hby at_194) rfl ((if0 _ _).trans (teq ((lw_eq _ _).mpr hc54)).2) ?_
      show Steps p.tables e below (T49.setTop (mkF m 197 #[.val (.long x0), .second, .val (.int x1), .val (.int x2), .val (.long x3), .second, .val (.int x4), .val (.int x5), .val (.long v1), .second, .val (.int v2), .val (.int v3), .val (.long v5), .second, .val (.int v8), .val (.int v11), .val (.ref b14), .val (.ref b25), .val (.long r45), .second, .val (.long r49), .second, .val (.int v52), .unset, .unset, .unset] [])) _
      refine XS.iconst X49.here hx rfl (hb hby at_197) ?_
      show Steps p.tables e below (T49.setTop (mkF m 198 #[.val (.long x0), .second, .val (.int x1), .val (.int x2), .val (.long x3), .second, .val (.int x4), .val (.int x5), .val (.long v1), .second, .val (.int v2), .val (.int v3), .val (.long v5), .second, .val (.int v8), .val (.int v11), .val (.ref b14), .val (.ref b25), .val (.long r45), .second, .val (.long r49), .second, .val (.int v52), .unset, .unset, .unset] [(.int (1 : Int32))])) _
      refine XS.goto X49.here hx rfl (pc0 := 198) (pc' := 202) rfl (hb hby at_198) (by decide) (by decide) ?_
      show Steps p.tables e below (T49.setTop (mkF m 202 #[.val (.long x0), .second, .val (.int x1), .val (.int x2), .val (.long x3), .second, .val (.int x4), .val (.int x5), .val (.long v1), .second, .val (.int v2), .val (.int v3), .val (.long v5), .second, .val (.int v8), .val (.int v11), .val (.ref b14), .val (.ref b25), .val (.long r45), .second, .val (.long r49), .second, .val (.int v52), .unset, .unset, .unset] [(.int (1 : Int32))])) _
      rw [show v55 = (1 : Int32) from by rw [hv55, if_pos hc54]] at k
      exact k
    · skip
      refine XS.ifYes X49.here hx rfl (pc0 := 194) (pc' := 201) rfl (hb hby at_194) rfl ((if0 _ _).trans (feq (fun q => hc54 ((lw_eq _ _).mp q))).2) (by decide) (by decide) ?_
      show Steps p.tables e below (T49.setTop (mkF m 201 #[.val (.long x0), .second, .val (.int x1), .val (.int x2), .val (.long x3), .second, .val (.int x4), .val (.int x5), .val (.long v1), .second, .val (.int v2), .val (.int v3), .val (.long v5), .second, .val (.int v8), .val (.int v11), .val (.ref b14), .val (.ref b25), .val (.long r45), .second, .val (.long r49), .second, .val (.int v52), .unset, .unset, .unset] [])) _
      refine XS.iconst X49.here hx rfl (hb hby at_201) ?_
      show Steps p.tables e below (T49.setTop (mkF m 202 #[.val (.long x0), .second, .val (.int x1), .val (.int x2), .val (.long x3), .second, .val (.int x4), .val (.int x5), .val (.long v1), .second, .val (.int v2), .val (.int v3), .val (.long v5), .second, .val (.int v8), .val (.int v11), .val (.ref b14), .val (.ref b25), .val (.long r45), .second, .val (.long r49), .second, .val (.int v52), .unset, .unset, .unset] [(.int (0 : Int32))])) _
      rw [show v55 = (0 : Int32) from by rw [hv55, if_neg hc54]] at k
      exact k)
  obtain ⟨v59, hv59⟩ : ∃ z : Int32, z = (if r45 < (0 : Int64) then (0 : Int32) else (if r49 < (0 : Int64) then (0 : Int32) else (1 : Int32))) := ⟨_, rfl⟩
  have pre60 : ∀ t, Steps p.tables e below (T49.setTop (mkF m 223 #[.val (.long x0), .second, .val (.int x1), .val (.int x2), .val (.long x3), .second, .val (.int x4), .val (.int x5), .val (.long v1), .second, .val (.int v2), .val (.int v3), .val (.long v5), .second, .val (.int v8), .val (.int v11), .val (.ref b14), .val (.ref b25), .val (.long r45), .second, .val (.long r49), .second, .val (.int v52), .val (.int v55), .unset, .unset] [(.int v59)])) t → Steps p.tables e below (s₁.setTop (entryFrame m #[(.long x0), (.int x1), (.int x2), (.long x3), (.int x4), (.int x5)] maxLocals)) t := fun t k => pre56 t (by
    show Steps p.tables e below (T49.setTop (mkF m 202 #[.val (.long x0), .second, .val (.int x1), .val (.int x2), .val (.long x3), .second, .val (.int x4), .val (.int x5), .val (.long v1), .second, .val (.int v2), .val (.int v3), .val (.long v5), .second, .val (.int v8), .val (.int v11), .val (.ref b14), .val (.ref b25), .val (.long r45), .second, .val (.long r49), .second, .val (.int v52), .unset, .unset, .unset] [(.int v55)])) _
    refine XS.istore X49.here hx rfl (hb hby at_202) rfl (l' := #[.val (.long x0), .second, .val (.int x1), .val (.int x2), .val (.long x3), .second, .val (.int x4), .val (.int x5), .val (.long v1), .second, .val (.int v2), .val (.int v3), .val (.long v5), .second, .val (.int v8), .val (.int v11), .val (.ref b14), .val (.ref b25), .val (.long r45), .second, .val (.long r49), .second, .val (.int v52), .val (.int v55), .unset, .unset]) rfl ?_
    show Steps p.tables e below (T49.setTop (mkF m 204 #[.val (.long x0), .second, .val (.int x1), .val (.int x2), .val (.long x3), .second, .val (.int x4), .val (.int x5), .val (.long v1), .second, .val (.int v2), .val (.int v3), .val (.long v5), .second, .val (.int v8), .val (.int v11), .val (.ref b14), .val (.ref b25), .val (.long r45), .second, .val (.long r49), .second, .val (.int v52), .val (.int v55), .unset, .unset] [])) _
    refine XS.lload X49.here hx rfl (hb hby at_204) rfl ?_
    show Steps p.tables e below (T49.setTop (mkF m 206 #[.val (.long x0), .second, .val (.int x1), .val (.int x2), .val (.long x3), .second, .val (.int x4), .val (.int x5), .val (.long v1), .second, .val (.int v2), .val (.int v3), .val (.long v5), .second, .val (.int v8), .val (.int v11), .val (.ref b14), .val (.ref b25), .val (.long r45), .second, .val (.long r49), .second, .val (.int v52), .val (.int v55), .unset, .unset] [(.long r45)])) _
    refine XS.lconst X49.here hx rfl (hb hby at_206) ?_
    show Steps p.tables e below (T49.setTop (mkF m 207 #[.val (.long x0), .second, .val (.int x1), .val (.int x2), .val (.long x3), .second, .val (.int x4), .val (.int x5), .val (.long v1), .second, .val (.int v2), .val (.int v3), .val (.long v5), .second, .val (.int v8), .val (.int v11), .val (.ref b14), .val (.ref b25), .val (.long r45), .second, .val (.long r49), .second, .val (.int v52), .val (.int v55), .unset, .unset] [(.long (0 : Int64)), (.long r45)])) _
    refine XS.lcmp X49.here hx rfl (hb hby at_207) rfl ?_
    show Steps p.tables e below (T49.setTop (mkF m 208 #[.val (.long x0), .second, .val (.int x1), .val (.int x2), .val (.long x3), .second, .val (.int x4), .val (.int x5), .val (.long v1), .second, .val (.int v2), .val (.int v3), .val (.long v5), .second, .val (.int v8), .val (.int v11), .val (.ref b14), .val (.ref b25), .val (.long r45), .second, .val (.long r49), .second, .val (.int v52), .val (.int v55), .unset, .unset] [(.int (lcmpW r45 (0 : Int64)))])) _
    by_cases hc57 : r45 < (0 : Int64)
    · skip
      refine XS.ifYes X49.here hx rfl (pc0 := 208) (pc' := 222) rfl (hb hby at_208) rfl ((if0 _ _).trans (tlt ((lw_lt _ _).mpr hc57)).1) (by decide) (by decide) ?_
      show Steps p.tables e below (T49.setTop (mkF m 222 #[.val (.long x0), .second, .val (.int x1), .val (.int x2), .val (.long x3), .second, .val (.int x4), .val (.int x5), .val (.long v1), .second, .val (.int v2), .val (.int v3), .val (.long v5), .second, .val (.int v8), .val (.int v11), .val (.ref b14), .val (.ref b25), .val (.long r45), .second, .val (.long r49), .second, .val (.int v52), .val (.int v55), .unset, .unset] [])) _
      refine XS.iconst X49.here hx rfl (hb hby at_222) ?_
      show Steps p.tables e below (T49.setTop (mkF m 223 #[.val (.long x0), .second, .val (.int x1), .val (.int x2), .val (.long x3), .second, .val (.int x4), .val (.int x5), .val (.long v1), .second, .val (.int v2), .val (.int v3), .val (.long v5), .second, .val (.int v8), .val (.int v11), .val (.ref b14), .val (.ref b25), .val (.long r45), .second, .val (.long r49), .second, .val (.int v52), .val (.int v55), .unset, .unset] [(.int (0 : Int32))])) _
      rw [show v59 = (0 : Int32) from by rw [hv59, if_pos hc57]] at k
      exact k
    · skip
      refine XS.ifNo X49.here hx rfl (hb hby at_208) rfl ((if0 _ _).trans (flt (fun q => hc57 ((lw_lt _ _).mp q))).1) ?_
      show Steps p.tables e below (T49.setTop (mkF m 211 #[.val (.long x0), .second, .val (.int x1), .val (.int x2), .val (.long x3), .second, .val (.int x4), .val (.int x5), .val (.long v1), .second, .val (.int v2), .val (.int v3), .val (.long v5), .second, .val (.int v8), .val (.int v11), .val (.ref b14), .val (.ref b25), .val (.long r45), .second, .val (.long r49), .second, .val (.int v52), .val (.int v55), .unset, .unset] [])) _
      refine XS.lload X49.here hx rfl (hb hby at_211) rfl ?_
      show Steps p.tables e below (T49.setTop (mkF m 213 #[.val (.long x0), .second, .val (.int x1), .val (.int x2), .val (.long x3), .second, .val (.int x4), .val (.int x5), .val (.long v1), .second, .val (.int v2), .val (.int v3), .val (.long v5), .second, .val (.int v8), .val (.int v11), .val (.ref b14), .val (.ref b25), .val (.long r45), .second, .val (.long r49), .second, .val (.int v52), .val (.int v55), .unset, .unset] [(.long r49)])) _
      refine XS.lconst X49.here hx rfl (hb hby at_213) ?_
      show Steps p.tables e below (T49.setTop (mkF m 214 #[.val (.long x0), .second, .val (.int x1), .val (.int x2), .val (.long x3), .second, .val (.int x4), .val (.int x5), .val (.long v1), .second, .val (.int v2), .val (.int v3), .val (.long v5), .second, .val (.int v8), .val (.int v11), .val (.ref b14), .val (.ref b25), .val (.long r45), .second, .val (.long r49), .second, .val (.int v52), .val (.int v55), .unset, .unset] [(.long (0 : Int64)), (.long r49)])) _
      refine XS.lcmp X49.here hx rfl (hb hby at_214) rfl ?_
      show Steps p.tables e below (T49.setTop (mkF m 215 #[.val (.long x0), .second, .val (.int x1), .val (.int x2), .val (.long x3), .second, .val (.int x4), .val (.int x5), .val (.long v1), .second, .val (.int v2), .val (.int v3), .val (.long v5), .second, .val (.int v8), .val (.int v11), .val (.ref b14), .val (.ref b25), .val (.long r45), .second, .val (.long r49), .second, .val (.int v52), .val (.int v55), .unset, .unset] [(.int (lcmpW r49 (0 : Int64)))])) _
      by_cases hc58 : r49 < (0 : Int64)
      · skip
        refine XS.ifYes X49.here hx rfl (pc0 := 215) (pc' := 222) rfl (hb hby at_215) rfl ((if0 _ _).trans (tlt ((lw_lt _ _).mpr hc58)).1) (by decide) (by decide) ?_
        show Steps p.tables e below (T49.setTop (mkF m 222 #[.val (.long x0), .second, .val (.int x1), .val (.int x2), .val (.long x3), .second, .val (.int x4), .val (.int x5), .val (.long v1), .second, .val (.int v2), .val (.int v3), .val (.long v5), .second, .val (.int v8), .val (.int v11), .val (.ref b14), .val (.ref b25), .val (.long r45), .second, .val (.long r49), .second, .val (.int v52), .val (.int v55), .unset, .unset] [])) _
        refine XS.iconst X49.here hx rfl (hb hby at_222) ?_
        show Steps p.tables e below (T49.setTop (mkF m 223 #[.val (.long x0), .second, .val (.int x1), .val (.int x2), .val (.long x3), .second, .val (.int x4), .val (.int x5), .val (.long v1), .second, .val (.int v2), .val (.int v3), .val (.long v5), .second, .val (.int v8), .val (.int v11), .val (.ref b14), .val (.ref b25), .val (.long r45), .second, .val (.long r49), .second, .val (.int v52), .val (.int v55), .unset, .unset] [(.int (0 : Int32))])) _
        rw [show v59 = (0 : Int32) from by rw [hv59, if_neg hc57, if_pos hc58]] at k
        exact k
      · skip
        refine XS.ifNo X49.here hx rfl (hb hby at_215) rfl ((if0 _ _).trans (flt (fun q => hc58 ((lw_lt _ _).mp q))).1) ?_
        show Steps p.tables e below (T49.setTop (mkF m 218 #[.val (.long x0), .second, .val (.int x1), .val (.int x2), .val (.long x3), .second, .val (.int x4), .val (.int x5), .val (.long v1), .second, .val (.int v2), .val (.int v3), .val (.long v5), .second, .val (.int v8), .val (.int v11), .val (.ref b14), .val (.ref b25), .val (.long r45), .second, .val (.long r49), .second, .val (.int v52), .val (.int v55), .unset, .unset] [])) _
        refine XS.iconst X49.here hx rfl (hb hby at_218) ?_
        show Steps p.tables e below (T49.setTop (mkF m 219 #[.val (.long x0), .second, .val (.int x1), .val (.int x2), .val (.long x3), .second, .val (.int x4), .val (.int x5), .val (.long v1), .second, .val (.int v2), .val (.int v3), .val (.long v5), .second, .val (.int v8), .val (.int v11), .val (.ref b14), .val (.ref b25), .val (.long r45), .second, .val (.long r49), .second, .val (.int v52), .val (.int v55), .unset, .unset] [(.int (1 : Int32))])) _
        refine XS.goto X49.here hx rfl (pc0 := 219) (pc' := 223) rfl (hb hby at_219) (by decide) (by decide) ?_
        show Steps p.tables e below (T49.setTop (mkF m 223 #[.val (.long x0), .second, .val (.int x1), .val (.int x2), .val (.long x3), .second, .val (.int x4), .val (.int x5), .val (.long v1), .second, .val (.int v2), .val (.int v3), .val (.long v5), .second, .val (.int v8), .val (.int v11), .val (.ref b14), .val (.ref b25), .val (.long r45), .second, .val (.long r49), .second, .val (.int v52), .val (.int v55), .unset, .unset] [(.int (1 : Int32))])) _
        rw [show v59 = (1 : Int32) from by rw [hv59, if_neg hc57, if_neg hc58]] at k
        exact k)
  have pre61 : ∀ t, Steps p.tables e below (T49.setTop (mkF m 229 #[.val (.long x0), .second, .val (.int x1), .val (.int x2), .val (.long x3), .second, .val (.int x4), .val (.int x5), .val (.long v1), .second, .val (.int v2), .val (.int v3), .val (.long v5), .second, .val (.int v8), .val (.int v11), .val (.ref b14), .val (.ref b25), .val (.long r45), .second, .val (.long r49), .second, .val (.int v52), .val (.int v55), .val (.int v59), .unset] [(.long r49), (.long r45)])) t → Steps p.tables e below (s₁.setTop (entryFrame m #[(.long x0), (.int x1), (.int x2), (.long x3), (.int x4), (.int x5)] maxLocals)) t := fun t k => pre60 t (by
    show Steps p.tables e below (T49.setTop (mkF m 223 #[.val (.long x0), .second, .val (.int x1), .val (.int x2), .val (.long x3), .second, .val (.int x4), .val (.int x5), .val (.long v1), .second, .val (.int v2), .val (.int v3), .val (.long v5), .second, .val (.int v8), .val (.int v11), .val (.ref b14), .val (.ref b25), .val (.long r45), .second, .val (.long r49), .second, .val (.int v52), .val (.int v55), .unset, .unset] [(.int v59)])) _
    refine XS.istore X49.here hx rfl (hb hby at_223) rfl (l' := #[.val (.long x0), .second, .val (.int x1), .val (.int x2), .val (.long x3), .second, .val (.int x4), .val (.int x5), .val (.long v1), .second, .val (.int v2), .val (.int v3), .val (.long v5), .second, .val (.int v8), .val (.int v11), .val (.ref b14), .val (.ref b25), .val (.long r45), .second, .val (.long r49), .second, .val (.int v52), .val (.int v55), .val (.int v59), .unset]) rfl ?_
    show Steps p.tables e below (T49.setTop (mkF m 225 #[.val (.long x0), .second, .val (.int x1), .val (.int x2), .val (.long x3), .second, .val (.int x4), .val (.int x5), .val (.long v1), .second, .val (.int v2), .val (.int v3), .val (.long v5), .second, .val (.int v8), .val (.int v11), .val (.ref b14), .val (.ref b25), .val (.long r45), .second, .val (.long r49), .second, .val (.int v52), .val (.int v55), .val (.int v59), .unset] [])) _
    refine XS.lload X49.here hx rfl (hb hby at_225) rfl ?_
    show Steps p.tables e below (T49.setTop (mkF m 227 #[.val (.long x0), .second, .val (.int x1), .val (.int x2), .val (.long x3), .second, .val (.int x4), .val (.int x5), .val (.long v1), .second, .val (.int v2), .val (.int v3), .val (.long v5), .second, .val (.int v8), .val (.int v11), .val (.ref b14), .val (.ref b25), .val (.long r45), .second, .val (.long r49), .second, .val (.int v52), .val (.int v55), .val (.int v59), .unset] [(.long r45)])) _
    refine XS.lload X49.here hx rfl (hb hby at_227) rfl ?_
    show Steps p.tables e below (T49.setTop (mkF m 229 #[.val (.long x0), .second, .val (.int x1), .val (.int x2), .val (.long x3), .second, .val (.int x4), .val (.int x5), .val (.long v1), .second, .val (.int v2), .val (.int v3), .val (.long v5), .second, .val (.int v8), .val (.int v11), .val (.ref b14), .val (.ref b25), .val (.long r45), .second, .val (.long r49), .second, .val (.int v52), .val (.int v55), .val (.int v59), .unset] [(.long r49), (.long r45)])) _
    exact k)
  obtain ⟨_, _, ⟨T63, L63, k63, n63⟩, -, X63, ⟨Lc63, hQ63, l63, y63, z63⟩, st63⟩ := Jvm.LawKit.callS X49 hx (y := (⟨"com/example/kept_term/keptterm/model/BallotTokenPinLaw", "cmpLong", "(JJ)I"⟩ : MethodName)) hown (mvT hZ (hw _ (List.mem_of_getElem? (i := 30) rfl))) (mvT hZ (hw _ (List.mem_of_getElem? (i := 31) rfl))) (mvT hZ (hw _ (List.mem_of_getElem? (i := 32) rfl))) (mvT hZ (hw _ (List.mem_of_getElem? (i := 33) rfl))) (by decide) (backOf (W := 0) (rm5 l Z a0 hw [] r45 r49  T33.heap n0 Zz33 ) hZ (hw _ (List.mem_of_getElem? (i := 33) rfl)) (hw _ (List.mem_of_getElem? (i := 32) rfl)) (by decide) (by decide)) (g := (mkF m 229 #[.val (.long x0), .second, .val (.int x1), .val (.int x2), .val (.long x3), .second, .val (.int x4), .val (.int x5), .val (.long v1), .second, .val (.int v2), .val (.int v3), .val (.long v5), .second, .val (.int v8), .val (.int v11), .val (.ref b14), .val (.ref b25), .val (.long r45), .second, .val (.long r49), .second, .val (.int v52), .val (.int v55), .val (.int v59), .unset] [(.long r49), (.long r45)])) rfl (by rw [hml]; rfl) (argsL := [(.long r45), (.long r49)]) (rest := []) (lenOf pd_3 rfl) rfl (by show 2 * 0 + _ ≤ _; exact Nat.le_of_eq rfl) (hb hby at_229) (fun _ _ => ⟨rfl, e49, (by decide : 2 + 0 ≤ _), (by decide : 6 + 0 ≤ _)⟩)
  dsimp only [Pt.U, Pt.locs, Pt.cells, Pt.slots] at X63 l63 y63 z63 st63 hQ63
  subst l63 y63 z63
  obtain ⟨r63, rfl, N63q, e63, P63⟩ := hQ63
  have N63 := Fr.app N49 N63q
  have pre64 : ∀ t, Steps p.tables e below (T63.setTop (mkF m 232 #[.val (.long x0), .second, .val (.int x1), .val (.int x2), .val (.long x3), .second, .val (.int x4), .val (.int x5), .val (.long v1), .second, .val (.int v2), .val (.int v3), .val (.long v5), .second, .val (.int v8), .val (.int v11), .val (.ref b14), .val (.ref b25), .val (.long r45), .second, .val (.long r49), .second, .val (.int v52), .val (.int v55), .val (.int v59), .unset] [(.int r63)])) t → Steps p.tables e below (s₁.setTop (entryFrame m #[(.long x0), (.int x1), (.int x2), (.long x3), (.int x4), (.int x5)] maxLocals)) t := fun t k => pre61 t (st63 _ k)
  have pre65 : ∀ t, Steps p.tables e below (T63.setTop (mkF m 244 #[.val (.long x0), .second, .val (.int x1), .val (.int x2), .val (.long x3), .second, .val (.int x4), .val (.int x5), .val (.long v1), .second, .val (.int v2), .val (.int v3), .val (.long v5), .second, .val (.int v8), .val (.int v11), .val (.ref b14), .val (.ref b25), .val (.long r45), .second, .val (.long r49), .second, .val (.int v52), .val (.int v55), .val (.int v59), .unset] [(.int v11), (.int v8), (.long v5), (.int v3), (.int v2), (.long v1), (.int r63)])) t → Steps p.tables e below (s₁.setTop (entryFrame m #[(.long x0), (.int x1), (.int x2), (.long x3), (.int x4), (.int x5)] maxLocals)) t := fun t k => pre64 t (by
    show Steps p.tables e below (T63.setTop (mkF m 232 #[.val (.long x0), .second, .val (.int x1), .val (.int x2), .val (.long x3), .second, .val (.int x4), .val (.int x5), .val (.long v1), .second, .val (.int v2), .val (.int v3), .val (.long v5), .second, .val (.int v8), .val (.int v11), .val (.ref b14), .val (.ref b25), .val (.long r45), .second, .val (.long r49), .second, .val (.int v52), .val (.int v55), .val (.int v59), .unset] [(.int r63)])) _
    refine XS.lload X63.here hx rfl (hb hby at_232) rfl ?_
    show Steps p.tables e below (T63.setTop (mkF m 234 #[.val (.long x0), .second, .val (.int x1), .val (.int x2), .val (.long x3), .second, .val (.int x4), .val (.int x5), .val (.long v1), .second, .val (.int v2), .val (.int v3), .val (.long v5), .second, .val (.int v8), .val (.int v11), .val (.ref b14), .val (.ref b25), .val (.long r45), .second, .val (.long r49), .second, .val (.int v52), .val (.int v55), .val (.int v59), .unset] [(.long v1), (.int r63)])) _
    refine XS.iload X63.here hx rfl (hb hby at_234) rfl ?_
    show Steps p.tables e below (T63.setTop (mkF m 236 #[.val (.long x0), .second, .val (.int x1), .val (.int x2), .val (.long x3), .second, .val (.int x4), .val (.int x5), .val (.long v1), .second, .val (.int v2), .val (.int v3), .val (.long v5), .second, .val (.int v8), .val (.int v11), .val (.ref b14), .val (.ref b25), .val (.long r45), .second, .val (.long r49), .second, .val (.int v52), .val (.int v55), .val (.int v59), .unset] [(.int v2), (.long v1), (.int r63)])) _
    refine XS.iload X63.here hx rfl (hb hby at_236) rfl ?_
    show Steps p.tables e below (T63.setTop (mkF m 238 #[.val (.long x0), .second, .val (.int x1), .val (.int x2), .val (.long x3), .second, .val (.int x4), .val (.int x5), .val (.long v1), .second, .val (.int v2), .val (.int v3), .val (.long v5), .second, .val (.int v8), .val (.int v11), .val (.ref b14), .val (.ref b25), .val (.long r45), .second, .val (.long r49), .second, .val (.int v52), .val (.int v55), .val (.int v59), .unset] [(.int v3), (.int v2), (.long v1), (.int r63)])) _
    refine XS.lload X63.here hx rfl (hb hby at_238) rfl ?_
    show Steps p.tables e below (T63.setTop (mkF m 240 #[.val (.long x0), .second, .val (.int x1), .val (.int x2), .val (.long x3), .second, .val (.int x4), .val (.int x5), .val (.long v1), .second, .val (.int v2), .val (.int v3), .val (.long v5), .second, .val (.int v8), .val (.int v11), .val (.ref b14), .val (.ref b25), .val (.long r45), .second, .val (.long r49), .second, .val (.int v52), .val (.int v55), .val (.int v59), .unset] [(.long v5), (.int v3), (.int v2), (.long v1), (.int r63)])) _
    refine XS.iload X63.here hx rfl (hb hby at_240) rfl ?_
    show Steps p.tables e below (T63.setTop (mkF m 242 #[.val (.long x0), .second, .val (.int x1), .val (.int x2), .val (.long x3), .second, .val (.int x4), .val (.int x5), .val (.long v1), .second, .val (.int v2), .val (.int v3), .val (.long v5), .second, .val (.int v8), .val (.int v11), .val (.ref b14), .val (.ref b25), .val (.long r45), .second, .val (.long r49), .second, .val (.int v52), .val (.int v55), .val (.int v59), .unset] [(.int v8), (.long v5), (.int v3), (.int v2), (.long v1), (.int r63)])) _
    refine XS.iload X63.here hx rfl (hb hby at_242) rfl ?_
    show Steps p.tables e below (T63.setTop (mkF m 244 #[.val (.long x0), .second, .val (.int x1), .val (.int x2), .val (.long x3), .second, .val (.int x4), .val (.int x5), .val (.long v1), .second, .val (.int v2), .val (.int v3), .val (.long v5), .second, .val (.int v8), .val (.int v11), .val (.ref b14), .val (.ref b25), .val (.long r45), .second, .val (.long r49), .second, .val (.int v52), .val (.int v55), .val (.int v59), .unset] [(.int v11), (.int v8), (.long v5), (.int v3), (.int v2), (.long v1), (.int r63)])) _
    exact k)
  obtain ⟨_, _, ⟨T67, L67, k67, n67⟩, -, X67, ⟨Lc67, hQ67, l67, y67, z67⟩, st67⟩ := Jvm.LawKit.callS X63 hx (y := (⟨"com/example/kept_term/keptterm/model/BallotTokenPinLaw", "lex", "(JIIJII)I"⟩ : MethodName)) hown (mvT hZ (hw _ (List.mem_of_getElem? (i := 34) rfl))) (mvT hZ (hw _ (List.mem_of_getElem? (i := 35) rfl))) (mvT hZ (hw _ (List.mem_of_getElem? (i := 32) rfl))) (mvT hZ (hw _ (List.mem_of_getElem? (i := 36) rfl))) (by decide) (backOf (W := 1) (rm6 l Z a0 hw [] v1 v2 v3 v5 v8 v11  T33.heap n0 Zz33 ) hZ (hw _ (List.mem_of_getElem? (i := 36) rfl)) (hw _ (List.mem_of_getElem? (i := 32) rfl)) (by decide) (by decide)) (g := (mkF m 244 #[.val (.long x0), .second, .val (.int x1), .val (.int x2), .val (.long x3), .second, .val (.int x4), .val (.int x5), .val (.long v1), .second, .val (.int v2), .val (.int v3), .val (.long v5), .second, .val (.int v8), .val (.int v11), .val (.ref b14), .val (.ref b25), .val (.long r45), .second, .val (.long r49), .second, .val (.int v52), .val (.int v55), .val (.int v59), .unset] [(.int v11), (.int v8), (.long v5), (.int v3), (.int v2), (.long v1), (.int r63)])) rfl (by rw [hml]; rfl) (argsL := [(.long v1), (.int v2), (.int v3), (.long v5), (.int v8), (.int v11)]) (rest := [(.int r63)]) (lenOf pd_4 rfl) rfl (by show 2 * 0 + _ ≤ _; exact Nat.le_of_eq rfl) (hb hby at_244) (fun _ _ => ⟨rfl, e63, (by decide : 2 + 0 ≤ _), (by decide : 6 + 0 ≤ _)⟩)
  dsimp only [Pt.U, Pt.locs, Pt.cells, Pt.slots] at X67 l67 y67 z67 st67 hQ67
  subst l67 y67 z67
  obtain ⟨r67, rfl, N67q, e67, P67⟩ := hQ67
  have N67 := Fr.app N63 N67q
  have pre68 : ∀ t, Steps p.tables e below (T67.setTop (mkF m 247 #[.val (.long x0), .second, .val (.int x1), .val (.int x2), .val (.long x3), .second, .val (.int x4), .val (.int x5), .val (.long v1), .second, .val (.int v2), .val (.int v3), .val (.long v5), .second, .val (.int v8), .val (.int v11), .val (.ref b14), .val (.ref b25), .val (.long r45), .second, .val (.long r49), .second, .val (.int v52), .val (.int v55), .val (.int v59), .unset] [(.int r67), (.int r63)])) t → Steps p.tables e below (s₁.setTop (entryFrame m #[(.long x0), (.int x1), (.int x2), (.long x3), (.int x4), (.int x5)] maxLocals)) t := fun t k => pre65 t (st67 _ k)
  obtain ⟨v70, hv70⟩ : ∃ z : Int32, z = (if r63 = r67 then (1 : Int32) else (0 : Int32)) := ⟨_, rfl⟩
  have pre71 : ∀ t, Steps p.tables e below (T67.setTop (mkF m 255 #[.val (.long x0), .second, .val (.int x1), .val (.int x2), .val (.long x3), .second, .val (.int x4), .val (.int x5), .val (.long v1), .second, .val (.int v2), .val (.int v3), .val (.long v5), .second, .val (.int v8), .val (.int v11), .val (.ref b14), .val (.ref b25), .val (.long r45), .second, .val (.long r49), .second, .val (.int v52), .val (.int v55), .val (.int v59), .unset] [(.int v70)])) t → Steps p.tables e below (s₁.setTop (entryFrame m #[(.long x0), (.int x1), (.int x2), (.long x3), (.int x4), (.int x5)] maxLocals)) t := fun t k => pre68 t (by
    show Steps p.tables e below (T67.setTop (mkF m 247 #[.val (.long x0), .second, .val (.int x1), .val (.int x2), .val (.long x3), .second, .val (.int x4), .val (.int x5), .val (.long v1), .second, .val (.int v2), .val (.int v3), .val (.long v5), .second, .val (.int v8), .val (.int v11), .val (.ref b14), .val (.ref b25), .val (.long r45), .second, .val (.long r49), .second, .val (.int v52), .val (.int v55), .val (.int v59), .unset] [(.int r67), (.int r63)])) _
    by_cases hc69 : r63 = r67
    · skip
      refine XS.icmpNo X67.here hx rfl (hb hby at_247) rfl (teq hc69).2 ?_
      show Steps p.tables e below (T67.setTop (mkF m 250 #[.val (.long x0), .second, .val (.int x1), .val (.int x2), .val (.long x3), .second, .val (.int x4), .val (.int x5), .val (.long v1), .second, .val (.int v2), .val (.int v3), .val (.long v5), .second, .val (.int v8), .val (.int v11), .val (.ref b14), .val (.ref b25), .val (.long r45), .second, .val (.long r49), .second, .val (.int v52), .val (.int v55), .val (.int v59), .unset] [])) _
      refine XS.iconst X67.here hx rfl (hb hby at_250) ?_
      show Steps p.tables e below (T67.setTop (mkF m 251 #[.val (.long x0), .second, .val (.int x1), .val (.int x2), .val (.long x3), .second, .val (.int x4), .val (.int x5), .val (.long v1), .second, .val (.int v2), .val (.int v3), .val (.long v5), .second, .val (.int v8), .val (.int v11), .val (.ref b14), .val (.ref b25), .val (.long r45), .second, .val (.long r49), .second, .val (.int v52), .val (.int v55), .val (.int v59), .unset] [(.int (1 : Int32))])) _
      refine XS.goto X67.here hx rfl (pc0 := 251) (pc' := 255) rfl (hb hby at_251) (by decide) (by decide) ?_
      show Steps p.tables e below (T67.setTop (mkF m 255 #[.val (.long x0), .second, .val (.int x1), .val (.int x2), .val (.long x3), .second, .val (.int x4), .val (.int x5), .val (.long v1), .second, .val (.int v2), .val (.int v3), .val (.long v5), .second, .val (.int v8), .val (.int v11), .val (.ref b14), .val (.ref b25), .val (.long r45), .second, .val (.long r49), .second, .val (.int v52), .val (.int v55), .val (.int v59), .unset] [(.int (1 : Int32))])) _
      rw [show v70 = (1 : Int32) from by rw [hv70, if_pos hc69]] at k
      exact k
    · skip
      refine XS.icmpYes X67.here hx rfl (pc0 := 247) (pc' := 254) rfl (hb hby at_247) rfl (feq hc69).2 (by decide) (by decide) ?_
      show Steps p.tables e below (T67.setTop (mkF m 254 #[.val (.long x0), .second, .val (.int x1), .val (.int x2), .val (.long x3), .second, .val (.int x4), .val (.int x5), .val (.long v1), .second, .val (.int v2), .val (.int v3), .val (.long v5), .second, .val (.int v8), .val (.int v11), .val (.ref b14), .val (.ref b25), .val (.long r45), .second, .val (.long r49), .second, .val (.int v52), .val (.int v55), .val (.int v59), .unset] [])) _
      refine XS.iconst X67.here hx rfl (hb hby at_254) ?_
      show Steps p.tables e below (T67.setTop (mkF m 255 #[.val (.long x0), .second, .val (.int x1), .val (.int x2), .val (.long x3), .second, .val (.int x4), .val (.int x5), .val (.long v1), .second, .val (.int v2), .val (.int v3), .val (.long v5), .second, .val (.int v8), .val (.int v11), .val (.ref b14), .val (.ref b25), .val (.long r45), .second, .val (.long r49), .second, .val (.int v52), .val (.int v55), .val (.int v59), .unset] [(.int (0 : Int32))])) _
      rw [show v70 = (0 : Int32) from by rw [hv70, if_neg hc69]] at k
      exact k)
  obtain ⟨v76, hv76⟩ : ∃ z : Int32, z = (if v52 = (0 : Int32) then (0 : Int32) else (if v55 = (0 : Int32) then (0 : Int32) else (if v59 = (0 : Int32) then (0 : Int32) else (if v70 = (0 : Int32) then (0 : Int32) else (1 : Int32))))) := ⟨_, rfl⟩
  have pre77 : ∀ t, Steps p.tables e below (T67.setTop (mkF m 282 #[.val (.long x0), .second, .val (.int x1), .val (.int x2), .val (.long x3), .second, .val (.int x4), .val (.int x5), .val (.long v1), .second, .val (.int v2), .val (.int v3), .val (.long v5), .second, .val (.int v8), .val (.int v11), .val (.ref b14), .val (.ref b25), .val (.long r45), .second, .val (.long r49), .second, .val (.int v52), .val (.int v55), .val (.int v59), .val (.int v70)] [(.int v76)])) t → Steps p.tables e below (s₁.setTop (entryFrame m #[(.long x0), (.int x1), (.int x2), (.long x3), (.int x4), (.int x5)] maxLocals)) t := fun t k => pre71 t (by
    show Steps p.tables e below (T67.setTop (mkF m 255 #[.val (.long x0), .second, .val (.int x1), .val (.int x2), .val (.long x3), .second, .val (.int x4), .val (.int x5), .val (.long v1), .second, .val (.int v2), .val (.int v3), .val (.long v5), .second, .val (.int v8), .val (.int v11), .val (.ref b14), .val (.ref b25), .val (.long r45), .second, .val (.long r49), .second, .val (.int v52), .val (.int v55), .val (.int v59), .unset] [(.int v70)])) _
    refine XS.istore X67.here hx rfl (hb hby at_255) rfl (l' := #[.val (.long x0), .second, .val (.int x1), .val (.int x2), .val (.long x3), .second, .val (.int x4), .val (.int x5), .val (.long v1), .second, .val (.int v2), .val (.int v3), .val (.long v5), .second, .val (.int v8), .val (.int v11), .val (.ref b14), .val (.ref b25), .val (.long r45), .second, .val (.long r49), .second, .val (.int v52), .val (.int v55), .val (.int v59), .val (.int v70)]) rfl ?_
    show Steps p.tables e below (T67.setTop (mkF m 257 #[.val (.long x0), .second, .val (.int x1), .val (.int x2), .val (.long x3), .second, .val (.int x4), .val (.int x5), .val (.long v1), .second, .val (.int v2), .val (.int v3), .val (.long v5), .second, .val (.int v8), .val (.int v11), .val (.ref b14), .val (.ref b25), .val (.long r45), .second, .val (.long r49), .second, .val (.int v52), .val (.int v55), .val (.int v59), .val (.int v70)] [])) _
    refine XS.iload X67.here hx rfl (hb hby at_257) rfl ?_
    show Steps p.tables e below (T67.setTop (mkF m 259 #[.val (.long x0), .second, .val (.int x1), .val (.int x2), .val (.long x3), .second, .val (.int x4), .val (.int x5), .val (.long v1), .second, .val (.int v2), .val (.int v3), .val (.long v5), .second, .val (.int v8), .val (.int v11), .val (.ref b14), .val (.ref b25), .val (.long r45), .second, .val (.long r49), .second, .val (.int v52), .val (.int v55), .val (.int v59), .val (.int v70)] [(.int v52)])) _
    by_cases hc72 : v52 = (0 : Int32)
    · skip
      refine XS.ifYes X67.here hx rfl (pc0 := 259) (pc' := 281) rfl (hb hby at_259) rfl ((if0 _ _).trans (teq hc72).1) (by decide) (by decide) ?_
      show Steps p.tables e below (T67.setTop (mkF m 281 #[.val (.long x0), .second, .val (.int x1), .val (.int x2), .val (.long x3), .second, .val (.int x4), .val (.int x5), .val (.long v1), .second, .val (.int v2), .val (.int v3), .val (.long v5), .second, .val (.int v8), .val (.int v11), .val (.ref b14), .val (.ref b25), .val (.long r45), .second, .val (.long r49), .second, .val (.int v52), .val (.int v55), .val (.int v59), .val (.int v70)] [])) _
      refine XS.iconst X67.here hx rfl (hb hby at_281) ?_
      show Steps p.tables e below (T67.setTop (mkF m 282 #[.val (.long x0), .second, .val (.int x1), .val (.int x2), .val (.long x3), .second, .val (.int x4), .val (.int x5), .val (.long v1), .second, .val (.int v2), .val (.int v3), .val (.long v5), .second, .val (.int v8), .val (.int v11), .val (.ref b14), .val (.ref b25), .val (.long r45), .second, .val (.long r49), .second, .val (.int v52), .val (.int v55), .val (.int v59), .val (.int v70)] [(.int (0 : Int32))])) _
      rw [show v76 = (0 : Int32) from by rw [hv76, if_pos hc72]] at k
      exact k
    · skip
      refine XS.ifNo X67.here hx rfl (hb hby at_259) rfl ((if0 _ _).trans (feq hc72).1) ?_
      show Steps p.tables e below (T67.setTop (mkF m 262 #[.val (.long x0), .second, .val (.int x1), .val (.int x2), .val (.long x3), .second, .val (.int x4), .val (.int x5), .val (.long v1), .second, .val (.int v2), .val (.int v3), .val (.long v5), .second, .val (.int v8), .val (.int v11), .val (.ref b14), .val (.ref b25), .val (.long r45), .second, .val (.long r49), .second, .val (.int v52), .val (.int v55), .val (.int v59), .val (.int v70)] [])) _
      refine XS.iload X67.here hx rfl (hb hby at_262) rfl ?_
      show Steps p.tables e below (T67.setTop (mkF m 264 #[.val (.long x0), .second, .val (.int x1), .val (.int x2), .val (.long x3), .second, .val (.int x4), .val (.int x5), .val (.long v1), .second, .val (.int v2), .val (.int v3), .val (.long v5), .second, .val (.int v8), .val (.int v11), .val (.ref b14), .val (.ref b25), .val (.long r45), .second, .val (.long r49), .second, .val (.int v52), .val (.int v55), .val (.int v59), .val (.int v70)] [(.int v55)])) _
      by_cases hc73 : v55 = (0 : Int32)
      · skip
        refine XS.ifYes X67.here hx rfl (pc0 := 264) (pc' := 281) rfl (hb hby at_264) rfl ((if0 _ _).trans (teq hc73).1) (by decide) (by decide) ?_
        show Steps p.tables e below (T67.setTop (mkF m 281 #[.val (.long x0), .second, .val (.int x1), .val (.int x2), .val (.long x3), .second, .val (.int x4), .val (.int x5), .val (.long v1), .second, .val (.int v2), .val (.int v3), .val (.long v5), .second, .val (.int v8), .val (.int v11), .val (.ref b14), .val (.ref b25), .val (.long r45), .second, .val (.long r49), .second, .val (.int v52), .val (.int v55), .val (.int v59), .val (.int v70)] [])) _
        refine XS.iconst X67.here hx rfl (hb hby at_281) ?_
        show Steps p.tables e below (T67.setTop (mkF m 282 #[.val (.long x0), .second, .val (.int x1), .val (.int x2), .val (.long x3), .second, .val (.int x4), .val (.int x5), .val (.long v1), .second, .val (.int v2), .val (.int v3), .val (.long v5), .second, .val (.int v8), .val (.int v11), .val (.ref b14), .val (.ref b25), .val (.long r45), .second, .val (.long r49), .second, .val (.int v52), .val (.int v55), .val (.int v59), .val (.int v70)] [(.int (0 : Int32))])) _
        rw [show v76 = (0 : Int32) from by rw [hv76, if_neg hc72, if_pos hc73]] at k
        exact k
      · skip
        refine XS.ifNo X67.here hx rfl (hb hby at_264) rfl ((if0 _ _).trans (feq hc73).1) ?_
        show Steps p.tables e below (T67.setTop (mkF m 267 #[.val (.long x0), .second, .val (.int x1), .val (.int x2), .val (.long x3), .second, .val (.int x4), .val (.int x5), .val (.long v1), .second, .val (.int v2), .val (.int v3), .val (.long v5), .second, .val (.int v8), .val (.int v11), .val (.ref b14), .val (.ref b25), .val (.long r45), .second, .val (.long r49), .second, .val (.int v52), .val (.int v55), .val (.int v59), .val (.int v70)] [])) _
        refine XS.iload X67.here hx rfl (hb hby at_267) rfl ?_
        show Steps p.tables e below (T67.setTop (mkF m 269 #[.val (.long x0), .second, .val (.int x1), .val (.int x2), .val (.long x3), .second, .val (.int x4), .val (.int x5), .val (.long v1), .second, .val (.int v2), .val (.int v3), .val (.long v5), .second, .val (.int v8), .val (.int v11), .val (.ref b14), .val (.ref b25), .val (.long r45), .second, .val (.long r49), .second, .val (.int v52), .val (.int v55), .val (.int v59), .val (.int v70)] [(.int v59)])) _
        by_cases hc74 : v59 = (0 : Int32)
        · skip
          refine XS.ifYes X67.here hx rfl (pc0 := 269) (pc' := 281) rfl (hb hby at_269) rfl ((if0 _ _).trans (teq hc74).1) (by decide) (by decide) ?_
          show Steps p.tables e below (T67.setTop (mkF m 281 #[.val (.long x0), .second, .val (.int x1), .val (.int x2), .val (.long x3), .second, .val (.int x4), .val (.int x5), .val (.long v1), .second, .val (.int v2), .val (.int v3), .val (.long v5), .second, .val (.int v8), .val (.int v11), .val (.ref b14), .val (.ref b25), .val (.long r45), .second, .val (.long r49), .second, .val (.int v52), .val (.int v55), .val (.int v59), .val (.int v70)] [])) _
          refine XS.iconst X67.here hx rfl (hb hby at_281) ?_
          show Steps p.tables e below (T67.setTop (mkF m 282 #[.val (.long x0), .second, .val (.int x1), .val (.int x2), .val (.long x3), .second, .val (.int x4), .val (.int x5), .val (.long v1), .second, .val (.int v2), .val (.int v3), .val (.long v5), .second, .val (.int v8), .val (.int v11), .val (.ref b14), .val (.ref b25), .val (.long r45), .second, .val (.long r49), .second, .val (.int v52), .val (.int v55), .val (.int v59), .val (.int v70)] [(.int (0 : Int32))])) _
          rw [show v76 = (0 : Int32) from by rw [hv76, if_neg hc72, if_neg hc73, if_pos hc74]] at k
          exact k
        · skip
          refine XS.ifNo X67.here hx rfl (hb hby at_269) rfl ((if0 _ _).trans (feq hc74).1) ?_
          show Steps p.tables e below (T67.setTop (mkF m 272 #[.val (.long x0), .second, .val (.int x1), .val (.int x2), .val (.long x3), .second, .val (.int x4), .val (.int x5), .val (.long v1), .second, .val (.int v2), .val (.int v3), .val (.long v5), .second, .val (.int v8), .val (.int v11), .val (.ref b14), .val (.ref b25), .val (.long r45), .second, .val (.long r49), .second, .val (.int v52), .val (.int v55), .val (.int v59), .val (.int v70)] [])) _
          refine XS.iload X67.here hx rfl (hb hby at_272) rfl ?_
          show Steps p.tables e below (T67.setTop (mkF m 274 #[.val (.long x0), .second, .val (.int x1), .val (.int x2), .val (.long x3), .second, .val (.int x4), .val (.int x5), .val (.long v1), .second, .val (.int v2), .val (.int v3), .val (.long v5), .second, .val (.int v8), .val (.int v11), .val (.ref b14), .val (.ref b25), .val (.long r45), .second, .val (.long r49), .second, .val (.int v52), .val (.int v55), .val (.int v59), .val (.int v70)] [(.int v70)])) _
          by_cases hc75 : v70 = (0 : Int32)
          · skip
            refine XS.ifYes X67.here hx rfl (pc0 := 274) (pc' := 281) rfl (hb hby at_274) rfl ((if0 _ _).trans (teq hc75).1) (by decide) (by decide) ?_
            show Steps p.tables e below (T67.setTop (mkF m 281 #[.val (.long x0), .second, .val (.int x1), .val (.int x2), .val (.long x3), .second, .val (.int x4), .val (.int x5), .val (.long v1), .second, .val (.int v2), .val (.int v3), .val (.long v5), .second, .val (.int v8), .val (.int v11), .val (.ref b14), .val (.ref b25), .val (.long r45), .second, .val (.long r49), .second, .val (.int v52), .val (.int v55), .val (.int v59), .val (.int v70)] [])) _
            refine XS.iconst X67.here hx rfl (hb hby at_281) ?_
            show Steps p.tables e below (T67.setTop (mkF m 282 #[.val (.long x0), .second, .val (.int x1), .val (.int x2), .val (.long x3), .second, .val (.int x4), .val (.int x5), .val (.long v1), .second, .val (.int v2), .val (.int v3), .val (.long v5), .second, .val (.int v8), .val (.int v11), .val (.ref b14), .val (.ref b25), .val (.long r45), .second, .val (.long r49), .second, .val (.int v52), .val (.int v55), .val (.int v59), .val (.int v70)] [(.int (0 : Int32))])) _
            rw [show v76 = (0 : Int32) from by rw [hv76, if_neg hc72, if_neg hc73, if_neg hc74, if_pos hc75]] at k
            exact k
          · skip
            refine XS.ifNo X67.here hx rfl (hb hby at_274) rfl ((if0 _ _).trans (feq hc75).1) ?_
            show Steps p.tables e below (T67.setTop (mkF m 277 #[.val (.long x0), .second, .val (.int x1), .val (.int x2), .val (.long x3), .second, .val (.int x4), .val (.int x5), .val (.long v1), .second, .val (.int v2), .val (.int v3), .val (.long v5), .second, .val (.int v8), .val (.int v11), .val (.ref b14), .val (.ref b25), .val (.long r45), .second, .val (.long r49), .second, .val (.int v52), .val (.int v55), .val (.int v59), .val (.int v70)] [])) _
            refine XS.iconst X67.here hx rfl (hb hby at_277) ?_
            show Steps p.tables e below (T67.setTop (mkF m 278 #[.val (.long x0), .second, .val (.int x1), .val (.int x2), .val (.long x3), .second, .val (.int x4), .val (.int x5), .val (.long v1), .second, .val (.int v2), .val (.int v3), .val (.long v5), .second, .val (.int v8), .val (.int v11), .val (.ref b14), .val (.ref b25), .val (.long r45), .second, .val (.long r49), .second, .val (.int v52), .val (.int v55), .val (.int v59), .val (.int v70)] [(.int (1 : Int32))])) _
            refine XS.goto X67.here hx rfl (pc0 := 278) (pc' := 282) rfl (hb hby at_278) (by decide) (by decide) ?_
            show Steps p.tables e below (T67.setTop (mkF m 282 #[.val (.long x0), .second, .val (.int x1), .val (.int x2), .val (.long x3), .second, .val (.int x4), .val (.int x5), .val (.long v1), .second, .val (.int v2), .val (.int v3), .val (.long v5), .second, .val (.int v8), .val (.int v11), .val (.ref b14), .val (.ref b25), .val (.long r45), .second, .val (.long r49), .second, .val (.int v52), .val (.int v55), .val (.int v59), .val (.int v70)] [(.int (1 : Int32))])) _
            rw [show v76 = (1 : Int32) from by rw [hv76, if_neg hc72, if_neg hc73, if_neg hc74, if_neg hc75]] at k
            exact k)
  obtain rfl : v76 = (1 : Int32) := by exact own_fin x0 x1 x2 x3 x4 x5 v1 v2 v3 v5 v8 v11 r45 r49 v52 v55 v59 r63 r67 v70 v76 hv1 hv2 hv3 hv5 hv8 hv11 P45 P49 hv52 hv55 hv59 P63 P67 hv70 hv76
  obtain ⟨fs, hr, hrun, hended, hW, hsame⟩ := X67.leave (v := some (.int (1 : Int32))) (fun h => by rw [Bd.returns] at h; cases h)
  refine ⟨_, _, pre77 _ ?_, hrun, hended, _, _, rfl, ?_, ⟨_, rfl⟩, hW, hsame.mono (by decide) (by decide)⟩
  · show Steps p.tables e below (T67.setTop (mkF m 282 #[.val (.long x0), .second, .val (.int x1), .val (.int x2), .val (.long x3), .second, .val (.int x4), .val (.int x5), .val (.long v1), .second, .val (.int v2), .val (.int v3), .val (.long v5), .second, .val (.int v8), .val (.int v11), .val (.ref b14), .val (.ref b25), .val (.long r45), .second, .val (.long r49), .second, .val (.int v52), .val (.int v55), .val (.int v59), .val (.int v70)] [(.int (1 : Int32))])) _
    exact retN X67 hx (t := .boolean) Bd.returns (by simp) (hb hby at_282) hr
  · show Q0 Z x0 x1 x2 x3 x4 x5 h0 n0 _ T67.heap _
    rw [e67]
    exact ⟨rfl, N67⟩
set_option maxRecDepth 65536 in
set_option maxHeartbeats 40000000 in
theorem comes_1 {Post : Tables → Env → Array Value → State → Outcome → State → Prop} (hpost : ∀ tb e args s v u, (limb_1_1.after args s (.returned v) u = true ∧ limb_1_2.after args s (.returned v) u = true ∧ True) → FrameEnd s (.returned v) u (Jvm.fieldLocs frame_1_writes args s ++ Jvm.arrayLocs frame_1_arrays args s ++ Jvm.staticLocs frame_1_statics s) 16 128 → Post tb e args s (.returned v) u) :
    ArmFor flags0 classFile x code maxLocals ret World_1 tables_1 room_1 Calls_1 rest_1 Pre_1 Post := by
  intro l hfl _ _ p e ha hc hk s m args below hf hA hF happ hP
  obtain ⟨hcalls, hrest, hpre⟩ := hP
  obtain ⟨-, -, -, hnamed, -, -, -, hat⟩ := (Spec.applies_iff hf).mp happ
  obtain ⟨hg, hn⟩ := and_e (Cond.before_iff.mp (show (Jvm.Cond.and given_1 narrow_1).before args s = true from hpre))
  obtain ⟨hcount, hg0⟩ := and_e hg
  obtain ⟨ha0, hg1⟩ := and_e hg0
  obtain ⟨ha1, hg2⟩ := and_e hg1
  obtain ⟨ha2, hg3⟩ := and_e hg2
  obtain ⟨ha3, hg4⟩ := and_e hg3
  obtain ⟨ha4, hg5⟩ := and_e hg4
  have ha5 := hg5
  obtain ⟨w0, w1, w2, w3, w4, w5, rfl⟩ : ∃ w0 w1 w2 w3 w4 w5 : Value, args = #[w0, w1, w2, w3, w4, w5] := by
    have hs : args.size = 6 := by simpa [Cond.value, given_1] using hcount
    obtain ⟨L⟩ := args
    match L, hs with
    | [w0, w1, w2, w3, w4, w5], _ => exact ⟨w0, w1, w2, w3, w4, w5, rfl⟩
  have hw := fun d (hd : d ∈ tables_1) => atoms_spec (ws := Jvm.Cond.code x code maxLocals ret :: tables_1) hat d (List.mem_cons_of_mem _ hd)
  obtain ⟨i0, ei0⟩ := isL_v ha0
  obtain rfl : w0 = (.long i0) := Option.some.inj ei0
  obtain ⟨i1, ei1⟩ := is_v ha1
  obtain rfl : w1 = (.int i1) := Option.some.inj ei1
  obtain ⟨i2, ei2⟩ := is_v ha2
  obtain rfl : w2 = (.int i2) := Option.some.inj ei2
  obtain ⟨i3, ei3⟩ := isL_v ha3
  obtain rfl : w3 = (.long i3) := Option.some.inj ei3
  obtain ⟨i4, ei4⟩ := is_v ha4
  obtain rfl : w4 = (.int i4) := Option.some.inj ei4
  obtain ⟨i5, ei5⟩ := is_v ha5
  obtain rfl : w5 = (.int i5) := Option.some.inj ei5
  obtain ⟨n, o, h1, h2, h3, _, L, rfl, ⟨rfl, N⟩, hq⟩ := rm0 l s _ hw tables_1 i0 i1 i2 i3 i4 i5  s.heap s.heap.size (Nat.le_refl _) p e ha hc hk s m _ below hf ((Spec.applies_iff_loose hf).mp happ).1 ⟨rfl, State.Warmed39.refl s, rfl⟩ trivial
  refine ⟨n, _, h1, h2, h3, hpost _ _ _ _ _ _ ⟨Cond.after_iff.mpr rfl, Cond.after_iff.mpr (eq_i res_at (Term.int_eval (1)) rfl), trivial⟩ ⟨hq.1, hq.2.1, (hq.2.2.sift fun y hy => Or.inr (N y hy)).mono (by decide) (by decide)⟩⟩
theorem main_1_1 : Claimed_1_1 := comes_1 fun _ _ _ _ _ _ h hF => ⟨h.1, hF⟩
theorem main_1_2 : Claimed_1_2 := comes_1 fun _ _ _ _ _ _ h hF => ⟨h.2.1, hF⟩
end Jvm.Pilot.@@N@@
namespace Jvm.Pilot.@@N@@
open Jvm Jvm.ClassFile Sem Op Lib Jvm.Free Jvm.Stand Jvm.Pilot.@@N@@.Jvm.D
/-! MADE BY PROGRAM (witnessworld.py) out of the Statement's table words and the real class files: 11 classes; the members and pool entries that the words name. The judged class is class 1, her method 3. -/
namespace start1
open Jvm.ClassFile
def u (s : String) : CpInfo := .utf8 (stringToUtf16 s)
/-- a pool by its gaps: so many unusable entries, then the entry; so many at the end -/
def gap : Nat → List CpInfo → List CpInfo
  | 0, r => r
  | n + 1, r => .unusable :: gap n r
def poolList (es : List (Nat × CpInfo)) (last : Nat) : List CpInfo := es.foldr (fun e r => gap e.1 (e.2 :: r)) (gap last [])
def pool (es : List (Nat × CpInfo)) (last : Nat) : Array CpInfo := ⟨poolList es last⟩
def fileOf (pool : Array CpInfo) (this : Nat) (attrs : Array Attribute := #[]) (ms : Array MethodInfo := #[]) (fl : Nat := 33) (sup : Nat := 0) (ifs : Array Nat := #[]) (fds : Array FieldInfo := #[]) : ClassFile where
  minorVersion := 0
  majorVersion := 65
  constantPool := pool
  accessFlags := fl
  thisClass := this
  superClass := sup
  interfaces := ifs
  fields := fds
  methods := ms
  attributes := attrs
def plain (name : String) (sup : Option ClassId) : Class where
  name := name
  kind := .ordinary
  loader := none
  accessFlags := 33
  super := sup
  interfaces := #[]
  cf := none
  fields := #[]
  methods := #[]
  instanceTypes := #[]
  staticTypes := #[]
  resolved := #[]
  callSites := []
  init := .initialized
  statics := none
  mirror := none

def pool0 : Array CpInfo := pool [(5, u "<init>"), (0, u "()V"), (1, .class_ 10), (1, u "java/lang/Object")] 113

def k0c0 : Code := { maxStack := 0, maxLocals := 1, code := object_method_1_code, exceptionTable := #[], attributes := #[] }
def k0m0 : Method := { name := "<init>", desc := "()V", sig := { parameters := [], returnType := none }, accessFlags := 1, code := some k0c0 }
/-- java/lang/Object -/
def k0 : Class := { plain "java/lang/Object" none with
  accessFlags := 33
  interfaces := #[]
  cf := some (fileOf pool0 8 #[] #[{ accessFlags := 1, nameIndex := 5, descriptorIndex := 6, attributes := #[] }] 33 0 #[] #[])
  fields := #[]
  methods := #[k0m0]
  instanceTypes := #[]
  staticTypes := #[]
  resolved := Array.replicate 124 none
  statics := none }

def pool1 : Array CpInfo := pool [(2, .class_ 4), (1, u "java/lang/Object"), (0, u "<init>"), (0, u "()V"), (0, .class_ 8), (0, u "com/example/kept_term/keptterm/model/Ballot"), (0, .long 8796093022207), (1, .integer 2147483647), (0, .long 3), (1, .methodref 7 15), (0, .nameAndType 5 16), (0, u "(JII)V"), (0, .methodref 7 18), (0, .nameAndType 19 20), (0, u "token"), (0, u "()J"), (0, .long 1048576), (1, .long 256), (1, .methodref 26 27), (0, .class_ 28), (0, .nameAndType 29 30), (0, u "com/example/kept_term/keptterm/model/BallotTokenPinLaw"), (0, u "cmpLong"), (0, u "(JJ)I"), (0, .methodref 26 32), (0, .nameAndType 33 34), (0, u "lex"), (0, u "(JIIJII)I"), (3, u "law"), (0, u "(JIIJII)Z")] 2

def k1m0 : Method := { name := "<init>", desc := "()V", sig := { parameters := [], returnType := none }, accessFlags := 1, code := none }
def k1c1 : Code := { maxStack := 4, maxLocals := 4, code := method_2_code, exceptionTable := #[], attributes := #[] }
def k1m1 : Method := { name := "cmpLong", desc := "(JJ)I", sig := { parameters := [.long, .long], returnType := some .int }, accessFlags := 10, code := some k1c1 }
def k1c2 : Code := { maxStack := 4, maxLocals := 8, code := method_3_code, exceptionTable := #[], attributes := #[] }
def k1m2 : Method := { name := "lex", desc := "(JIIJII)I", sig := { parameters := [.long, .int, .int, .long, .int, .int], returnType := some .int }, accessFlags := 10, code := some k1c2 }
def k1c3 : Code := { maxStack := 9, maxLocals := 26, code := code, exceptionTable := #[], attributes := #[] }
def k1m3 : Method := { name := "law", desc := "(JIIJII)Z", sig := { parameters := [.long, .int, .int, .long, .int, .int], returnType := some .boolean }, accessFlags := 9, code := some k1c3 }
/-- com/example/kept_term/keptterm/model/BallotTokenPinLaw -/
def k1 : Class := { plain "com/example/kept_term/keptterm/model/BallotTokenPinLaw" (some 0) with
  accessFlags := 49
  interfaces := #[]
  cf := some (fileOf pool1 26 #[] #[{ accessFlags := 1, nameIndex := 5, descriptorIndex := 6, attributes := #[] }, { accessFlags := 10, nameIndex := 29, descriptorIndex := 30, attributes := #[] }, { accessFlags := 10, nameIndex := 33, descriptorIndex := 34, attributes := #[] }, { accessFlags := 9, nameIndex := 38, descriptorIndex := 39, attributes := #[] }] 49 2 #[] #[])
  fields := #[]
  methods := #[k1m0, k1m1, k1m2, k1m3]
  instanceTypes := #[]
  staticTypes := #[]
  resolved := Array.replicate 42 none
  statics := none }

def pool2 : Array CpInfo := pool [(1, .class_ 2), (0, u "java/lang/Comparable"), (0, .class_ 4), (0, u "java/lang/Object")] 7

/-- java/lang/Comparable -/
def k2 : Class := { plain "java/lang/Comparable" (some 0) with
  accessFlags := 1537
  interfaces := #[]
  cf := some (fileOf pool2 1 #[] #[] 1537 3 #[] #[])
  fields := #[]
  methods := #[]
  instanceTypes := #[]
  staticTypes := #[]
  resolved := Array.replicate 12 none
  statics := none }

def pool3 : Array CpInfo := pool [(1, .class_ 2), (0, u "com/example/kept_term/keptterm/model/Ballot"), (0, .methodref 4 5), (0, .class_ 6), (0, .nameAndType 7 8), (0, u "java/lang/Object"), (0, u "<init>"), (0, u "()V"), (0, .long 8796093022207), (13, .fieldref 1 24), (0, .nameAndType 25 26), (0, u "interval"), (0, u "J"), (0, .fieldref 1 28), (0, .nameAndType 29 30), (0, u "round"), (0, u "I"), (0, .methodref 32 33), (0, .class_ 34), (0, .nameAndType 35 36), (0, u "com/example/kept_term/keptterm/model/Group"), (0, u "checkMemberId"), (0, u "(I)I"), (0, .fieldref 1 38), (0, .nameAndType 39 30), (0, u "member"), (3, u "(JII)V"), (2, u "token"), (0, u "()J"), (17, .class_ 66), (0, u "java/lang/Comparable"), (0, u "MAX_INTERVAL"), (1, u "MAX_ROUND"), (1, u "ROUND_SHIFT"), (1, u "INTERVAL_SHIFT")] 38

def k3c0 : Code := { maxStack := 4, maxLocals := 5, code := prog_11_method_1_code, exceptionTable := #[], attributes := #[] }
def k3m0 : Method := { name := "<init>", desc := "(JII)V", sig := { parameters := [.long, .int, .int], returnType := none }, accessFlags := 1, code := some k3c0 }
def k3c1 : Code := { maxStack := 5, maxLocals := 1, code := prog_11_method_6_code, exceptionTable := #[], attributes := #[] }
def k3m1 : Method := { name := "token", desc := "()J", sig := { parameters := [], returnType := some .long }, accessFlags := 1, code := some k3c1 }
/-- com/example/kept_term/keptterm/model/Ballot -/
def k3 : Class := { plain "com/example/kept_term/keptterm/model/Ballot" (some 0) with
  accessFlags := 33
  interfaces := #[2]
  cf := some (fileOf pool3 1 #[] #[{ accessFlags := 1, nameIndex := 7, descriptorIndex := 43, attributes := #[] }, { accessFlags := 1, nameIndex := 46, descriptorIndex := 47, attributes := #[] }] 33 4 #[65] #[{ accessFlags := 25, nameIndex := 67, descriptorIndex := 26, attributes := #[] }, { accessFlags := 25, nameIndex := 69, descriptorIndex := 30, attributes := #[] }, { accessFlags := 26, nameIndex := 71, descriptorIndex := 30, attributes := #[] }, { accessFlags := 26, nameIndex := 73, descriptorIndex := 30, attributes := #[] }, { accessFlags := 18, nameIndex := 25, descriptorIndex := 26, attributes := #[] }, { accessFlags := 18, nameIndex := 29, descriptorIndex := 30, attributes := #[] }, { accessFlags := 18, nameIndex := 39, descriptorIndex := 30, attributes := #[] }])
  fields := #[{ name := "MAX_INTERVAL", type := .long, accessFlags := 25, slot := 0, constantValue := 0 }, { name := "MAX_ROUND", type := .int, accessFlags := 25, slot := 1, constantValue := 0 }, { name := "ROUND_SHIFT", type := .int, accessFlags := 26, slot := 2, constantValue := 0 }, { name := "INTERVAL_SHIFT", type := .int, accessFlags := 26, slot := 3, constantValue := 0 }, { name := "interval", type := .long, accessFlags := 18, slot := 0, constantValue := 0 }, { name := "round", type := .int, accessFlags := 18, slot := 1, constantValue := 0 }, { name := "member", type := .int, accessFlags := 18, slot := 2, constantValue := 0 }]
  methods := #[k3m0, k3m1]
  instanceTypes := #[.long, .int, .int]
  staticTypes := #[.long, .int, .int, .int]
  resolved := Array.replicate 112 none
  statics := none }

def pool4 : Array CpInfo := pool [(2, .class_ 4), (1, u "java/lang/Object"), (3, .class_ 10), (1, u "com/example/kept_term/keptterm/model/Group"), (0, u "members"), (0, u "[I"), (10, u "(I)I"), (39, u "checkMemberId"), (34, u "MIN_SIZE"), (0, u "I"), (2, u "MAX_SIZE"), (1, u "MIN_MEMBER_ID"), (1, u "MAX_MEMBER_ID")] 36

def k4c0 : Code := { maxStack := 3, maxLocals := 1, code := prog_15_method_4_code, exceptionTable := #[], attributes := #[] }
def k4m0 : Method := { name := "checkMemberId", desc := "(I)I", sig := { parameters := [.int], returnType := some .int }, accessFlags := 9, code := some k4c0 }
/-- com/example/kept_term/keptterm/model/Group -/
def k4 : Class := { plain "com/example/kept_term/keptterm/model/Group" (some 0) with
  accessFlags := 33
  interfaces := #[]
  cf := some (fileOf pool4 8 #[] #[{ accessFlags := 9, nameIndex := 63, descriptorIndex := 23, attributes := #[] }] 33 2 #[] #[{ accessFlags := 25, nameIndex := 98, descriptorIndex := 99, attributes := #[] }, { accessFlags := 25, nameIndex := 102, descriptorIndex := 99, attributes := #[] }, { accessFlags := 25, nameIndex := 104, descriptorIndex := 99, attributes := #[] }, { accessFlags := 25, nameIndex := 106, descriptorIndex := 99, attributes := #[] }, { accessFlags := 18, nameIndex := 11, descriptorIndex := 12, attributes := #[] }])
  fields := #[{ name := "MIN_SIZE", type := .int, accessFlags := 25, slot := 0, constantValue := 0 }, { name := "MAX_SIZE", type := .int, accessFlags := 25, slot := 1, constantValue := 0 }, { name := "MIN_MEMBER_ID", type := .int, accessFlags := 25, slot := 2, constantValue := 0 }, { name := "MAX_MEMBER_ID", type := .int, accessFlags := 25, slot := 3, constantValue := 0 }, { name := "members", type := (.array .int), accessFlags := 18, slot := 0, constantValue := 0 }]
  methods := #[k4m0]
  instanceTypes := #[(.array .int)]
  staticTypes := #[.int, .int, .int, .int]
  resolved := Array.replicate 143 none
  statics := none }

def pool5 : Array CpInfo := pool [(1, u "java/lang/Cloneable"), (0, .class_ 1), (0, u "java/lang/Object"), (0, .class_ 3)] 3

/-- java/lang/Cloneable -/
def k5 : Class := { plain "java/lang/Cloneable" (some 0) with
  accessFlags := 1537
  interfaces := #[]
  cf := some (fileOf pool5 2 #[] #[] 1537 4 #[] #[])
  fields := #[]
  methods := #[]
  instanceTypes := #[]
  staticTypes := #[]
  resolved := Array.replicate 8 none
  statics := none }

def pool6 : Array CpInfo := pool [(1, u "java/io/Serializable"), (0, .class_ 1), (0, u "java/lang/Object"), (0, .class_ 3)] 3

/-- java/io/Serializable -/
def k6 : Class := { plain "java/io/Serializable" (some 0) with
  accessFlags := 1537
  interfaces := #[]
  cf := some (fileOf pool6 2 #[] #[] 1537 4 #[] #[])
  fields := #[]
  methods := #[]
  instanceTypes := #[]
  staticTypes := #[]
  resolved := Array.replicate 8 none
  statics := none }

/-- the primitive byte -/
def k7 : Class := { plain "byte" none with kind := .primitive 'B', accessFlags := 0x411 }
/-- [B -/
def k8 : Class := { plain "[B" (some 0) with kind := .array 7 .byte, interfaces := #[5, 6], accessFlags := 1041 }

/-- the primitive int -/
def k9 : Class := { plain "int" none with kind := .primitive 'I', accessFlags := 0x411 }
/-- [I -/
def k10 : Class := { plain "[I" (some 0) with kind := .array 9 .int, interfaces := #[5, 6], accessFlags := 1041 }

def heap : Heap := #[]
def classes : Array Class := #[k0, k1, k2, k3, k4, k5, k6, k7, k8, k9, k10]
def interned : List (Array UInt16 × Addr) := []
def slotsUsed : Nat := 0
def theMethod : MethodId := ⟨1, 3⟩
def args0 : Array Value := #[.long 70, .int 5, .int 6, .long 7, .int 8, .int 9]
def aboutOver (below : List Frame) : State where
  vm := { classes := classes, interned := interned.toArray }
  heap := heap
  slotsUsed := slotsUsed
  threads := #[{ frames := .invoking theMethod args0 :: below }]
def below0 : List Frame := [.native { method := ⟨0, 0⟩, args := #[] }]
def about1 : State := aboutOver below0
def p0 : Program := .bare "" "" ""
def e0 : Env := launch0.env 0 0 0
theorem w_frames : about1.frames = Frame.invoking theMethod args0 :: below0 := rfl
set_option maxRecDepth 65536 in
theorem w_args : argsFit about1.vm theMethod args0 = true := by decide +kernel
set_option maxRecDepth 65536 in
theorem w_heap : heapFits about1 = true := by decide +kernel
set_option maxRecDepth 65536 in
theorem w_runnable : about1.curStatus? = some .runnable := by decide +kernel
set_option maxRecDepth 65536 in
theorem w_alone : about1.alone = true := by decide +kernel
set_option maxRecDepth 65536 in
theorem w_named : about1.methodNamed? x = some theMethod := by decide +kernel
set_option maxRecDepth 65536 in
theorem w_hears : about1.hears theMethod below0 = true := by decide +kernel
set_option maxRecDepth 65536 in
theorem w_ripe : about1.ripe theMethod args0 below0 = true := by decide +kernel
theorem w_running : about1.status = .running := rfl
set_option maxRecDepth 65536 in
theorem w_room : about1.hasRoom e0.platform room_1 = true :=
  launch0.hasRoom_least _ room_1 (by decide +kernel) (by decide +kernel) (by decide +kernel) (by decide +kernel) (by decide +kernel) (by decide +kernel)
theorem allAtoms_all (ts : List Jvm.Cond) (a : Array Jvm.Value) (st : Jvm.State) : (allAtoms ts).before a st = ts.all (fun c => c.before a st) := by
  induction ts with
  | nil => rfl
  | cons c t ih =>
    show (Jvm.Cond.and c (allAtoms t)).before a st = _
    rw [Jvm.Cond.before_and, ih, List.all_cons]
def words1 : List Jvm.Cond := Jvm.Cond.code x code maxLocals ret :: tables_1
/-- a 'code' word, met by the world's own term for the bytes: nothing is compared byte by byte -/
theorem code_word {y : MethodName} {bytes : ByteArray} {mx : Nat} {rt : Option FieldType} {a : Array Value} {s : State} {m : MethodId} {meth : Method} {c : Code} (h1 : s.methodNamed? y = some m) (h2 : s.vm.method? m = some meth) (h3 : meth.code = some c) (h4 : c.code = bytes)
    (h5 : (c.maxLocals == mx && c.exceptionTable.isEmpty && decide (c.maxStack ≤ mostOperands) && decide (meth.sig.returnType = rt) && !meth.locks && decide (parseMethodDescriptor y.desc = some meth.sig)) = true) : (Jvm.Cond.code y bytes mx rt).before a s = true := by
  simp only [Bool.and_eq_true, beq_iff_eq, Bool.not_eq_true', decide_eq_true_eq] at h5
  obtain ⟨⟨⟨⟨⟨g1, g2⟩, g3⟩, g4⟩, g5⟩, g6⟩ := h5
  simp [Cond.before, Cond.holds, Cond.value, h1, h2, h3, h4, g1, g2, g3, g4, g5, g6]
def isCode : Jvm.Cond → Bool
  | .code _ _ _ _ => true
  | _ => false
theorem all_split {L : List Jvm.Cond} {P : Jvm.Cond → Bool} (h1 : L.all (fun c => isCode c || P c) = true) (h2 : ∀ c ∈ L.filter isCode, P c = true) : L.all P = true := by
  refine List.all_eq_true.mpr fun c hc => ?_
  have h := List.all_eq_true.mp h1 c hc
  rcases Bool.eq_false_or_eq_true (isCode c) with hi | hi
  · exact h2 c (List.mem_filter.mpr ⟨hc, hi⟩)
  · simpa [hi] using h
set_option maxRecDepth 65536 in
theorem w_c0 : (Jvm.Cond.code x code maxLocals ret).before args0 about1 = true := code_word (m := ⟨1, 3⟩) (meth := k1m3) (c := k1c3) (by decide +kernel) rfl rfl rfl (by decide +kernel)
set_option maxRecDepth 65536 in
theorem w_c1 : (Jvm.Cond.code ({ cls := "com/example/kept_term/keptterm/model/Ballot", name := "<init>", desc := "(JII)V" } : Jvm.MethodName) prog_11_method_1_code (5 : Nat) (Option.none : Option Jvm.ClassFile.FieldType)).before args0 about1 = true := code_word (m := ⟨3, 0⟩) (meth := k3m0) (c := k3c0) (by decide +kernel) rfl rfl rfl (by decide +kernel)
set_option maxRecDepth 65536 in
theorem w_c2 : (Jvm.Cond.code ({ cls := "java/lang/Object", name := "<init>", desc := "()V" } : Jvm.MethodName) object_method_1_code (1 : Nat) (Option.none : Option Jvm.ClassFile.FieldType)).before args0 about1 = true := code_word (m := ⟨0, 0⟩) (meth := k0m0) (c := k0c0) (by decide +kernel) rfl rfl rfl (by decide +kernel)
set_option maxRecDepth 65536 in
theorem w_c3 : (Jvm.Cond.code ({ cls := "com/example/kept_term/keptterm/model/Group", name := "checkMemberId", desc := "(I)I" } : Jvm.MethodName) prog_15_method_4_code (1 : Nat) (Option.some Jvm.ClassFile.FieldType.int)).before args0 about1 = true := code_word (m := ⟨4, 0⟩) (meth := k4m0) (c := k4c0) (by decide +kernel) rfl rfl rfl (by decide +kernel)
set_option maxRecDepth 65536 in
theorem w_c4 : (Jvm.Cond.code ({ cls := "com/example/kept_term/keptterm/model/Ballot", name := "token", desc := "()J" } : Jvm.MethodName) prog_11_method_6_code (1 : Nat) (Option.some Jvm.ClassFile.FieldType.long)).before args0 about1 = true := code_word (m := ⟨3, 1⟩) (meth := k3m1) (c := k3c1) (by decide +kernel) rfl rfl rfl (by decide +kernel)
set_option maxRecDepth 65536 in
theorem w_c5 : (Jvm.Cond.code ({ cls := "com/example/kept_term/keptterm/model/BallotTokenPinLaw", name := "cmpLong", desc := "(JJ)I" } : Jvm.MethodName) method_2_code (4 : Nat) (Option.some Jvm.ClassFile.FieldType.int)).before args0 about1 = true := code_word (m := ⟨1, 1⟩) (meth := k1m1) (c := k1c1) (by decide +kernel) rfl rfl rfl (by decide +kernel)
set_option maxRecDepth 65536 in
theorem w_c6 : (Jvm.Cond.code ({ cls := "com/example/kept_term/keptterm/model/BallotTokenPinLaw", name := "lex", desc := "(JIIJII)I" } : Jvm.MethodName) method_3_code (8 : Nat) (Option.some Jvm.ClassFile.FieldType.int)).before args0 about1 = true := code_word (m := ⟨1, 2⟩) (meth := k1m2) (c := k1c2) (by decide +kernel) rfl rfl rfl (by decide +kernel)
def codes1 : List Jvm.Cond := [Jvm.Cond.code x code maxLocals ret, Jvm.Cond.code ({ cls := "com/example/kept_term/keptterm/model/Ballot", name := "<init>", desc := "(JII)V" } : Jvm.MethodName) prog_11_method_1_code (5 : Nat) (Option.none : Option Jvm.ClassFile.FieldType), Jvm.Cond.code ({ cls := "java/lang/Object", name := "<init>", desc := "()V" } : Jvm.MethodName) object_method_1_code (1 : Nat) (Option.none : Option Jvm.ClassFile.FieldType), Jvm.Cond.code ({ cls := "com/example/kept_term/keptterm/model/Group", name := "checkMemberId", desc := "(I)I" } : Jvm.MethodName) prog_15_method_4_code (1 : Nat) (Option.some Jvm.ClassFile.FieldType.int), Jvm.Cond.code ({ cls := "com/example/kept_term/keptterm/model/Ballot", name := "token", desc := "()J" } : Jvm.MethodName) prog_11_method_6_code (1 : Nat) (Option.some Jvm.ClassFile.FieldType.long), Jvm.Cond.code ({ cls := "com/example/kept_term/keptterm/model/BallotTokenPinLaw", name := "cmpLong", desc := "(JJ)I" } : Jvm.MethodName) method_2_code (4 : Nat) (Option.some Jvm.ClassFile.FieldType.int), Jvm.Cond.code ({ cls := "com/example/kept_term/keptterm/model/BallotTokenPinLaw", name := "lex", desc := "(JIIJII)I" } : Jvm.MethodName) method_3_code (8 : Nat) (Option.some Jvm.ClassFile.FieldType.int)]
set_option maxRecDepth 65536 in
theorem codes_eq : words1.filter isCode = codes1 := rfl
theorem w_codes : ∀ c ∈ words1.filter isCode, c.before args0 about1 = true := by
  rw [codes_eq]
  intro c hc
  simp only [codes1, List.mem_cons, List.not_mem_nil, or_false] at hc
  rcases hc with rfl | rfl | rfl | rfl | rfl | rfl | rfl
  · exact w_c0
  · exact w_c1
  · exact w_c2
  · exact w_c3
  · exact w_c4
  · exact w_c5
  · exact w_c6
set_option maxRecDepth 65536 in
theorem w_t1 : (words1.take 24).all (fun c => isCode c || c.before args0 about1) = true := by decide +kernel
set_option maxRecDepth 65536 in
theorem w_t2 : (words1.drop 24).all (fun c => isCode c || c.before args0 about1) = true := by decide +kernel
theorem w_tables : (allAtoms (Jvm.Cond.code x code maxLocals ret :: tables_1)).before args0 about1 = true := by
  rw [allAtoms_all]
  show words1.all (fun c => c.before args0 about1) = true
  refine all_split ?_ w_codes
  rw [← List.take_append_drop 24 words1, List.all_append, w_t1, w_t2]
  rfl
set_option maxRecDepth 65536 in
theorem w_case : (Jvm.Cond.and given_1 narrow_1).before args0 about1 = true := by decide +kernel
theorem w_applies : (headSpec (Jvm.Cond.code x code maxLocals ret :: tables_1) room_1).applies x e0.platform about1 = true :=
  (Spec.applies_iff w_frames).mpr ⟨w_running, w_runnable, w_alone, w_named, w_hears, w_ripe, w_room, w_tables⟩
theorem atStart : AtStart classFile x code maxLocals ret World_1 tables_1 room_1 Calls_1 rest_1 Pre_1 launch0 p0 e0 about1 theMethod args0 below0 :=
  ⟨lists_1, trivial, launch0.admits_env _ _ _, launch0.least_env, fairChoices_fair.cas, fairChoices_fair.clock, w_frames, w_args, w_heap, w_applies, trivial, trivial, w_case⟩
end start1
theorem witness_1 : WitnessClaimed_1 := ⟨start1.p0, start1.e0, start1.about1, start1.theMethod, start1.args0, start1.below0, start1.atStart⟩
end Jvm.Pilot.@@N@@
