import JvmDerived
import JvmDerived.Pilot.@@N@@Statement
import JvmDerived.Pilot.@@N@@Code
set_option linter.unusedVariables false
set_option linter.unusedSimpArgs false
namespace Jvm.RoadKit
open Sem ClassFile Op Lib Jvm.Stand Jvm.Free Jvm.LawKit
section New
variable {p : Program} {l : Launch} {e : Env} {R : Room} {s : State} {m : MethodId} {args : Array Value} {below : List Frame} {meth : Method} {c : Code} {T : State} {locs : List Loc} {cells slots : Nat}
theorem retI (X : Stand p l e R s m args below meth c T locs cells slots) (hx : p.tables.exec = Jvm.exec) {pc : Nat} {Ls : Array Slot} {z : Int32} {rest : List Value} (hret : meth.sig.returnType = some .int) (hd : decode c.code pc = .ok (.ireturn, 1)) {fs : List Frame}
    (hl : ∀ (f : JFrame) (acts : List Action), f.method = m → f.locked = none → f.entered = [] → (doReturn e (T.setTop f) acts (some (.int z))).1 = T.setFrames fs) : Steps p.tables e below (T.setTop (mkF m pc Ls (.int z :: rest))) (T.setFrames fs) := by
  have hm' : T.vm.method? m = some meth := X.method'
  have hn : narrow .int (.int z) = .int z := rfl
  show Steps p.tables e below (T.setTop { method := m, pc := pc, locals := Ls, stack := _ :: rest, locked := none }) _
  jvm_step X.here [X.here.top, hx, hd, hm', hret, hn]
  first | (intro acts; rw [hl _ acts rfl rfl rfl]) | rw [hl _ _ rfl rfl rfl]
  exact Steps.refl _
theorem own_lrem {target : State} (X : Stand p l e R s m args below meth c T locs cells slots) (hx : p.tables.exec = Jvm.exec) {g : JFrame} (hg : g.method = m) {x y : Int64} {rest : List Value} (hd : decode c.code g.pc = .ok (.lrem, 1)) (hs : g.stack = .long y :: .long x :: rest) (hy : y ≠ 0)
    (hr : Steps p.tables e below (T.setTop { g with pc := g.pc + 1, stack := .long (x % y) :: rest }) target) : Steps p.tables e below (T.setTop g) target :=
  XS.lrem X.here hx hg hd hs hy (by rw [lrem_mod]; exact hr)
theorem own_via {tb : Tables} {s0 target : State} (s' : State) (h : Steps tb e below s' target → Steps tb e below s0 target) (k : Steps tb e below s' target) : Steps tb e below s0 target := h k
end New
end Jvm.RoadKit
namespace Jvm.Pilot.@@N@@
open Jvm Jvm.ClassFile Sem Op Lib Jvm.Free Jvm.Stand Jvm.LawKit Jvm.RoadKit Bundle Jvm.Pilot.@@N@@.Jvm.D
theorem own_nn {a : Int64} (h : 0 ≤ a.toInt ∧ a.toInt ≤ 2147483647) : a.toInt32.toInt = a.toInt := by
  have x := c_l2i a; have y := rng32 a.toInt32; omega
theorem own_back {a : Int64} (h : 0 ≤ a.toInt ∧ a.toInt ≤ 2147483647) : a.toInt32.toInt64 = a := by
  apply Int64.toInt_inj.mp; rw [c_i2l, own_nn h]
theorem own_z32 : (0 : Int32).toInt = 0 := by decide
theorem own_m64 : (2147483647 : Int64).toInt = 2147483647 := by decide
theorem own_1_64 : (1 : Int64).toInt = 1 := by decide
theorem own_ge {a : Int32} (h : 0 ≤ a.toInt) : ¬ (a < (0 : Int32)) := by rw [Int32.lt_iff_toInt_lt, own_z32]; omega
theorem own_sum4 {a b c d : Int32} (h : 0 ≤ a.toInt ∧ 0 ≤ b.toInt ∧ 0 ≤ c.toInt ∧ 0 ≤ d.toInt ∧ a.toInt + b.toInt + c.toInt + d.toInt ≤ 2147483647) : ¬ ((2147483647 : Int64) < ((((a.toInt64) + (b.toInt64)) + (c.toInt64)) + (d.toInt64))) := by
  rw [Int64.lt_iff_toInt_lt, own_m64]
  have x1 := c_ladd (a.toInt64) (b.toInt64); have x2 := c_ladd ((a.toInt64) + (b.toInt64)) (c.toInt64); have x3 := c_ladd (((a.toInt64) + (b.toInt64)) + (c.toInt64)) (d.toInt64)
  rw [c_i2l] at x1 x2 x3; rw [c_i2l] at x1
  have y1 := rng64 ((a.toInt64) + (b.toInt64)); have y2 := rng64 (((a.toInt64) + (b.toInt64)) + (c.toInt64)); have y3 := rng64 ((((a.toInt64) + (b.toInt64)) + (c.toInt64)) + (d.toInt64))
  omega
theorem own_mask (z : Int64) : 0 ≤ (z &&& (2147483647 : Int64)).toInt ∧ (z &&& (2147483647 : Int64)).toInt ≤ 2147483647 := by
  rw [c_maskL z 2147483647 31 (by decide) (by decide)]
  have e3 : ((2 ^ 31 : Nat) : Int) = 2147483648 := by decide
  rw [e3]; omega
theorem own_rem {x y : Int64} {r : Int} (hx : 0 ≤ x.toInt ∧ x.toInt ≤ 2147483647) (hy : y.toInt = r + 1) (hr : 0 ≤ r ∧ r ≤ 2147483647) : y ≠ 0 ∧ 0 ≤ (x % y).toInt ∧ (x % y).toInt ≤ r := by
  have e0 : (0 : Int64).toInt = 0 := by decide
  refine ⟨fun q => ?_, ?_⟩
  · rw [q, e0] at hy; omega
  · have z := (c_lrem x y (r + 1) hy).1 hx.1
    rw [lrem_mod] at z; rw [z]
    have u := Int.emod_nonneg x.toInt (b := r + 1) (by omega); have v := Int.emod_lt_of_pos x.toInt (b := r + 1) (by omega)
    omega
theorem d2_0 : decode jdk_30_method_1_code 0 = .ok (.aload_n 0, 1) := by decide +kernel
theorem d2_1 : decode jdk_30_method_1_code 1 = .ok (.invokespecial 1, 3) := by decide +kernel
theorem d2_4 : decode jdk_30_method_1_code 4 = .ok (.return_, 1) := by decide +kernel
theorem pn_2 : plainName "java/lang/Record" = true := by first | (simp [plainName, overriddenIn]; done) | decide +kernel
theorem ef_rm2 (m : MethodId) (a0 : Addr) : entryFrame m #[(.ref a0)] 1 = mkF m 0 #[.val (.ref a0)] [] := by first | (simp [entryFrame, mkF, argsToLocals, Value.category]; done) | rfl
def Qrm2 (Z : State) (a0 : Addr) (h0 : Heap) (n0 : Nat) (v : Option Value) (h : Heap) (L : List Loc) : Prop := v = none ∧ Fr n0 L ∧ h = h0
set_option maxRecDepth 65536 in
set_option maxHeartbeats 40000000 in
theorem rm2 (l : Launch) (Z : State) (A0 : Array Value) (hw : ∀ d ∈ tables_1, d.before A0 Z = true) (ws : List Jvm.Cond) (a0 : Addr) (h0 : Heap) (n0 : Nat) (Z0 : n0 ≤ h0.size) :
    MetFree l (⟨"java/lang/Record", "<init>", "()V"⟩ : MethodName) (head1 (Jvm.Cond.code (⟨"java/lang/Record", "<init>", "()V"⟩ : MethodName) jdk_30_method_1_code 1 none :: ws) ({ frames := 1, cells := 0, slots := 0, locals := 12 } : Room)) (fun a U => a = #[(.ref a0)] ∧ Z.Warmed39 U.vm ∧ U.heap = h0) (fun _ _ _ _ _ => True) (fun _ U o U' => ∃ v L, o = .returned v ∧ Qrm2 Z a0 h0 n0 v U'.heap L ∧ FrameEnd U o U' L ({ frames := 1, cells := 0, slots := 0, locals := 12 } : Room).cells ({ frames := 1, cells := 0, slots := 0, locals := 12 } : Room).slots) := by
  refine MetFree.of_bodySF (plainFor_of_name pn_2) hisR ?_
  intro p e s m args below meth c s₁ Bd hml0 hP hK
  obtain ⟨rfl, hZ, hh⟩ := hP
  have hx := Bd.exec
  have hby := Bd.bytes
  have hml : c.maxLocals = 1 := hml0
  have hown : s.vm.findClass "java/lang/Record" = some m.cls := findClass_of_methodNamed Bd.named
  have hnm := (name_of_methodNamed Bd.named Bd.method).1
  have X0 : Stand p l e ({ frames := 1, cells := 0, slots := 0, locals := 12 } : Room) s m #[(.ref a0)] below meth c s₁ [] 0 0 := Stand.of_body Bd
  have e0 : s₁.heap = h0 := by rw [← hh, Bd.state]; rfl
  have N0 := Fr.nil n0
  have K0 : Keep h0 h0 [] := Keep.refl _ _
  have pre0 : ∀ t, Steps p.tables e below (s₁.setTop (mkF m 0 #[.val (.ref a0)] [])) t → Steps p.tables e below (s₁.setTop (entryFrame m #[(.ref a0)] 1)) t := fun t k => castTop (ef_rm2 m a0) k
  obtain ⟨T1, X1, e1, st1⟩ := initO X0 hx hZ hown (hw _ (List.mem_of_getElem? (i := 12) rfl)) (hw _ (List.mem_of_getElem? (i := 13) rfl)) (hw _ (List.mem_of_getElem? (i := 14) rfl)) e0 (g := (mkF m 1 #[.val (.ref a0)] [(.ref a0)])) rfl (by rw [hml]; rfl) rfl (hb hby d2_1) (by decide) (W := 0) (by show 2 * 0 + _ ≤ _; exact Nat.le_of_eq rfl) (by decide)
  obtain ⟨fs, hr, hrun, hended, hW, hsame⟩ := X1.leave (v := none) (fun _ => rfl)
  refine ⟨_, _, pre0 _ ?_, hrun, hended, _, _, rfl, ?_, ⟨_, rfl⟩, hW, hsame.mono (by decide) (by decide)⟩
  · show Steps p.tables e below (s₁.setTop (mkF m 0 #[.val (.ref a0)] [])) _
    refine XS.aloadN X0.here hx rfl (hb hby d2_0) rfl rfl ?_
    show Steps p.tables e below (s₁.setTop (mkF m 1 #[.val (.ref a0)] [(.ref a0)])) _
    refine st1 _ ?_
    show Steps p.tables e below (T1.setTop (mkF m 4 #[.val (.ref a0)] [])) _
    exact X1.returnOut hx Bd.returns (hb hby d2_4) hr
  · show Qrm2 Z a0 h0 n0 _ T1.heap _
    rw [e1]
    exact ⟨rfl, N0, rfl⟩
theorem pd_0 : parseMethodDescriptor "()V" = some ⟨[], none⟩ := by decide +kernel
theorem d1_0 : decode prog_21_method_1_code 0 = .ok (.aload_n 0, 1) := by decide +kernel
theorem d1_1 : decode prog_21_method_1_code 1 = .ok (.invokespecial 1, 3) := by decide +kernel
theorem d1_4 : decode prog_21_method_1_code 4 = .ok (.iload_n 1, 1) := by decide +kernel
theorem d1_5 : decode prog_21_method_1_code 5 = .ok (.ifCond .lt 16, 3) := by decide +kernel
theorem d1_8 : decode prog_21_method_1_code 8 = .ok (.iload_n 2, 1) := by decide +kernel
theorem d1_9 : decode prog_21_method_1_code 9 = .ok (.ifCond .lt 12, 3) := by decide +kernel
theorem d1_12 : decode prog_21_method_1_code 12 = .ok (.iload_n 3, 1) := by decide +kernel
theorem d1_13 : decode prog_21_method_1_code 13 = .ok (.ifCond .lt 8, 3) := by decide +kernel
theorem d1_16 : decode prog_21_method_1_code 16 = .ok (.iload 4, 2) := by decide +kernel
theorem d1_18 : decode prog_21_method_1_code 18 = .ok (.ifCond .ge 52, 3) := by decide +kernel
theorem d1_70 : decode prog_21_method_1_code 70 = .ok (.iload_n 1, 1) := by decide +kernel
theorem d1_71 : decode prog_21_method_1_code 71 = .ok (.i2l, 1) := by decide +kernel
theorem d1_72 : decode prog_21_method_1_code 72 = .ok (.iload_n 2, 1) := by decide +kernel
theorem d1_73 : decode prog_21_method_1_code 73 = .ok (.i2l, 1) := by decide +kernel
theorem d1_74 : decode prog_21_method_1_code 74 = .ok (.ladd, 1) := by decide +kernel
theorem d1_75 : decode prog_21_method_1_code 75 = .ok (.iload_n 3, 1) := by decide +kernel
theorem d1_76 : decode prog_21_method_1_code 76 = .ok (.i2l, 1) := by decide +kernel
theorem d1_77 : decode prog_21_method_1_code 77 = .ok (.ladd, 1) := by decide +kernel
theorem d1_78 : decode prog_21_method_1_code 78 = .ok (.iload 4, 2) := by decide +kernel
theorem d1_80 : decode prog_21_method_1_code 80 = .ok (.i2l, 1) := by decide +kernel
theorem d1_81 : decode prog_21_method_1_code 81 = .ok (.ladd, 1) := by decide +kernel
theorem d1_82 : decode prog_21_method_1_code 82 = .ok (.ldc2_w 34, 3) := by decide +kernel
theorem d1_85 : decode prog_21_method_1_code 85 = .ok (.lcmp, 1) := by decide +kernel
theorem d1_86 : decode prog_21_method_1_code 86 = .ok (.ifCond .le 13, 3) := by decide +kernel
theorem d1_99 : decode prog_21_method_1_code 99 = .ok (.aload_n 0, 1) := by decide +kernel
theorem d1_100 : decode prog_21_method_1_code 100 = .ok (.iload_n 1, 1) := by decide +kernel
theorem d1_101 : decode prog_21_method_1_code 101 = .ok (.putfield 38, 3) := by decide +kernel
theorem d1_104 : decode prog_21_method_1_code 104 = .ok (.aload_n 0, 1) := by decide +kernel
theorem d1_105 : decode prog_21_method_1_code 105 = .ok (.iload_n 2, 1) := by decide +kernel
theorem d1_106 : decode prog_21_method_1_code 106 = .ok (.putfield 44, 3) := by decide +kernel
theorem d1_109 : decode prog_21_method_1_code 109 = .ok (.aload_n 0, 1) := by decide +kernel
theorem d1_110 : decode prog_21_method_1_code 110 = .ok (.iload_n 3, 1) := by decide +kernel
theorem d1_111 : decode prog_21_method_1_code 111 = .ok (.putfield 47, 3) := by decide +kernel
theorem d1_114 : decode prog_21_method_1_code 114 = .ok (.aload_n 0, 1) := by decide +kernel
theorem d1_115 : decode prog_21_method_1_code 115 = .ok (.iload 4, 2) := by decide +kernel
theorem d1_117 : decode prog_21_method_1_code 117 = .ok (.putfield 50, 3) := by decide +kernel
theorem d1_120 : decode prog_21_method_1_code 120 = .ok (.return_, 1) := by decide +kernel
theorem pn_1 : plainName "com/example/forkline/forkline/Tally" = true := by first | (simp [plainName, overriddenIn]; done) | decide +kernel
theorem ef_rm1 (m : MethodId) (a0 : Addr) (p1 : Int32) (p2 : Int32) (p3 : Int32) (p4 : Int32) : entryFrame m #[(.ref a0), (.int p1), (.int p2), (.int p3), (.int p4)] 5 = mkF m 0 #[.val (.ref a0), .val (.int p1), .val (.int p2), .val (.int p3), .val (.int p4)] [] := by first | (simp [entryFrame, mkF, argsToLocals, Value.category]; done) | rfl
def Qrm1 (Z : State) (a0 : Addr) (p1 : Int32) (p2 : Int32) (p3 : Int32) (p4 : Int32) (u_passed : Value) (u_failed : Value) (u_errors : Value) (u_skipped : Value) (h0 : Heap) (n0 : Nat) (v : Option Value) (h : Heap) (L : List Loc) : Prop := v = none ∧ Fr n0 L ∧ Keep h0 h [a0] ∧ Exa Z h a0 "com/example/forkline/forkline/Tally" ∧ Fld Z h a0 "com/example/forkline/forkline/Tally" "passed" "I" (.int p1) ∧ Fld Z h a0 "com/example/forkline/forkline/Tally" "failed" "I" (.int p2) ∧ Fld Z h a0 "com/example/forkline/forkline/Tally" "errors" "I" (.int p3) ∧ Fld Z h a0 "com/example/forkline/forkline/Tally" "skipped" "I" (.int p4)
set_option maxRecDepth 65536 in
set_option maxHeartbeats 40000000 in
theorem rm1 (l : Launch) (Z : State) (A0 : Array Value) (hw : ∀ d ∈ tables_1, d.before A0 Z = true) (ws : List Jvm.Cond) (a0 : Addr) (p1 : Int32) (p2 : Int32) (p3 : Int32) (p4 : Int32) (u_passed : Value) (u_failed : Value) (u_errors : Value) (u_skipped : Value) (h0 : Heap) (n0 : Nat) (Z0 : n0 ≤ h0.size) (E_a0 : Exa Z h0 a0 "com/example/forkline/forkline/Tally") (F_passed_a0 : Fld Z h0 a0 "com/example/forkline/forkline/Tally" "passed" "I" u_passed) (F_failed_a0 : Fld Z h0 a0 "com/example/forkline/forkline/Tally" "failed" "I" u_failed) (F_errors_a0 : Fld Z h0 a0 "com/example/forkline/forkline/Tally" "errors" "I" u_errors) (F_skipped_a0 : Fld Z h0 a0 "com/example/forkline/forkline/Tally" "skipped" "I" u_skipped) (g_a0 : n0 ≤ a0) (hbd : 0 ≤ p1.toInt ∧ 0 ≤ p2.toInt ∧ 0 ≤ p3.toInt ∧ 0 ≤ p4.toInt ∧ p1.toInt + p2.toInt + p3.toInt + p4.toInt ≤ 2147483647) :
    MetFree l (⟨"com/example/forkline/forkline/Tally", "<init>", "(IIII)V"⟩ : MethodName) (head1 (Jvm.Cond.code (⟨"com/example/forkline/forkline/Tally", "<init>", "(IIII)V"⟩ : MethodName) prog_21_method_1_code 5 none :: ws) ({ frames := 2, cells := 0, slots := 0, locals := 24 } : Room)) (fun a U => a = #[(.ref a0), (.int p1), (.int p2), (.int p3), (.int p4)] ∧ Z.Warmed39 U.vm ∧ U.heap = h0) (fun _ _ _ _ _ => True) (fun _ U o U' => ∃ v L, o = .returned v ∧ Qrm1 Z a0 p1 p2 p3 p4 u_passed u_failed u_errors u_skipped h0 n0 v U'.heap L ∧ FrameEnd U o U' L ({ frames := 2, cells := 0, slots := 0, locals := 24 } : Room).cells ({ frames := 2, cells := 0, slots := 0, locals := 24 } : Room).slots) := by
  refine MetFree.of_bodySF (plainFor_of_name pn_1) hisR ?_
  intro p e s m args below meth c s₁ Bd hml0 hP hK
  obtain ⟨rfl, hZ, hh⟩ := hP
  have hx := Bd.exec
  have hby := Bd.bytes
  have hml : c.maxLocals = 5 := hml0
  have hown : s.vm.findClass "com/example/forkline/forkline/Tally" = some m.cls := findClass_of_methodNamed Bd.named
  have hnm := (name_of_methodNamed Bd.named Bd.method).1
  have X0 : Stand p l e ({ frames := 2, cells := 0, slots := 0, locals := 24 } : Room) s m #[(.ref a0), (.int p1), (.int p2), (.int p3), (.int p4)] below meth c s₁ [] 0 0 := Stand.of_body Bd
  have e0 : s₁.heap = h0 := by rw [← hh, Bd.state]; rfl
  have N0 := Fr.nil n0
  have K0 : Keep h0 h0 [a0] := Keep.refl _ _
  have pre0 : ∀ t, Steps p.tables e below (s₁.setTop (mkF m 0 #[.val (.ref a0), .val (.int p1), .val (.int p2), .val (.int p3), .val (.int p4)] [])) t → Steps p.tables e below (s₁.setTop (entryFrame m #[(.ref a0), (.int p1), (.int p2), (.int p3), (.int p4)] 5)) t := fun t k => castTop (ef_rm1 m a0 p1 p2 p3 p4) k
  obtain ⟨_, _, ⟨T1, L1, k1, n1⟩, -, X1, ⟨Lc1, hQ1, l1, y1, z1⟩, st1⟩ := X0.specialBack hx (y := (⟨"java/lang/Record", "<init>", "()V"⟩ : MethodName)) rfl hown (mvT hZ (hw _ (List.mem_of_getElem? (i := 7) rfl))) (mvT hZ (hw _ (List.mem_of_getElem? (i := 8) rfl))) (mvT hZ (hw _ (List.mem_of_getElem? (i := 11) rfl))) (by decide) (backOf (W := 0) (rm2 l Z A0 hw [] a0  h0 n0 Z0 ) hZ (hw _ (List.mem_of_getElem? (i := 11) rfl)) (hw _ (List.mem_of_getElem? (i := 10) rfl)) (by decide) (by decide)) (g := (mkF m 1 #[.val (.ref a0), .val (.int p1), .val (.int p2), .val (.int p3), .val (.int p4)] [(.ref a0)])) rfl (by rw [hml]; rfl) (Steps.refl _) (a := a0) (argsL := []) (rest := []) (lenOf pd_0 rfl) rfl (by show 2 * 0 + _ ≤ _; exact Nat.le_of_eq rfl) (hb hby d1_1) (fun _ _ => ⟨rfl, e0, (by decide : 0 + 0 ≤ _), (by decide : 0 + 0 ≤ _)⟩)
  dsimp only [Pt.U, Pt.locs, Pt.cells, Pt.slots] at X1 l1 y1 z1 st1 hQ1
  subst l1 y1 z1
  obtain ⟨rfl, N1q, eh1⟩ := hQ1
  have N1 := Fr.app N0 N1q
  obtain ⟨T2, h2, X2, e2, W2, st2⟩ := putF X1 hx hZ hown (host := "") (Or.inl (hw _ (List.mem_of_getElem? (i := 16) rfl))) Via.refl eh1 F_passed_a0 E_a0 (Or.inr ⟨(hw _ (List.mem_of_getElem? (i := 17) rfl)), rfl, hnm⟩) (hw _ (List.mem_of_getElem? (i := 2) rfl)) (ty := .int) (by decide) rfl rfl (g := (mkF m 101 #[.val (.ref a0), .val (.int p1), .val (.int p2), .val (.int p3), .val (.int p4)] [(.int p1), (.ref a0)])) rfl rfl (hb hby d1_101)
  have F_passed_a0 : Fld Z h2 a0 "com/example/forkline/forkline/Tally" "passed" "I" (.int p1) := F_passed_a0.same W2
  have E_a0 : Exa Z h2 a0 "com/example/forkline/forkline/Tally" := E_a0.wr W2
  have F_failed_a0 : Fld Z h2 a0 "com/example/forkline/forkline/Tally" "failed" "I" u_failed := F_failed_a0.other W2 (Or.inr (slot_ne (Or.inr (hw _ (List.mem_of_getElem? (i := 19) rfl))) (Or.inr (hw _ (List.mem_of_getElem? (i := 17) rfl))) (by decide) (t := .int) (t' := .int) (by decide) (by decide)))
  have F_errors_a0 : Fld Z h2 a0 "com/example/forkline/forkline/Tally" "errors" "I" u_errors := F_errors_a0.other W2 (Or.inr (slot_ne (Or.inr (hw _ (List.mem_of_getElem? (i := 21) rfl))) (Or.inr (hw _ (List.mem_of_getElem? (i := 17) rfl))) (by decide) (t := .int) (t' := .int) (by decide) (by decide)))
  have F_skipped_a0 : Fld Z h2 a0 "com/example/forkline/forkline/Tally" "skipped" "I" u_skipped := F_skipped_a0.other W2 (Or.inr (slot_ne (Or.inr (hw _ (List.mem_of_getElem? (i := 23) rfl))) (Or.inr (hw _ (List.mem_of_getElem? (i := 17) rfl))) (by decide) (t := .int) (t' := .int) (by decide) (by decide)))
  have Zh2 : n0 ≤ h2.size := Nat.le_trans Z0 (Keep.of_wr W2).1
  have Kh2 : Keep h0 h2 [a0] := K0.wr W2 (Or.inl (by simp))
  have N2 := Fr.snoc X2 N1 g_a0
  obtain ⟨T3, h3, X3, e3, W3, st3⟩ := putF X2 hx hZ hown (host := "") (Or.inl (hw _ (List.mem_of_getElem? (i := 18) rfl))) Via.refl e2 F_failed_a0 E_a0 (Or.inr ⟨(hw _ (List.mem_of_getElem? (i := 19) rfl)), rfl, hnm⟩) (hw _ (List.mem_of_getElem? (i := 2) rfl)) (ty := .int) (by decide) rfl rfl (g := (mkF m 106 #[.val (.ref a0), .val (.int p1), .val (.int p2), .val (.int p3), .val (.int p4)] [(.int p2), (.ref a0)])) rfl rfl (hb hby d1_106)
  have F_failed_a0 : Fld Z h3 a0 "com/example/forkline/forkline/Tally" "failed" "I" (.int p2) := F_failed_a0.same W3
  have E_a0 : Exa Z h3 a0 "com/example/forkline/forkline/Tally" := E_a0.wr W3
  have F_passed_a0 : Fld Z h3 a0 "com/example/forkline/forkline/Tally" "passed" "I" (.int p1) := F_passed_a0.other W3 (Or.inr (slot_ne (Or.inr (hw _ (List.mem_of_getElem? (i := 17) rfl))) (Or.inr (hw _ (List.mem_of_getElem? (i := 19) rfl))) (by decide) (t := .int) (t' := .int) (by decide) (by decide)))
  have F_errors_a0 : Fld Z h3 a0 "com/example/forkline/forkline/Tally" "errors" "I" u_errors := F_errors_a0.other W3 (Or.inr (slot_ne (Or.inr (hw _ (List.mem_of_getElem? (i := 21) rfl))) (Or.inr (hw _ (List.mem_of_getElem? (i := 19) rfl))) (by decide) (t := .int) (t' := .int) (by decide) (by decide)))
  have F_skipped_a0 : Fld Z h3 a0 "com/example/forkline/forkline/Tally" "skipped" "I" u_skipped := F_skipped_a0.other W3 (Or.inr (slot_ne (Or.inr (hw _ (List.mem_of_getElem? (i := 23) rfl))) (Or.inr (hw _ (List.mem_of_getElem? (i := 19) rfl))) (by decide) (t := .int) (t' := .int) (by decide) (by decide)))
  have Zh3 : n0 ≤ h3.size := Nat.le_trans Zh2 (Keep.of_wr W3).1
  have Kh3 : Keep h0 h3 [a0] := Kh2.wr W3 (Or.inl (by simp))
  have N3 := Fr.snoc X3 N2 g_a0
  obtain ⟨T4, h4, X4, e4, W4, st4⟩ := putF X3 hx hZ hown (host := "") (Or.inl (hw _ (List.mem_of_getElem? (i := 20) rfl))) Via.refl e3 F_errors_a0 E_a0 (Or.inr ⟨(hw _ (List.mem_of_getElem? (i := 21) rfl)), rfl, hnm⟩) (hw _ (List.mem_of_getElem? (i := 2) rfl)) (ty := .int) (by decide) rfl rfl (g := (mkF m 111 #[.val (.ref a0), .val (.int p1), .val (.int p2), .val (.int p3), .val (.int p4)] [(.int p3), (.ref a0)])) rfl rfl (hb hby d1_111)
  have F_errors_a0 : Fld Z h4 a0 "com/example/forkline/forkline/Tally" "errors" "I" (.int p3) := F_errors_a0.same W4
  have E_a0 : Exa Z h4 a0 "com/example/forkline/forkline/Tally" := E_a0.wr W4
  have F_passed_a0 : Fld Z h4 a0 "com/example/forkline/forkline/Tally" "passed" "I" (.int p1) := F_passed_a0.other W4 (Or.inr (slot_ne (Or.inr (hw _ (List.mem_of_getElem? (i := 17) rfl))) (Or.inr (hw _ (List.mem_of_getElem? (i := 21) rfl))) (by decide) (t := .int) (t' := .int) (by decide) (by decide)))
  have F_failed_a0 : Fld Z h4 a0 "com/example/forkline/forkline/Tally" "failed" "I" (.int p2) := F_failed_a0.other W4 (Or.inr (slot_ne (Or.inr (hw _ (List.mem_of_getElem? (i := 19) rfl))) (Or.inr (hw _ (List.mem_of_getElem? (i := 21) rfl))) (by decide) (t := .int) (t' := .int) (by decide) (by decide)))
  have F_skipped_a0 : Fld Z h4 a0 "com/example/forkline/forkline/Tally" "skipped" "I" u_skipped := F_skipped_a0.other W4 (Or.inr (slot_ne (Or.inr (hw _ (List.mem_of_getElem? (i := 23) rfl))) (Or.inr (hw _ (List.mem_of_getElem? (i := 21) rfl))) (by decide) (t := .int) (t' := .int) (by decide) (by decide)))
  have Zh4 : n0 ≤ h4.size := Nat.le_trans Zh3 (Keep.of_wr W4).1
  have Kh4 : Keep h0 h4 [a0] := Kh3.wr W4 (Or.inl (by simp))
  have N4 := Fr.snoc X4 N3 g_a0
  obtain ⟨T5, h5, X5, e5, W5, st5⟩ := putF X4 hx hZ hown (host := "") (Or.inl (hw _ (List.mem_of_getElem? (i := 22) rfl))) Via.refl e4 F_skipped_a0 E_a0 (Or.inr ⟨(hw _ (List.mem_of_getElem? (i := 23) rfl)), rfl, hnm⟩) (hw _ (List.mem_of_getElem? (i := 2) rfl)) (ty := .int) (by decide) rfl rfl (g := (mkF m 117 #[.val (.ref a0), .val (.int p1), .val (.int p2), .val (.int p3), .val (.int p4)] [(.int p4), (.ref a0)])) rfl rfl (hb hby d1_117)
  have F_skipped_a0 : Fld Z h5 a0 "com/example/forkline/forkline/Tally" "skipped" "I" (.int p4) := F_skipped_a0.same W5
  have E_a0 : Exa Z h5 a0 "com/example/forkline/forkline/Tally" := E_a0.wr W5
  have F_passed_a0 : Fld Z h5 a0 "com/example/forkline/forkline/Tally" "passed" "I" (.int p1) := F_passed_a0.other W5 (Or.inr (slot_ne (Or.inr (hw _ (List.mem_of_getElem? (i := 17) rfl))) (Or.inr (hw _ (List.mem_of_getElem? (i := 23) rfl))) (by decide) (t := .int) (t' := .int) (by decide) (by decide)))
  have F_failed_a0 : Fld Z h5 a0 "com/example/forkline/forkline/Tally" "failed" "I" (.int p2) := F_failed_a0.other W5 (Or.inr (slot_ne (Or.inr (hw _ (List.mem_of_getElem? (i := 19) rfl))) (Or.inr (hw _ (List.mem_of_getElem? (i := 23) rfl))) (by decide) (t := .int) (t' := .int) (by decide) (by decide)))
  have F_errors_a0 : Fld Z h5 a0 "com/example/forkline/forkline/Tally" "errors" "I" (.int p3) := F_errors_a0.other W5 (Or.inr (slot_ne (Or.inr (hw _ (List.mem_of_getElem? (i := 21) rfl))) (Or.inr (hw _ (List.mem_of_getElem? (i := 23) rfl))) (by decide) (t := .int) (t' := .int) (by decide) (by decide)))
  have Zh5 : n0 ≤ h5.size := Nat.le_trans Zh4 (Keep.of_wr W5).1
  have Kh5 : Keep h0 h5 [a0] := Kh4.wr W5 (Or.inl (by simp))
  have N5 := Fr.snoc X5 N4 g_a0
  obtain ⟨fs, hr, hrun, hended, hW, hsame⟩ := X5.leave (v := none) (fun _ => rfl)
  refine ⟨_, _, pre0 _ ?_, hrun, hended, _, _, rfl, ?_, ⟨_, rfl⟩, hW, hsame.mono (by decide) (by decide)⟩
  · show Steps p.tables e below (s₁.setTop (mkF m 0 #[.val (.ref a0), .val (.int p1), .val (.int p2), .val (.int p3), .val (.int p4)] [])) _
    refine XS.aloadN X0.here hx rfl (hb hby d1_0) rfl rfl ?_
    show Steps p.tables e below (s₁.setTop (mkF m 1 #[.val (.ref a0), .val (.int p1), .val (.int p2), .val (.int p3), .val (.int p4)] [(.ref a0)])) _
    refine st1.trans ?_
    show Steps p.tables e below (T1.setTop (mkF m 4 #[.val (.ref a0), .val (.int p1), .val (.int p2), .val (.int p3), .val (.int p4)] [])) _
    refine XS.iloadN X1.here hx rfl (hb hby d1_4) rfl ?_
    show Steps p.tables e below (T1.setTop (mkF m 5 #[.val (.ref a0), .val (.int p1), .val (.int p2), .val (.int p3), .val (.int p4)] [(.int p1)])) _
    refine XS.ifNo X1.here hx rfl (hb hby d1_5) rfl ((if0 _ _).trans (flt (own_ge hbd.1 : ¬ (p1 < (0 : Int32)))).1) ?_
    show Steps p.tables e below (T1.setTop (mkF m 8 #[.val (.ref a0), .val (.int p1), .val (.int p2), .val (.int p3), .val (.int p4)] [])) _
    refine XS.iloadN X1.here hx rfl (hb hby d1_8) rfl ?_
    show Steps p.tables e below (T1.setTop (mkF m 9 #[.val (.ref a0), .val (.int p1), .val (.int p2), .val (.int p3), .val (.int p4)] [(.int p2)])) _
    refine XS.ifNo X1.here hx rfl (hb hby d1_9) rfl ((if0 _ _).trans (flt (own_ge hbd.2.1 : ¬ (p2 < (0 : Int32)))).1) ?_
    show Steps p.tables e below (T1.setTop (mkF m 12 #[.val (.ref a0), .val (.int p1), .val (.int p2), .val (.int p3), .val (.int p4)] [])) _
    refine XS.iloadN X1.here hx rfl (hb hby d1_12) rfl ?_
    show Steps p.tables e below (T1.setTop (mkF m 13 #[.val (.ref a0), .val (.int p1), .val (.int p2), .val (.int p3), .val (.int p4)] [(.int p3)])) _
    refine XS.ifNo X1.here hx rfl (hb hby d1_13) rfl ((if0 _ _).trans (flt (own_ge hbd.2.2.1 : ¬ (p3 < (0 : Int32)))).1) ?_
    show Steps p.tables e below (T1.setTop (mkF m 16 #[.val (.ref a0), .val (.int p1), .val (.int p2), .val (.int p3), .val (.int p4)] [])) _
    refine XS.iload X1.here hx rfl (hb hby d1_16) rfl ?_
    show Steps p.tables e below (T1.setTop (mkF m 18 #[.val (.ref a0), .val (.int p1), .val (.int p2), .val (.int p3), .val (.int p4)] [(.int p4)])) _
    refine XS.ifYes X1.here hx rfl (pc0 := 18) (pc' := 70) rfl (hb hby d1_18) rfl ((if0 _ _).trans (flt (own_ge hbd.2.2.2.1 : ¬ (p4 < (0 : Int32)))).2.1) (by decide) (by decide) ?_
    show Steps p.tables e below (T1.setTop (mkF m 70 #[.val (.ref a0), .val (.int p1), .val (.int p2), .val (.int p3), .val (.int p4)] [])) _
    refine XS.iloadN X1.here hx rfl (hb hby d1_70) rfl ?_
    show Steps p.tables e below (T1.setTop (mkF m 71 #[.val (.ref a0), .val (.int p1), .val (.int p2), .val (.int p3), .val (.int p4)] [(.int p1)])) _
    refine XS.i2l X1.here hx rfl (hb hby d1_71) rfl ?_
    show Steps p.tables e below (T1.setTop (mkF m 72 #[.val (.ref a0), .val (.int p1), .val (.int p2), .val (.int p3), .val (.int p4)] [(.long (p1.toInt64))])) _
    refine XS.iloadN X1.here hx rfl (hb hby d1_72) rfl ?_
    show Steps p.tables e below (T1.setTop (mkF m 73 #[.val (.ref a0), .val (.int p1), .val (.int p2), .val (.int p3), .val (.int p4)] [(.int p2), (.long (p1.toInt64))])) _
    refine XS.i2l X1.here hx rfl (hb hby d1_73) rfl ?_
    show Steps p.tables e below (T1.setTop (mkF m 74 #[.val (.ref a0), .val (.int p1), .val (.int p2), .val (.int p3), .val (.int p4)] [(.long (p2.toInt64)), (.long (p1.toInt64))])) _
    refine XS.ladd X1.here hx rfl (hb hby d1_74) rfl ?_
    show Steps p.tables e below (T1.setTop (mkF m 75 #[.val (.ref a0), .val (.int p1), .val (.int p2), .val (.int p3), .val (.int p4)] [(.long ((p1.toInt64) + (p2.toInt64)))])) _
    refine XS.iloadN X1.here hx rfl (hb hby d1_75) rfl ?_
    show Steps p.tables e below (T1.setTop (mkF m 76 #[.val (.ref a0), .val (.int p1), .val (.int p2), .val (.int p3), .val (.int p4)] [(.int p3), (.long ((p1.toInt64) + (p2.toInt64)))])) _
    refine XS.i2l X1.here hx rfl (hb hby d1_76) rfl ?_
    show Steps p.tables e below (T1.setTop (mkF m 77 #[.val (.ref a0), .val (.int p1), .val (.int p2), .val (.int p3), .val (.int p4)] [(.long (p3.toInt64)), (.long ((p1.toInt64) + (p2.toInt64)))])) _
    refine XS.ladd X1.here hx rfl (hb hby d1_77) rfl ?_
    show Steps p.tables e below (T1.setTop (mkF m 78 #[.val (.ref a0), .val (.int p1), .val (.int p2), .val (.int p3), .val (.int p4)] [(.long (((p1.toInt64) + (p2.toInt64)) + (p3.toInt64)))])) _
    refine XS.iload X1.here hx rfl (hb hby d1_78) rfl ?_
    show Steps p.tables e below (T1.setTop (mkF m 80 #[.val (.ref a0), .val (.int p1), .val (.int p2), .val (.int p3), .val (.int p4)] [(.int p4), (.long (((p1.toInt64) + (p2.toInt64)) + (p3.toInt64)))])) _
    refine XS.i2l X1.here hx rfl (hb hby d1_80) rfl ?_
    show Steps p.tables e below (T1.setTop (mkF m 81 #[.val (.ref a0), .val (.int p1), .val (.int p2), .val (.int p3), .val (.int p4)] [(.long (p4.toInt64)), (.long (((p1.toInt64) + (p2.toInt64)) + (p3.toInt64)))])) _
    refine XS.ladd X1.here hx rfl (hb hby d1_81) rfl ?_
    show Steps p.tables e below (T1.setTop (mkF m 82 #[.val (.ref a0), .val (.int p1), .val (.int p2), .val (.int p3), .val (.int p4)] [(.long ((((p1.toInt64) + (p2.toInt64)) + (p3.toInt64)) + (p4.toInt64)))])) _
    refine X1.ldc2Long hx hown (mvT hZ (hw _ (List.mem_of_getElem? (i := 15) rfl))) (g := (mkF m 82 #[.val (.ref a0), .val (.int p1), .val (.int p2), .val (.int p3), .val (.int p4)] [(.long ((((p1.toInt64) + (p2.toInt64)) + (p3.toInt64)) + (p4.toInt64)))])) rfl (hb hby d1_82) _ ?_
    show Steps p.tables e below (T1.setTop (mkF m 85 #[.val (.ref a0), .val (.int p1), .val (.int p2), .val (.int p3), .val (.int p4)] [(.long (2147483647 : Int64)), (.long ((((p1.toInt64) + (p2.toInt64)) + (p3.toInt64)) + (p4.toInt64)))])) _
    refine XS.lcmp X1.here hx rfl (hb hby d1_85) rfl ?_
    show Steps p.tables e below (T1.setTop (mkF m 86 #[.val (.ref a0), .val (.int p1), .val (.int p2), .val (.int p3), .val (.int p4)] [(.int (lcmpW ((((p1.toInt64) + (p2.toInt64)) + (p3.toInt64)) + (p4.toInt64)) (2147483647 : Int64)))])) _
    refine XS.ifYes X1.here hx rfl (pc0 := 86) (pc' := 99) rfl (hb hby d1_86) rfl ((if0 _ _).trans (flt (mt (lw_gt _ _).mp (own_sum4 hbd : ¬ ((2147483647 : Int64) < ((((p1.toInt64) + (p2.toInt64)) + (p3.toInt64)) + (p4.toInt64)))))).2.2.2) (by decide) (by decide) ?_
    show Steps p.tables e below (T1.setTop (mkF m 99 #[.val (.ref a0), .val (.int p1), .val (.int p2), .val (.int p3), .val (.int p4)] [])) _
    refine XS.aloadN X1.here hx rfl (hb hby d1_99) rfl rfl ?_
    show Steps p.tables e below (T1.setTop (mkF m 100 #[.val (.ref a0), .val (.int p1), .val (.int p2), .val (.int p3), .val (.int p4)] [(.ref a0)])) _
    refine XS.iloadN X1.here hx rfl (hb hby d1_100) rfl ?_
    show Steps p.tables e below (T1.setTop (mkF m 101 #[.val (.ref a0), .val (.int p1), .val (.int p2), .val (.int p3), .val (.int p4)] [(.int p1), (.ref a0)])) _
    refine st2 _ ?_
    show Steps p.tables e below (T2.setTop (mkF m 104 #[.val (.ref a0), .val (.int p1), .val (.int p2), .val (.int p3), .val (.int p4)] [])) _
    refine XS.aloadN X2.here hx rfl (hb hby d1_104) rfl rfl ?_
    show Steps p.tables e below (T2.setTop (mkF m 105 #[.val (.ref a0), .val (.int p1), .val (.int p2), .val (.int p3), .val (.int p4)] [(.ref a0)])) _
    refine XS.iloadN X2.here hx rfl (hb hby d1_105) rfl ?_
    show Steps p.tables e below (T2.setTop (mkF m 106 #[.val (.ref a0), .val (.int p1), .val (.int p2), .val (.int p3), .val (.int p4)] [(.int p2), (.ref a0)])) _
    refine st3 _ ?_
    show Steps p.tables e below (T3.setTop (mkF m 109 #[.val (.ref a0), .val (.int p1), .val (.int p2), .val (.int p3), .val (.int p4)] [])) _
    refine XS.aloadN X3.here hx rfl (hb hby d1_109) rfl rfl ?_
    show Steps p.tables e below (T3.setTop (mkF m 110 #[.val (.ref a0), .val (.int p1), .val (.int p2), .val (.int p3), .val (.int p4)] [(.ref a0)])) _
    refine XS.iloadN X3.here hx rfl (hb hby d1_110) rfl ?_
    show Steps p.tables e below (T3.setTop (mkF m 111 #[.val (.ref a0), .val (.int p1), .val (.int p2), .val (.int p3), .val (.int p4)] [(.int p3), (.ref a0)])) _
    refine st4 _ ?_
    show Steps p.tables e below (T4.setTop (mkF m 114 #[.val (.ref a0), .val (.int p1), .val (.int p2), .val (.int p3), .val (.int p4)] [])) _
    refine XS.aloadN X4.here hx rfl (hb hby d1_114) rfl rfl ?_
    show Steps p.tables e below (T4.setTop (mkF m 115 #[.val (.ref a0), .val (.int p1), .val (.int p2), .val (.int p3), .val (.int p4)] [(.ref a0)])) _
    refine XS.iload X4.here hx rfl (hb hby d1_115) rfl ?_
    show Steps p.tables e below (T4.setTop (mkF m 117 #[.val (.ref a0), .val (.int p1), .val (.int p2), .val (.int p3), .val (.int p4)] [(.int p4), (.ref a0)])) _
    refine st5 _ ?_
    show Steps p.tables e below (T5.setTop (mkF m 120 #[.val (.ref a0), .val (.int p1), .val (.int p2), .val (.int p3), .val (.int p4)] [])) _
    exact X5.returnOut hx Bd.returns (hb hby d1_120) hr
  · show Qrm1 Z a0 p1 p2 p3 p4 u_passed u_failed u_errors u_skipped h0 n0 _ T5.heap _
    rw [e5]
    exact ⟨rfl, N5, Kh5, E_a0, F_passed_a0, F_failed_a0, F_errors_a0, F_skipped_a0⟩
theorem d4_0 : decode prog_21_method_4_code 0 = .ok (.aload_n 0, 1) := by decide +kernel
theorem d4_1 : decode prog_21_method_4_code 1 = .ok (.getfield 38, 3) := by decide +kernel
theorem d4_4 : decode prog_21_method_4_code 4 = .ok (.aload_n 0, 1) := by decide +kernel
theorem d4_5 : decode prog_21_method_4_code 5 = .ok (.getfield 44, 3) := by decide +kernel
theorem d4_8 : decode prog_21_method_4_code 8 = .ok (.iadd, 1) := by decide +kernel
theorem d4_9 : decode prog_21_method_4_code 9 = .ok (.aload_n 0, 1) := by decide +kernel
theorem d4_10 : decode prog_21_method_4_code 10 = .ok (.getfield 47, 3) := by decide +kernel
theorem d4_13 : decode prog_21_method_4_code 13 = .ok (.iadd, 1) := by decide +kernel
theorem d4_14 : decode prog_21_method_4_code 14 = .ok (.aload_n 0, 1) := by decide +kernel
theorem d4_15 : decode prog_21_method_4_code 15 = .ok (.getfield 50, 3) := by decide +kernel
theorem d4_18 : decode prog_21_method_4_code 18 = .ok (.iadd, 1) := by decide +kernel
theorem d4_19 : decode prog_21_method_4_code 19 = .ok (.ireturn, 1) := by decide +kernel
theorem pn_4 : plainName "com/example/forkline/forkline/Tally" = true := by first | (simp [plainName, overriddenIn]; done) | decide +kernel
theorem ef_rm4 (m : MethodId) (a0 : Addr) : entryFrame m #[(.ref a0)] 1 = mkF m 0 #[.val (.ref a0)] [] := by first | (simp [entryFrame, mkF, argsToLocals, Value.category]; done) | rfl
def Qrm4 (Z : State) (a0 : Addr) (v0 : Int32) (v1 : Int32) (v2 : Int32) (v3 : Int32) (h0 : Heap) (n0 : Nat) (v : Option Value) (h : Heap) (L : List Loc) : Prop := v = some (.int (((v0 + v1) + v2) + v3)) ∧ Fr n0 L ∧ h = h0
set_option maxRecDepth 65536 in
set_option maxHeartbeats 40000000 in
theorem rm4 (l : Launch) (Z : State) (A0 : Array Value) (hw : ∀ d ∈ tables_1, d.before A0 Z = true) (ws : List Jvm.Cond) (a0 : Addr) (v0 : Int32) (v1 : Int32) (v2 : Int32) (v3 : Int32) (h0 : Heap) (n0 : Nat) (Z0 : n0 ≤ h0.size) (F_passed_a0 : Fld Z h0 a0 "com/example/forkline/forkline/Tally" "passed" "I" (.int v0)) (F_failed_a0 : Fld Z h0 a0 "com/example/forkline/forkline/Tally" "failed" "I" (.int v1)) (F_errors_a0 : Fld Z h0 a0 "com/example/forkline/forkline/Tally" "errors" "I" (.int v2)) (F_skipped_a0 : Fld Z h0 a0 "com/example/forkline/forkline/Tally" "skipped" "I" (.int v3)) :
    MetFree l (⟨"com/example/forkline/forkline/Tally", "tests", "()I"⟩ : MethodName) (head1 (Jvm.Cond.code (⟨"com/example/forkline/forkline/Tally", "tests", "()I"⟩ : MethodName) prog_21_method_4_code 1 (some .int) :: ws) ({ frames := 0, cells := 0, slots := 0, locals := 0 } : Room)) (fun a U => a = #[(.ref a0)] ∧ Z.Warmed39 U.vm ∧ U.heap = h0) (fun _ _ _ _ _ => True) (fun _ U o U' => ∃ v L, o = .returned v ∧ Qrm4 Z a0 v0 v1 v2 v3 h0 n0 v U'.heap L ∧ FrameEnd U o U' L ({ frames := 0, cells := 0, slots := 0, locals := 0 } : Room).cells ({ frames := 0, cells := 0, slots := 0, locals := 0 } : Room).slots) := by
  refine MetFree.of_bodySF (plainFor_of_name pn_4) hisR ?_
  intro p e s m args below meth c s₁ Bd hml0 hP hK
  obtain ⟨rfl, hZ, hh⟩ := hP
  have hx := Bd.exec
  have hby := Bd.bytes
  have hml : c.maxLocals = 1 := hml0
  have hown : s.vm.findClass "com/example/forkline/forkline/Tally" = some m.cls := findClass_of_methodNamed Bd.named
  have hnm := (name_of_methodNamed Bd.named Bd.method).1
  have X0 : Stand p l e ({ frames := 0, cells := 0, slots := 0, locals := 0 } : Room) s m #[(.ref a0)] below meth c s₁ [] 0 0 := Stand.of_body Bd
  have e0 : s₁.heap = h0 := by rw [← hh, Bd.state]; rfl
  have N0 := Fr.nil n0
  have K0 : Keep h0 h0 [] := Keep.refl _ _
  have pre0 : ∀ t, Steps p.tables e below (s₁.setTop (mkF m 0 #[.val (.ref a0)] [])) t → Steps p.tables e below (s₁.setTop (entryFrame m #[(.ref a0)] 1)) t := fun t k => castTop (ef_rm4 m a0) k
  obtain ⟨T1, X1, e1, st1⟩ := getF X0 hx hZ hown (host := "") (Or.inl (hw _ (List.mem_of_getElem? (i := 16) rfl))) Via.refl e0 F_passed_a0 (g := (mkF m 1 #[.val (.ref a0)] [(.ref a0)])) rfl rfl (hb hby d4_1)
  obtain ⟨T2, X2, e2, st2⟩ := getF X1 hx hZ hown (host := "") (Or.inl (hw _ (List.mem_of_getElem? (i := 18) rfl))) Via.refl e1 F_failed_a0 (g := (mkF m 5 #[.val (.ref a0)] [(.ref a0), (.int v0)])) rfl rfl (hb hby d4_5)
  obtain ⟨T3, X3, e3, st3⟩ := getF X2 hx hZ hown (host := "") (Or.inl (hw _ (List.mem_of_getElem? (i := 20) rfl))) Via.refl e2 F_errors_a0 (g := (mkF m 10 #[.val (.ref a0)] [(.ref a0), (.int (v0 + v1))])) rfl rfl (hb hby d4_10)
  obtain ⟨T4, X4, e4, st4⟩ := getF X3 hx hZ hown (host := "") (Or.inl (hw _ (List.mem_of_getElem? (i := 22) rfl))) Via.refl e3 F_skipped_a0 (g := (mkF m 15 #[.val (.ref a0)] [(.ref a0), (.int ((v0 + v1) + v2))])) rfl rfl (hb hby d4_15)
  obtain ⟨fs, hr, hrun, hended, hW, hsame⟩ := X4.leave (v := some (.int (((v0 + v1) + v2) + v3))) (fun h => by rw [Bd.returns] at h; cases h)
  refine ⟨_, _, pre0 _ ?_, hrun, hended, _, _, rfl, ?_, ⟨_, rfl⟩, hW, hsame.mono (by decide) (by decide)⟩
  · show Steps p.tables e below (s₁.setTop (mkF m 0 #[.val (.ref a0)] [])) _
    refine XS.aloadN X0.here hx rfl (hb hby d4_0) rfl rfl ?_
    show Steps p.tables e below (s₁.setTop (mkF m 1 #[.val (.ref a0)] [(.ref a0)])) _
    refine st1 _ ?_
    show Steps p.tables e below (T1.setTop (mkF m 4 #[.val (.ref a0)] [(.int v0)])) _
    refine XS.aloadN X1.here hx rfl (hb hby d4_4) rfl rfl ?_
    show Steps p.tables e below (T1.setTop (mkF m 5 #[.val (.ref a0)] [(.ref a0), (.int v0)])) _
    refine st2 _ ?_
    show Steps p.tables e below (T2.setTop (mkF m 8 #[.val (.ref a0)] [(.int v1), (.int v0)])) _
    refine XS.iadd X2.here hx rfl (hb hby d4_8) rfl ?_
    show Steps p.tables e below (T2.setTop (mkF m 9 #[.val (.ref a0)] [(.int (v0 + v1))])) _
    refine XS.aloadN X2.here hx rfl (hb hby d4_9) rfl rfl ?_
    show Steps p.tables e below (T2.setTop (mkF m 10 #[.val (.ref a0)] [(.ref a0), (.int (v0 + v1))])) _
    refine st3 _ ?_
    show Steps p.tables e below (T3.setTop (mkF m 13 #[.val (.ref a0)] [(.int v2), (.int (v0 + v1))])) _
    refine XS.iadd X3.here hx rfl (hb hby d4_13) rfl ?_
    show Steps p.tables e below (T3.setTop (mkF m 14 #[.val (.ref a0)] [(.int ((v0 + v1) + v2))])) _
    refine XS.aloadN X3.here hx rfl (hb hby d4_14) rfl rfl ?_
    show Steps p.tables e below (T3.setTop (mkF m 15 #[.val (.ref a0)] [(.ref a0), (.int ((v0 + v1) + v2))])) _
    refine st4 _ ?_
    show Steps p.tables e below (T4.setTop (mkF m 18 #[.val (.ref a0)] [(.int v3), (.int ((v0 + v1) + v2))])) _
    refine XS.iadd X4.here hx rfl (hb hby d4_18) rfl ?_
    show Steps p.tables e below (T4.setTop (mkF m 19 #[.val (.ref a0)] [(.int (((v0 + v1) + v2) + v3))])) _
    exact retI X4 hx Bd.returns (hb hby d4_19) hr
  · show Qrm4 Z a0 v0 v1 v2 v3 h0 n0 _ T4.heap _
    rw [e4]
    exact ⟨rfl, N0, rfl⟩
theorem own_r1 {a : Int64} (h : 0 ≤ a.toInt ∧ a.toInt ≤ 2147483647) : (((2147483647 : Int64) - a) + (1 : Int64)).toInt = (2147483647 - a.toInt) + 1 := by
  have x := c_lsub (2147483647 : Int64) a; have y := c_ladd ((2147483647 : Int64) - a) 1
  have u := rng64 ((2147483647 : Int64) - a); have v := rng64 (((2147483647 : Int64) - a) + (1 : Int64))
  rw [own_m64] at x; rw [own_1_64] at y; omega
theorem own_ls {x y : Int64} {a b : Int} (hx : x.toInt = a) (hy : y.toInt = b) (h : -4294967296 ≤ a - b ∧ a - b ≤ 4294967296) : (x - y).toInt = a - b := by
  have u := c_lsub x y; have v := rng64 (x - y); omega
theorem own_la {x y : Int64} {a b : Int} (hx : x.toInt = a) (hy : y.toInt = b) (h : -4294967296 ≤ a + b ∧ a + b ≤ 4294967296) : (x + y).toInt = a + b := by
  have u := c_ladd x y; have v := rng64 (x + y); omega
theorem own_r2 {a b : Int64} (h : 0 ≤ a.toInt ∧ 0 ≤ b.toInt ∧ a.toInt + b.toInt ≤ 2147483647) : ((((2147483647 : Int64) - a) - b) + (1 : Int64)).toInt = (2147483647 - a.toInt - b.toInt) + 1 :=
  own_la (own_ls (own_ls own_m64 rfl (by omega)) rfl (by omega)) own_1_64 (by omega)
theorem own_r3 {a b c : Int64} (h : 0 ≤ a.toInt ∧ 0 ≤ b.toInt ∧ 0 ≤ c.toInt ∧ a.toInt + b.toInt + c.toInt ≤ 2147483647) : (((((2147483647 : Int64) - a) - b) - c) + (1 : Int64)).toInt = (2147483647 - a.toInt - b.toInt - c.toInt) + 1 :=
  own_la (own_ls (own_ls (own_ls own_m64 rfl (by omega)) rfl (by omega)) rfl (by omega)) own_1_64 (by omega)
theorem own_ia {x y : Int32} {a b : Int} (hx : x.toInt = a) (hy : y.toInt = b) (h : -2147483648 ≤ a + b ∧ a + b ≤ 2147483647) : (x + y).toInt = a + b := by
  have u := c_iadd x y; have v := rng32 (x + y); omega
theorem own_fin {a b c d : Int64} (h : 0 ≤ a.toInt ∧ 0 ≤ b.toInt ∧ 0 ≤ c.toInt ∧ 0 ≤ d.toInt ∧ a.toInt + b.toInt + c.toInt + d.toInt ≤ 2147483647) : (((((a.toInt32) + (b.toInt32)) + (c.toInt32)) + (d.toInt32)).toInt64) = (((a + b) + c) + d) := by
  apply Int64.toInt_inj.mp; rw [c_i2l]
  have a1 := own_nn (a := a) (by omega); have b1 := own_nn (a := b) (by omega); have c1 := own_nn (a := c) (by omega); have d1 := own_nn (a := d) (by omega)
  rw [own_ia (own_ia (own_ia a1 b1 (by omega)) c1 (by omega)) d1 (by omega), own_la (own_la (own_la (x := a) (y := b) rfl rfl (by omega)) (y := c) rfl (by omega)) (y := d) rfl (by omega)]
theorem own_four {a b c d : Int64} (h : 0 ≤ a.toInt ∧ 0 ≤ b.toInt ∧ 0 ≤ c.toInt ∧ 0 ≤ d.toInt ∧ a.toInt + b.toInt + c.toInt + d.toInt ≤ 2147483647) : 0 ≤ (a.toInt32).toInt ∧ 0 ≤ (b.toInt32).toInt ∧ 0 ≤ (c.toInt32).toInt ∧ 0 ≤ (d.toInt32).toInt ∧ (a.toInt32).toInt + (b.toInt32).toInt + (c.toInt32).toInt + (d.toInt32).toInt ≤ 2147483647 := by
  have a1 := own_nn (a := a) (by omega); have b1 := own_nn (a := b) (by omega); have c1 := own_nn (a := c) (by omega); have d1 := own_nn (a := d) (by omega)
  omega
theorem pd_1 : parseMethodDescriptor "(IIII)V" = some ⟨[.int, .int, .int, .int], none⟩ := by decide +kernel
theorem pd_2 : parseMethodDescriptor "()I" = some ⟨[], some .int⟩ := by decide +kernel
theorem pn_0 : plainName "com/example/forkline/forkline/TallyTestsPinLaw" = true := by first | (simp [plainName, overriddenIn]; done) | decide +kernel
theorem ef_rm0 (m : MethodId) (p0 : Int32) (p1 : Int32) (p2 : Int32) (p3 : Int32) : entryFrame m #[(.int p0), (.int p1), (.int p2), (.int p3)] maxLocals = mkF m 0 #[.val (.int p0), .val (.int p1), .val (.int p2), .val (.int p3), .unset, .unset, .unset, .unset, .unset, .unset, .unset, .unset, .unset, .unset, .unset, .unset, .unset, .unset, .unset] [] := by first | (simp [entryFrame, mkF, argsToLocals, Value.category, maxLocals]; done) | rfl
def Qrm0 (Z : State) (p0 : Int32) (p1 : Int32) (p2 : Int32) (p3 : Int32) (h0 : Heap) (n0 : Nat) (v : Option Value) (h : Heap) (L : List Loc) : Prop := v = some (.int (1 : Int32)) ∧ Fr n0 L
set_option maxRecDepth 65536 in
set_option maxHeartbeats 40000000 in
theorem rm0 (l : Launch) (Z : State) (A0 : Array Value) (hw : ∀ d ∈ tables_1, d.before A0 Z = true) (ws : List Jvm.Cond) (p0 : Int32) (p1 : Int32) (p2 : Int32) (p3 : Int32) (h0 : Heap) (n0 : Nat) (Z0 : n0 ≤ h0.size) :
    MetFree l x (head1 (Jvm.Cond.code x code maxLocals ret :: ws) room_1) (fun a U => a = #[(.int p0), (.int p1), (.int p2), (.int p3)] ∧ Z.Warmed39 U.vm ∧ U.heap = h0) (fun _ _ _ _ _ => True) (fun _ U o U' => ∃ v L, o = .returned v ∧ Qrm0 Z p0 p1 p2 p3 h0 n0 v U'.heap L ∧ FrameEnd U o U' L room_1.cells room_1.slots) := by
  refine MetFree.of_bodySF (plainFor_of_name pn_0) hisR ?_
  intro p e s m args below meth c s₁ Bd hml0 hP hK
  obtain ⟨rfl, hZ, hh⟩ := hP
  have hx := Bd.exec
  have hby := Bd.bytes
  have hml : c.maxLocals = 19 := hml0
  have hown : s.vm.findClass "com/example/forkline/forkline/TallyTestsPinLaw" = some m.cls := findClass_of_methodNamed Bd.named
  have hnm := (name_of_methodNamed Bd.named Bd.method).1
  have X0 : Stand p l e room_1 s m #[(.int p0), (.int p1), (.int p2), (.int p3)] below meth c s₁ [] 0 0 := Stand.of_body Bd
  have e0 : s₁.heap = h0 := by rw [← hh, Bd.state]; rfl
  have N0 := Fr.nil n0
  have K0 : Keep h0 h0 [] := Keep.refl _ _
  have pre0 : ∀ t, Steps p.tables e below (s₁.setTop (mkF m 0 #[.val (.int p0), .val (.int p1), .val (.int p2), .val (.int p3), .unset, .unset, .unset, .unset, .unset, .unset, .unset, .unset, .unset, .unset, .unset, .unset, .unset, .unset, .unset] [])) t → Steps p.tables e below (s₁.setTop (entryFrame m #[(.int p0), (.int p1), (.int p2), (.int p3)] maxLocals)) t := fun t k => castTop (ef_rm0 m p0 p1 p2 p3) k
  obtain ⟨pp, h_pp⟩ : ∃ z : Int64, z = ((p0.toInt64) &&& (2147483647 : Int64)) := ⟨_, rfl⟩
  have Bp : 0 ≤ pp.toInt ∧ pp.toInt ≤ 2147483647 := h_pp ▸ own_mask _
  have R1 := own_rem (own_mask (p1.toInt64)) (own_r1 Bp) (by omega)
  obtain ⟨ff, h_ff⟩ : ∃ z : Int64, z = (((p1.toInt64) &&& (2147483647 : Int64)) % (((2147483647 : Int64) - pp) + (1 : Int64))) := ⟨_, rfl⟩
  have Bf : 0 ≤ ff.toInt ∧ ff.toInt ≤ 2147483647 - pp.toInt := h_ff ▸ R1.2
  have R2 := own_rem (own_mask (p2.toInt64)) (own_r2 (a := pp) (b := ff) (by omega)) (by omega)
  obtain ⟨ee, h_ee⟩ : ∃ z : Int64, z = (((p2.toInt64) &&& (2147483647 : Int64)) % ((((2147483647 : Int64) - pp) - ff) + (1 : Int64))) := ⟨_, rfl⟩
  have Be : 0 ≤ ee.toInt ∧ ee.toInt ≤ 2147483647 - pp.toInt - ff.toInt := h_ee ▸ R2.2
  have R3 := own_rem (own_mask (p3.toInt64)) (own_r3 (a := pp) (b := ff) (c := ee) (by omega)) (by omega)
  obtain ⟨ss, h_ss⟩ : ∃ z : Int64, z = (((p3.toInt64) &&& (2147483647 : Int64)) % (((((2147483647 : Int64) - pp) - ff) - ee) + (1 : Int64))) := ⟨_, rfl⟩
  have Bs : 0 ≤ ss.toInt ∧ ss.toInt ≤ 2147483647 - pp.toInt - ff.toInt - ee.toInt := h_ss ▸ R3.2
  have B4 : 0 ≤ pp.toInt ∧ 0 ≤ ff.toInt ∧ 0 ≤ ee.toInt ∧ 0 ≤ ss.toInt ∧ pp.toInt + ff.toInt + ee.toInt + ss.toInt ≤ 2147483647 := by omega
  obtain ⟨T1, h1, X1, e1, E1, A1, D1, -, st1⟩ := newO X0 hx hZ hown (hw _ (List.mem_of_getElem? (i := 1) rfl)) (hw _ (List.mem_of_getElem? (i := 2) rfl)) (hw _ (List.mem_of_getElem? (i := 3) rfl)) e0 (g := (mkF m 70 #[.val (.int p0), .val (.int p1), .val (.int p2), .val (.int p3), .val (.long (2147483647 : Int64)), .second, .val (.long pp), .second, .val (.long ff), .second, .val (.long ee), .second, .val (.long ss), .second, .unset, .unset, .unset, .unset, .unset] [])) rfl (hb hby at_70) (by decide) (by decide)
  obtain ⟨ty, g1⟩ : ∃ z, z = h0.size := ⟨_, rfl⟩
  rw [← g1] at A1 D1 st1
  have g_ty : n0 ≤ ty := Nat.le_trans Z0 (Nat.le_of_eq g1.symm)
  have sz_ty : h0.size ≤ ty := Nat.le_trans K0.1 (Nat.le_of_eq g1.symm)
  have Zh1 : n0 ≤ h1.size := Nat.le_trans Z0 E1.1
  have Kh1 : Keep h0 h1 [] := K0.ext E1
  have E_ty : Exa Z h1 ty "com/example/forkline/forkline/Tally" := A1
  have F_passed_ty : Fld Z h1 ty "com/example/forkline/forkline/Tally" "passed" "I" (.int (0 : Int32)) := D1 (Or.inr (hw _ (List.mem_of_getElem? (i := 17) rfl))) (ty := .int) (by decide)
  have F_failed_ty : Fld Z h1 ty "com/example/forkline/forkline/Tally" "failed" "I" (.int (0 : Int32)) := D1 (Or.inr (hw _ (List.mem_of_getElem? (i := 19) rfl))) (ty := .int) (by decide)
  have F_errors_ty : Fld Z h1 ty "com/example/forkline/forkline/Tally" "errors" "I" (.int (0 : Int32)) := D1 (Or.inr (hw _ (List.mem_of_getElem? (i := 21) rfl))) (ty := .int) (by decide)
  have F_skipped_ty : Fld Z h1 ty "com/example/forkline/forkline/Tally" "skipped" "I" (.int (0 : Int32)) := D1 (Or.inr (hw _ (List.mem_of_getElem? (i := 23) rfl))) (ty := .int) (by decide)
  obtain ⟨_, _, ⟨T2, L2, k2, n2⟩, -, X2, ⟨Lc2, hQ2, l2, y2, z2⟩, st2⟩ := X1.specialBack hx (y := (⟨"com/example/forkline/forkline/Tally", "<init>", "(IIII)V"⟩ : MethodName)) rfl hown (mvT hZ (hw _ (List.mem_of_getElem? (i := 4) rfl))) (mvT hZ (hw _ (List.mem_of_getElem? (i := 5) rfl))) (mvT hZ (hw _ (List.mem_of_getElem? (i := 6) rfl))) (by decide) (backOf (W := 1) (rm1 l Z A0 hw [] ty (pp.toInt32) (ff.toInt32) (ee.toInt32) (ss.toInt32) (.int (0 : Int32)) (.int (0 : Int32)) (.int (0 : Int32)) (.int (0 : Int32)) h1 n0 Zh1 E_ty F_passed_ty F_failed_ty F_errors_ty F_skipped_ty g_ty (own_four B4)) hZ (hw _ (List.mem_of_getElem? (i := 6) rfl)) (hw _ (List.mem_of_getElem? (i := 3) rfl)) (by decide) (by decide)) (g := (mkF m 86 #[.val (.int p0), .val (.int p1), .val (.int p2), .val (.int p3), .val (.long (2147483647 : Int64)), .second, .val (.long pp), .second, .val (.long ff), .second, .val (.long ee), .second, .val (.long ss), .second, .unset, .unset, .unset, .unset, .unset] [(.int (ss.toInt32)), (.int (ee.toInt32)), (.int (ff.toInt32)), (.int (pp.toInt32)), (.ref ty), (.ref ty)])) rfl (by rw [hml]; rfl) (Steps.refl _) (a := ty) (argsL := [(.int (pp.toInt32)), (.int (ff.toInt32)), (.int (ee.toInt32)), (.int (ss.toInt32))]) (rest := [(.ref ty)]) (lenOf pd_1 rfl) rfl (by show 2 * 0 + _ ≤ _; exact Nat.le_of_eq rfl) (hb hby at_86) (fun _ _ => ⟨rfl, e1, (by decide : 1 + 0 ≤ _), (by decide : 4 + 0 ≤ _)⟩)
  dsimp only [Pt.U, Pt.locs, Pt.cells, Pt.slots] at X2 l2 y2 z2 st2 hQ2
  subst l2 y2 z2
  obtain ⟨rfl, N2q, Kc2, P2_0, P2_1, P2_2, P2_3, P2_4⟩ := hQ2
  have N2 := Fr.app N0 N2q
  have E_ty : Exa Z T2.heap ty "com/example/forkline/forkline/Tally" := E_ty.keep Kc2
  have ZT2_heap : n0 ≤ T2.heap.size := Nat.le_trans Zh1 Kc2.1
  have KT2_heap : Keep h0 T2.heap [] := Kh1.trans Kc2 (allS (Or.inr sz_ty) all0)
  have E_ty : Exa Z T2.heap ty "com/example/forkline/forkline/Tally" := P2_0
  have F_passed_ty : Fld Z T2.heap ty "com/example/forkline/forkline/Tally" "passed" "I" (.int (pp.toInt32)) := P2_1
  have F_failed_ty : Fld Z T2.heap ty "com/example/forkline/forkline/Tally" "failed" "I" (.int (ff.toInt32)) := P2_2
  have F_errors_ty : Fld Z T2.heap ty "com/example/forkline/forkline/Tally" "errors" "I" (.int (ee.toInt32)) := P2_3
  have F_skipped_ty : Fld Z T2.heap ty "com/example/forkline/forkline/Tally" "skipped" "I" (.int (ss.toInt32)) := P2_4
  obtain ⟨cq3, kq3, q3a, q3b, q3c⟩ := isOf hZ rfl E_ty
  obtain ⟨_, _, ⟨T3, L3, k3, n3⟩, -, X3, ⟨Lc3, hQ3, l3, y3, z3⟩, st3⟩ := X2.virtualBack hx (y := (⟨"com/example/forkline/forkline/Tally", "tests", "()I"⟩ : MethodName)) (z := (⟨"com/example/forkline/forkline/Tally", "tests", "()I"⟩ : MethodName)) hown (mvT hZ (hw _ (List.mem_of_getElem? (i := 24) rfl))) (mvT hZ (hw _ (List.mem_of_getElem? (i := 25) rfl))) (notFace_of_selects (args := #[]) (mvT hZ (hw _ (List.mem_of_getElem? (i := 27) rfl)))) (mvT hZ (hw _ (List.mem_of_getElem? (i := 27) rfl))) (mvT hZ (hw _ (List.mem_of_getElem? (i := 26) rfl))) (by decide) (backOf (W := 0) (rm4 l Z A0 hw [] ty (pp.toInt32) (ff.toInt32) (ee.toInt32) (ss.toInt32) T2.heap n0 ZT2_heap F_passed_ty F_failed_ty F_errors_ty F_skipped_ty) hZ (hw _ (List.mem_of_getElem? (i := 28) rfl)) (hw _ (List.mem_of_getElem? (i := 3) rfl)) (by decide) (by decide)) q3a q3c (g := (mkF m 106 #[.val (.int p0), .val (.int p1), .val (.int p2), .val (.int p3), .val (.long (2147483647 : Int64)), .second, .val (.long pp), .second, .val (.long ff), .second, .val (.long ee), .second, .val (.long ss), .second, .val (.ref ty), .val (.long (((pp + ff) + ee) + ss)), .second, .unset, .unset] [(.ref ty)])) rfl (by rw [hml]; rfl) (Steps.refl _) (argsL := []) (rest := []) (lenOf pd_2 rfl) rfl (by show 2 * 0 + _ ≤ _; exact Nat.le_of_eq rfl) (hb hby at_106) (fun _ _ => ⟨rfl, rfl, (by decide : 1 + 0 ≤ _), (by decide : 4 + 0 ≤ _)⟩)
  dsimp only [Pt.U, Pt.locs, Pt.cells, Pt.slots] at X3 l3 y3 z3 st3 hQ3
  subst l3 y3 z3
  obtain ⟨rfl, N3q, eh3⟩ := hQ3
  have N3 := Fr.app N2 N3q
  obtain ⟨fs, hr, hrun, hended, hW, hsame⟩ := X3.leave (v := some (.int (1 : Int32))) (fun h => by rw [Bd.returns] at h; cases h)
  refine ⟨_, _, pre0 _ ?_, hrun, hended, _, _, rfl, ?_, ⟨_, rfl⟩, hW, hsame.mono (by decide) (by decide)⟩
  · show Steps p.tables e below (s₁.setTop (mkF m 0 #[.val (.int p0), .val (.int p1), .val (.int p2), .val (.int p3), .unset, .unset, .unset, .unset, .unset, .unset, .unset, .unset, .unset, .unset, .unset, .unset, .unset, .unset, .unset] [])) _
    refine X0.ldc2Long hx hown (mvT hZ (hw _ (List.mem_of_getElem? (i := 0) rfl))) (g := (mkF m 0 #[.val (.int p0), .val (.int p1), .val (.int p2), .val (.int p3), .unset, .unset, .unset, .unset, .unset, .unset, .unset, .unset, .unset, .unset, .unset, .unset, .unset, .unset, .unset] [])) rfl (hb hby at_0) _ ?_
    show Steps p.tables e below (s₁.setTop (mkF m 3 #[.val (.int p0), .val (.int p1), .val (.int p2), .val (.int p3), .unset, .unset, .unset, .unset, .unset, .unset, .unset, .unset, .unset, .unset, .unset, .unset, .unset, .unset, .unset] [(.long (2147483647 : Int64))])) _
    refine XS.lstore X0.here hx rfl (hb hby at_3) rfl (l' := #[.val (.int p0), .val (.int p1), .val (.int p2), .val (.int p3), .val (.long (2147483647 : Int64)), .second, .unset, .unset, .unset, .unset, .unset, .unset, .unset, .unset, .unset, .unset, .unset, .unset, .unset]) rfl ?_
    show Steps p.tables e below (s₁.setTop (mkF m 5 #[.val (.int p0), .val (.int p1), .val (.int p2), .val (.int p3), .val (.long (2147483647 : Int64)), .second, .unset, .unset, .unset, .unset, .unset, .unset, .unset, .unset, .unset, .unset, .unset, .unset, .unset] [])) _
    refine XS.iloadN X0.here hx rfl (hb hby at_5) rfl ?_
    show Steps p.tables e below (s₁.setTop (mkF m 6 #[.val (.int p0), .val (.int p1), .val (.int p2), .val (.int p3), .val (.long (2147483647 : Int64)), .second, .unset, .unset, .unset, .unset, .unset, .unset, .unset, .unset, .unset, .unset, .unset, .unset, .unset] [(.int p0)])) _
    refine XS.i2l X0.here hx rfl (hb hby at_6) rfl ?_
    show Steps p.tables e below (s₁.setTop (mkF m 7 #[.val (.int p0), .val (.int p1), .val (.int p2), .val (.int p3), .val (.long (2147483647 : Int64)), .second, .unset, .unset, .unset, .unset, .unset, .unset, .unset, .unset, .unset, .unset, .unset, .unset, .unset] [(.long (p0.toInt64))])) _
    refine X0.ldc2Long hx hown (mvT hZ (hw _ (List.mem_of_getElem? (i := 0) rfl))) (g := (mkF m 7 #[.val (.int p0), .val (.int p1), .val (.int p2), .val (.int p3), .val (.long (2147483647 : Int64)), .second, .unset, .unset, .unset, .unset, .unset, .unset, .unset, .unset, .unset, .unset, .unset, .unset, .unset] [(.long (p0.toInt64))])) rfl (hb hby at_7) _ ?_
    show Steps p.tables e below (s₁.setTop (mkF m 10 #[.val (.int p0), .val (.int p1), .val (.int p2), .val (.int p3), .val (.long (2147483647 : Int64)), .second, .unset, .unset, .unset, .unset, .unset, .unset, .unset, .unset, .unset, .unset, .unset, .unset, .unset] [(.long (2147483647 : Int64)), (.long (p0.toInt64))])) _
    refine XS.land X0.here hx rfl (hb hby at_10) rfl ?_
    show Steps p.tables e below (s₁.setTop (mkF m 11 #[.val (.int p0), .val (.int p1), .val (.int p2), .val (.int p3), .val (.long (2147483647 : Int64)), .second, .unset, .unset, .unset, .unset, .unset, .unset, .unset, .unset, .unset, .unset, .unset, .unset, .unset] [(.long ((p0.toInt64) &&& (2147483647 : Int64)))])) _
    rw [← h_pp]
    show Steps p.tables e below (s₁.setTop (mkF m 11 #[.val (.int p0), .val (.int p1), .val (.int p2), .val (.int p3), .val (.long (2147483647 : Int64)), .second, .unset, .unset, .unset, .unset, .unset, .unset, .unset, .unset, .unset, .unset, .unset, .unset, .unset] [(.long pp)])) _
    refine XS.lstore X0.here hx rfl (hb hby at_11) rfl (l' := #[.val (.int p0), .val (.int p1), .val (.int p2), .val (.int p3), .val (.long (2147483647 : Int64)), .second, .val (.long pp), .second, .unset, .unset, .unset, .unset, .unset, .unset, .unset, .unset, .unset, .unset, .unset]) rfl ?_
    show Steps p.tables e below (s₁.setTop (mkF m 13 #[.val (.int p0), .val (.int p1), .val (.int p2), .val (.int p3), .val (.long (2147483647 : Int64)), .second, .val (.long pp), .second, .unset, .unset, .unset, .unset, .unset, .unset, .unset, .unset, .unset, .unset, .unset] [])) _
    refine XS.iloadN X0.here hx rfl (hb hby at_13) rfl ?_
    show Steps p.tables e below (s₁.setTop (mkF m 14 #[.val (.int p0), .val (.int p1), .val (.int p2), .val (.int p3), .val (.long (2147483647 : Int64)), .second, .val (.long pp), .second, .unset, .unset, .unset, .unset, .unset, .unset, .unset, .unset, .unset, .unset, .unset] [(.int p1)])) _
    refine XS.i2l X0.here hx rfl (hb hby at_14) rfl ?_
    show Steps p.tables e below (s₁.setTop (mkF m 15 #[.val (.int p0), .val (.int p1), .val (.int p2), .val (.int p3), .val (.long (2147483647 : Int64)), .second, .val (.long pp), .second, .unset, .unset, .unset, .unset, .unset, .unset, .unset, .unset, .unset, .unset, .unset] [(.long (p1.toInt64))])) _
    refine X0.ldc2Long hx hown (mvT hZ (hw _ (List.mem_of_getElem? (i := 0) rfl))) (g := (mkF m 15 #[.val (.int p0), .val (.int p1), .val (.int p2), .val (.int p3), .val (.long (2147483647 : Int64)), .second, .val (.long pp), .second, .unset, .unset, .unset, .unset, .unset, .unset, .unset, .unset, .unset, .unset, .unset] [(.long (p1.toInt64))])) rfl (hb hby at_15) _ ?_
    show Steps p.tables e below (s₁.setTop (mkF m 18 #[.val (.int p0), .val (.int p1), .val (.int p2), .val (.int p3), .val (.long (2147483647 : Int64)), .second, .val (.long pp), .second, .unset, .unset, .unset, .unset, .unset, .unset, .unset, .unset, .unset, .unset, .unset] [(.long (2147483647 : Int64)), (.long (p1.toInt64))])) _
    refine XS.land X0.here hx rfl (hb hby at_18) rfl ?_
    show Steps p.tables e below (s₁.setTop (mkF m 19 #[.val (.int p0), .val (.int p1), .val (.int p2), .val (.int p3), .val (.long (2147483647 : Int64)), .second, .val (.long pp), .second, .unset, .unset, .unset, .unset, .unset, .unset, .unset, .unset, .unset, .unset, .unset] [(.long ((p1.toInt64) &&& (2147483647 : Int64)))])) _
    refine XS.lload X0.here hx rfl (hb hby at_19) rfl ?_
    show Steps p.tables e below (s₁.setTop (mkF m 21 #[.val (.int p0), .val (.int p1), .val (.int p2), .val (.int p3), .val (.long (2147483647 : Int64)), .second, .val (.long pp), .second, .unset, .unset, .unset, .unset, .unset, .unset, .unset, .unset, .unset, .unset, .unset] [(.long (2147483647 : Int64)), (.long ((p1.toInt64) &&& (2147483647 : Int64)))])) _
    refine XS.lload X0.here hx rfl (hb hby at_21) rfl ?_
    show Steps p.tables e below (s₁.setTop (mkF m 23 #[.val (.int p0), .val (.int p1), .val (.int p2), .val (.int p3), .val (.long (2147483647 : Int64)), .second, .val (.long pp), .second, .unset, .unset, .unset, .unset, .unset, .unset, .unset, .unset, .unset, .unset, .unset] [(.long pp), (.long (2147483647 : Int64)), (.long ((p1.toInt64) &&& (2147483647 : Int64)))])) _
    refine XS.lsub X0.here hx rfl (hb hby at_23) rfl ?_
    show Steps p.tables e below (s₁.setTop (mkF m 24 #[.val (.int p0), .val (.int p1), .val (.int p2), .val (.int p3), .val (.long (2147483647 : Int64)), .second, .val (.long pp), .second, .unset, .unset, .unset, .unset, .unset, .unset, .unset, .unset, .unset, .unset, .unset] [(.long ((2147483647 : Int64) - pp)), (.long ((p1.toInt64) &&& (2147483647 : Int64)))])) _
    refine XS.lconst X0.here hx rfl (hb hby at_24) ?_
    show Steps p.tables e below (s₁.setTop (mkF m 25 #[.val (.int p0), .val (.int p1), .val (.int p2), .val (.int p3), .val (.long (2147483647 : Int64)), .second, .val (.long pp), .second, .unset, .unset, .unset, .unset, .unset, .unset, .unset, .unset, .unset, .unset, .unset] [(.long (1 : Int64)), (.long ((2147483647 : Int64) - pp)), (.long ((p1.toInt64) &&& (2147483647 : Int64)))])) _
    refine XS.ladd X0.here hx rfl (hb hby at_25) rfl ?_
    show Steps p.tables e below (s₁.setTop (mkF m 26 #[.val (.int p0), .val (.int p1), .val (.int p2), .val (.int p3), .val (.long (2147483647 : Int64)), .second, .val (.long pp), .second, .unset, .unset, .unset, .unset, .unset, .unset, .unset, .unset, .unset, .unset, .unset] [(.long (((2147483647 : Int64) - pp) + (1 : Int64))), (.long ((p1.toInt64) &&& (2147483647 : Int64)))])) _
    refine own_lrem X0 hx rfl (hb hby at_26) rfl R1.1 ?_
    show Steps p.tables e below (s₁.setTop (mkF m 27 #[.val (.int p0), .val (.int p1), .val (.int p2), .val (.int p3), .val (.long (2147483647 : Int64)), .second, .val (.long pp), .second, .unset, .unset, .unset, .unset, .unset, .unset, .unset, .unset, .unset, .unset, .unset] [(.long (((p1.toInt64) &&& (2147483647 : Int64)) % (((2147483647 : Int64) - pp) + (1 : Int64))))])) _
    rw [← h_ff]
    show Steps p.tables e below (s₁.setTop (mkF m 27 #[.val (.int p0), .val (.int p1), .val (.int p2), .val (.int p3), .val (.long (2147483647 : Int64)), .second, .val (.long pp), .second, .unset, .unset, .unset, .unset, .unset, .unset, .unset, .unset, .unset, .unset, .unset] [(.long ff)])) _
    refine XS.lstore X0.here hx rfl (hb hby at_27) rfl (l' := #[.val (.int p0), .val (.int p1), .val (.int p2), .val (.int p3), .val (.long (2147483647 : Int64)), .second, .val (.long pp), .second, .val (.long ff), .second, .unset, .unset, .unset, .unset, .unset, .unset, .unset, .unset, .unset]) rfl ?_
    show Steps p.tables e below (s₁.setTop (mkF m 29 #[.val (.int p0), .val (.int p1), .val (.int p2), .val (.int p3), .val (.long (2147483647 : Int64)), .second, .val (.long pp), .second, .val (.long ff), .second, .unset, .unset, .unset, .unset, .unset, .unset, .unset, .unset, .unset] [])) _
    refine XS.iloadN X0.here hx rfl (hb hby at_29) rfl ?_
    show Steps p.tables e below (s₁.setTop (mkF m 30 #[.val (.int p0), .val (.int p1), .val (.int p2), .val (.int p3), .val (.long (2147483647 : Int64)), .second, .val (.long pp), .second, .val (.long ff), .second, .unset, .unset, .unset, .unset, .unset, .unset, .unset, .unset, .unset] [(.int p2)])) _
    refine XS.i2l X0.here hx rfl (hb hby at_30) rfl ?_
    show Steps p.tables e below (s₁.setTop (mkF m 31 #[.val (.int p0), .val (.int p1), .val (.int p2), .val (.int p3), .val (.long (2147483647 : Int64)), .second, .val (.long pp), .second, .val (.long ff), .second, .unset, .unset, .unset, .unset, .unset, .unset, .unset, .unset, .unset] [(.long (p2.toInt64))])) _
    refine X0.ldc2Long hx hown (mvT hZ (hw _ (List.mem_of_getElem? (i := 0) rfl))) (g := (mkF m 31 #[.val (.int p0), .val (.int p1), .val (.int p2), .val (.int p3), .val (.long (2147483647 : Int64)), .second, .val (.long pp), .second, .val (.long ff), .second, .unset, .unset, .unset, .unset, .unset, .unset, .unset, .unset, .unset] [(.long (p2.toInt64))])) rfl (hb hby at_31) _ ?_
    show Steps p.tables e below (s₁.setTop (mkF m 34 #[.val (.int p0), .val (.int p1), .val (.int p2), .val (.int p3), .val (.long (2147483647 : Int64)), .second, .val (.long pp), .second, .val (.long ff), .second, .unset, .unset, .unset, .unset, .unset, .unset, .unset, .unset, .unset] [(.long (2147483647 : Int64)), (.long (p2.toInt64))])) _
    refine XS.land X0.here hx rfl (hb hby at_34) rfl ?_
    show Steps p.tables e below (s₁.setTop (mkF m 35 #[.val (.int p0), .val (.int p1), .val (.int p2), .val (.int p3), .val (.long (2147483647 : Int64)), .second, .val (.long pp), .second, .val (.long ff), .second, .unset, .unset, .unset, .unset, .unset, .unset, .unset, .unset, .unset] [(.long ((p2.toInt64) &&& (2147483647 : Int64)))])) _
    refine XS.lload X0.here hx rfl (hb hby at_35) rfl ?_
    show Steps p.tables e below (s₁.setTop (mkF m 37 #[.val (.int p0), .val (.int p1), .val (.int p2), .val (.int p3), .val (.long (2147483647 : Int64)), .second, .val (.long pp), .second, .val (.long ff), .second, .unset, .unset, .unset, .unset, .unset, .unset, .unset, .unset, .unset] [(.long (2147483647 : Int64)), (.long ((p2.toInt64) &&& (2147483647 : Int64)))])) _
    refine XS.lload X0.here hx rfl (hb hby at_37) rfl ?_
    show Steps p.tables e below (s₁.setTop (mkF m 39 #[.val (.int p0), .val (.int p1), .val (.int p2), .val (.int p3), .val (.long (2147483647 : Int64)), .second, .val (.long pp), .second, .val (.long ff), .second, .unset, .unset, .unset, .unset, .unset, .unset, .unset, .unset, .unset] [(.long pp), (.long (2147483647 : Int64)), (.long ((p2.toInt64) &&& (2147483647 : Int64)))])) _
    refine XS.lsub X0.here hx rfl (hb hby at_39) rfl ?_
    show Steps p.tables e below (s₁.setTop (mkF m 40 #[.val (.int p0), .val (.int p1), .val (.int p2), .val (.int p3), .val (.long (2147483647 : Int64)), .second, .val (.long pp), .second, .val (.long ff), .second, .unset, .unset, .unset, .unset, .unset, .unset, .unset, .unset, .unset] [(.long ((2147483647 : Int64) - pp)), (.long ((p2.toInt64) &&& (2147483647 : Int64)))])) _
    refine XS.lload X0.here hx rfl (hb hby at_40) rfl ?_
    show Steps p.tables e below (s₁.setTop (mkF m 42 #[.val (.int p0), .val (.int p1), .val (.int p2), .val (.int p3), .val (.long (2147483647 : Int64)), .second, .val (.long pp), .second, .val (.long ff), .second, .unset, .unset, .unset, .unset, .unset, .unset, .unset, .unset, .unset] [(.long ff), (.long ((2147483647 : Int64) - pp)), (.long ((p2.toInt64) &&& (2147483647 : Int64)))])) _
    refine XS.lsub X0.here hx rfl (hb hby at_42) rfl ?_
    show Steps p.tables e below (s₁.setTop (mkF m 43 #[.val (.int p0), .val (.int p1), .val (.int p2), .val (.int p3), .val (.long (2147483647 : Int64)), .second, .val (.long pp), .second, .val (.long ff), .second, .unset, .unset, .unset, .unset, .unset, .unset, .unset, .unset, .unset] [(.long (((2147483647 : Int64) - pp) - ff)), (.long ((p2.toInt64) &&& (2147483647 : Int64)))])) _
    refine XS.lconst X0.here hx rfl (hb hby at_43) ?_
    show Steps p.tables e below (s₁.setTop (mkF m 44 #[.val (.int p0), .val (.int p1), .val (.int p2), .val (.int p3), .val (.long (2147483647 : Int64)), .second, .val (.long pp), .second, .val (.long ff), .second, .unset, .unset, .unset, .unset, .unset, .unset, .unset, .unset, .unset] [(.long (1 : Int64)), (.long (((2147483647 : Int64) - pp) - ff)), (.long ((p2.toInt64) &&& (2147483647 : Int64)))])) _
    refine XS.ladd X0.here hx rfl (hb hby at_44) rfl ?_
    show Steps p.tables e below (s₁.setTop (mkF m 45 #[.val (.int p0), .val (.int p1), .val (.int p2), .val (.int p3), .val (.long (2147483647 : Int64)), .second, .val (.long pp), .second, .val (.long ff), .second, .unset, .unset, .unset, .unset, .unset, .unset, .unset, .unset, .unset] [(.long ((((2147483647 : Int64) - pp) - ff) + (1 : Int64))), (.long ((p2.toInt64) &&& (2147483647 : Int64)))])) _
    refine own_lrem X0 hx rfl (hb hby at_45) rfl R2.1 ?_
    show Steps p.tables e below (s₁.setTop (mkF m 46 #[.val (.int p0), .val (.int p1), .val (.int p2), .val (.int p3), .val (.long (2147483647 : Int64)), .second, .val (.long pp), .second, .val (.long ff), .second, .unset, .unset, .unset, .unset, .unset, .unset, .unset, .unset, .unset] [(.long (((p2.toInt64) &&& (2147483647 : Int64)) % ((((2147483647 : Int64) - pp) - ff) + (1 : Int64))))])) _
    rw [← h_ee]
    show Steps p.tables e below (s₁.setTop (mkF m 46 #[.val (.int p0), .val (.int p1), .val (.int p2), .val (.int p3), .val (.long (2147483647 : Int64)), .second, .val (.long pp), .second, .val (.long ff), .second, .unset, .unset, .unset, .unset, .unset, .unset, .unset, .unset, .unset] [(.long ee)])) _
    refine XS.lstore X0.here hx rfl (hb hby at_46) rfl (l' := #[.val (.int p0), .val (.int p1), .val (.int p2), .val (.int p3), .val (.long (2147483647 : Int64)), .second, .val (.long pp), .second, .val (.long ff), .second, .val (.long ee), .second, .unset, .unset, .unset, .unset, .unset, .unset, .unset]) rfl ?_
    show Steps p.tables e below (s₁.setTop (mkF m 48 #[.val (.int p0), .val (.int p1), .val (.int p2), .val (.int p3), .val (.long (2147483647 : Int64)), .second, .val (.long pp), .second, .val (.long ff), .second, .val (.long ee), .second, .unset, .unset, .unset, .unset, .unset, .unset, .unset] [])) _
    refine XS.iloadN X0.here hx rfl (hb hby at_48) rfl ?_
    show Steps p.tables e below (s₁.setTop (mkF m 49 #[.val (.int p0), .val (.int p1), .val (.int p2), .val (.int p3), .val (.long (2147483647 : Int64)), .second, .val (.long pp), .second, .val (.long ff), .second, .val (.long ee), .second, .unset, .unset, .unset, .unset, .unset, .unset, .unset] [(.int p3)])) _
    refine XS.i2l X0.here hx rfl (hb hby at_49) rfl ?_
    show Steps p.tables e below (s₁.setTop (mkF m 50 #[.val (.int p0), .val (.int p1), .val (.int p2), .val (.int p3), .val (.long (2147483647 : Int64)), .second, .val (.long pp), .second, .val (.long ff), .second, .val (.long ee), .second, .unset, .unset, .unset, .unset, .unset, .unset, .unset] [(.long (p3.toInt64))])) _
    refine X0.ldc2Long hx hown (mvT hZ (hw _ (List.mem_of_getElem? (i := 0) rfl))) (g := (mkF m 50 #[.val (.int p0), .val (.int p1), .val (.int p2), .val (.int p3), .val (.long (2147483647 : Int64)), .second, .val (.long pp), .second, .val (.long ff), .second, .val (.long ee), .second, .unset, .unset, .unset, .unset, .unset, .unset, .unset] [(.long (p3.toInt64))])) rfl (hb hby at_50) _ ?_
    show Steps p.tables e below (s₁.setTop (mkF m 53 #[.val (.int p0), .val (.int p1), .val (.int p2), .val (.int p3), .val (.long (2147483647 : Int64)), .second, .val (.long pp), .second, .val (.long ff), .second, .val (.long ee), .second, .unset, .unset, .unset, .unset, .unset, .unset, .unset] [(.long (2147483647 : Int64)), (.long (p3.toInt64))])) _
    refine XS.land X0.here hx rfl (hb hby at_53) rfl ?_
    show Steps p.tables e below (s₁.setTop (mkF m 54 #[.val (.int p0), .val (.int p1), .val (.int p2), .val (.int p3), .val (.long (2147483647 : Int64)), .second, .val (.long pp), .second, .val (.long ff), .second, .val (.long ee), .second, .unset, .unset, .unset, .unset, .unset, .unset, .unset] [(.long ((p3.toInt64) &&& (2147483647 : Int64)))])) _
    refine XS.lload X0.here hx rfl (hb hby at_54) rfl ?_
    show Steps p.tables e below (s₁.setTop (mkF m 56 #[.val (.int p0), .val (.int p1), .val (.int p2), .val (.int p3), .val (.long (2147483647 : Int64)), .second, .val (.long pp), .second, .val (.long ff), .second, .val (.long ee), .second, .unset, .unset, .unset, .unset, .unset, .unset, .unset] [(.long (2147483647 : Int64)), (.long ((p3.toInt64) &&& (2147483647 : Int64)))])) _
    refine XS.lload X0.here hx rfl (hb hby at_56) rfl ?_
    show Steps p.tables e below (s₁.setTop (mkF m 58 #[.val (.int p0), .val (.int p1), .val (.int p2), .val (.int p3), .val (.long (2147483647 : Int64)), .second, .val (.long pp), .second, .val (.long ff), .second, .val (.long ee), .second, .unset, .unset, .unset, .unset, .unset, .unset, .unset] [(.long pp), (.long (2147483647 : Int64)), (.long ((p3.toInt64) &&& (2147483647 : Int64)))])) _
    refine XS.lsub X0.here hx rfl (hb hby at_58) rfl ?_
    show Steps p.tables e below (s₁.setTop (mkF m 59 #[.val (.int p0), .val (.int p1), .val (.int p2), .val (.int p3), .val (.long (2147483647 : Int64)), .second, .val (.long pp), .second, .val (.long ff), .second, .val (.long ee), .second, .unset, .unset, .unset, .unset, .unset, .unset, .unset] [(.long ((2147483647 : Int64) - pp)), (.long ((p3.toInt64) &&& (2147483647 : Int64)))])) _
    refine XS.lload X0.here hx rfl (hb hby at_59) rfl ?_
    show Steps p.tables e below (s₁.setTop (mkF m 61 #[.val (.int p0), .val (.int p1), .val (.int p2), .val (.int p3), .val (.long (2147483647 : Int64)), .second, .val (.long pp), .second, .val (.long ff), .second, .val (.long ee), .second, .unset, .unset, .unset, .unset, .unset, .unset, .unset] [(.long ff), (.long ((2147483647 : Int64) - pp)), (.long ((p3.toInt64) &&& (2147483647 : Int64)))])) _
    refine XS.lsub X0.here hx rfl (hb hby at_61) rfl ?_
    show Steps p.tables e below (s₁.setTop (mkF m 62 #[.val (.int p0), .val (.int p1), .val (.int p2), .val (.int p3), .val (.long (2147483647 : Int64)), .second, .val (.long pp), .second, .val (.long ff), .second, .val (.long ee), .second, .unset, .unset, .unset, .unset, .unset, .unset, .unset] [(.long (((2147483647 : Int64) - pp) - ff)), (.long ((p3.toInt64) &&& (2147483647 : Int64)))])) _
    refine XS.lload X0.here hx rfl (hb hby at_62) rfl ?_
    show Steps p.tables e below (s₁.setTop (mkF m 64 #[.val (.int p0), .val (.int p1), .val (.int p2), .val (.int p3), .val (.long (2147483647 : Int64)), .second, .val (.long pp), .second, .val (.long ff), .second, .val (.long ee), .second, .unset, .unset, .unset, .unset, .unset, .unset, .unset] [(.long ee), (.long (((2147483647 : Int64) - pp) - ff)), (.long ((p3.toInt64) &&& (2147483647 : Int64)))])) _
    refine XS.lsub X0.here hx rfl (hb hby at_64) rfl ?_
    show Steps p.tables e below (s₁.setTop (mkF m 65 #[.val (.int p0), .val (.int p1), .val (.int p2), .val (.int p3), .val (.long (2147483647 : Int64)), .second, .val (.long pp), .second, .val (.long ff), .second, .val (.long ee), .second, .unset, .unset, .unset, .unset, .unset, .unset, .unset] [(.long ((((2147483647 : Int64) - pp) - ff) - ee)), (.long ((p3.toInt64) &&& (2147483647 : Int64)))])) _
    refine XS.lconst X0.here hx rfl (hb hby at_65) ?_
    show Steps p.tables e below (s₁.setTop (mkF m 66 #[.val (.int p0), .val (.int p1), .val (.int p2), .val (.int p3), .val (.long (2147483647 : Int64)), .second, .val (.long pp), .second, .val (.long ff), .second, .val (.long ee), .second, .unset, .unset, .unset, .unset, .unset, .unset, .unset] [(.long (1 : Int64)), (.long ((((2147483647 : Int64) - pp) - ff) - ee)), (.long ((p3.toInt64) &&& (2147483647 : Int64)))])) _
    refine XS.ladd X0.here hx rfl (hb hby at_66) rfl ?_
    show Steps p.tables e below (s₁.setTop (mkF m 67 #[.val (.int p0), .val (.int p1), .val (.int p2), .val (.int p3), .val (.long (2147483647 : Int64)), .second, .val (.long pp), .second, .val (.long ff), .second, .val (.long ee), .second, .unset, .unset, .unset, .unset, .unset, .unset, .unset] [(.long (((((2147483647 : Int64) - pp) - ff) - ee) + (1 : Int64))), (.long ((p3.toInt64) &&& (2147483647 : Int64)))])) _
    refine own_lrem X0 hx rfl (hb hby at_67) rfl R3.1 ?_
    show Steps p.tables e below (s₁.setTop (mkF m 68 #[.val (.int p0), .val (.int p1), .val (.int p2), .val (.int p3), .val (.long (2147483647 : Int64)), .second, .val (.long pp), .second, .val (.long ff), .second, .val (.long ee), .second, .unset, .unset, .unset, .unset, .unset, .unset, .unset] [(.long (((p3.toInt64) &&& (2147483647 : Int64)) % (((((2147483647 : Int64) - pp) - ff) - ee) + (1 : Int64))))])) _
    rw [← h_ss]
    show Steps p.tables e below (s₁.setTop (mkF m 68 #[.val (.int p0), .val (.int p1), .val (.int p2), .val (.int p3), .val (.long (2147483647 : Int64)), .second, .val (.long pp), .second, .val (.long ff), .second, .val (.long ee), .second, .unset, .unset, .unset, .unset, .unset, .unset, .unset] [(.long ss)])) _
    refine XS.lstore X0.here hx rfl (hb hby at_68) rfl (l' := #[.val (.int p0), .val (.int p1), .val (.int p2), .val (.int p3), .val (.long (2147483647 : Int64)), .second, .val (.long pp), .second, .val (.long ff), .second, .val (.long ee), .second, .val (.long ss), .second, .unset, .unset, .unset, .unset, .unset]) rfl ?_
    show Steps p.tables e below (s₁.setTop (mkF m 70 #[.val (.int p0), .val (.int p1), .val (.int p2), .val (.int p3), .val (.long (2147483647 : Int64)), .second, .val (.long pp), .second, .val (.long ff), .second, .val (.long ee), .second, .val (.long ss), .second, .unset, .unset, .unset, .unset, .unset] [])) _
    refine st1 _ ?_
    show Steps p.tables e below (T1.setTop (mkF m 73 #[.val (.int p0), .val (.int p1), .val (.int p2), .val (.int p3), .val (.long (2147483647 : Int64)), .second, .val (.long pp), .second, .val (.long ff), .second, .val (.long ee), .second, .val (.long ss), .second, .unset, .unset, .unset, .unset, .unset] [(.ref ty)])) _
    refine XS.dup X1.here hx rfl (hb hby at_73) rfl rfl ?_
    show Steps p.tables e below (T1.setTop (mkF m 74 #[.val (.int p0), .val (.int p1), .val (.int p2), .val (.int p3), .val (.long (2147483647 : Int64)), .second, .val (.long pp), .second, .val (.long ff), .second, .val (.long ee), .second, .val (.long ss), .second, .unset, .unset, .unset, .unset, .unset] [(.ref ty), (.ref ty)])) _
    refine XS.lload X1.here hx rfl (hb hby at_74) rfl ?_
    show Steps p.tables e below (T1.setTop (mkF m 76 #[.val (.int p0), .val (.int p1), .val (.int p2), .val (.int p3), .val (.long (2147483647 : Int64)), .second, .val (.long pp), .second, .val (.long ff), .second, .val (.long ee), .second, .val (.long ss), .second, .unset, .unset, .unset, .unset, .unset] [(.long pp), (.ref ty), (.ref ty)])) _
    refine XS.l2i X1.here hx rfl (hb hby at_76) rfl ?_
    show Steps p.tables e below (T1.setTop (mkF m 77 #[.val (.int p0), .val (.int p1), .val (.int p2), .val (.int p3), .val (.long (2147483647 : Int64)), .second, .val (.long pp), .second, .val (.long ff), .second, .val (.long ee), .second, .val (.long ss), .second, .unset, .unset, .unset, .unset, .unset] [(.int (pp.toInt32)), (.ref ty), (.ref ty)])) _
    refine XS.lload X1.here hx rfl (hb hby at_77) rfl ?_
    show Steps p.tables e below (T1.setTop (mkF m 79 #[.val (.int p0), .val (.int p1), .val (.int p2), .val (.int p3), .val (.long (2147483647 : Int64)), .second, .val (.long pp), .second, .val (.long ff), .second, .val (.long ee), .second, .val (.long ss), .second, .unset, .unset, .unset, .unset, .unset] [(.long ff), (.int (pp.toInt32)), (.ref ty), (.ref ty)])) _
    refine XS.l2i X1.here hx rfl (hb hby at_79) rfl ?_
    show Steps p.tables e below (T1.setTop (mkF m 80 #[.val (.int p0), .val (.int p1), .val (.int p2), .val (.int p3), .val (.long (2147483647 : Int64)), .second, .val (.long pp), .second, .val (.long ff), .second, .val (.long ee), .second, .val (.long ss), .second, .unset, .unset, .unset, .unset, .unset] [(.int (ff.toInt32)), (.int (pp.toInt32)), (.ref ty), (.ref ty)])) _
    refine XS.lload X1.here hx rfl (hb hby at_80) rfl ?_
    show Steps p.tables e below (T1.setTop (mkF m 82 #[.val (.int p0), .val (.int p1), .val (.int p2), .val (.int p3), .val (.long (2147483647 : Int64)), .second, .val (.long pp), .second, .val (.long ff), .second, .val (.long ee), .second, .val (.long ss), .second, .unset, .unset, .unset, .unset, .unset] [(.long ee), (.int (ff.toInt32)), (.int (pp.toInt32)), (.ref ty), (.ref ty)])) _
    refine XS.l2i X1.here hx rfl (hb hby at_82) rfl ?_
    show Steps p.tables e below (T1.setTop (mkF m 83 #[.val (.int p0), .val (.int p1), .val (.int p2), .val (.int p3), .val (.long (2147483647 : Int64)), .second, .val (.long pp), .second, .val (.long ff), .second, .val (.long ee), .second, .val (.long ss), .second, .unset, .unset, .unset, .unset, .unset] [(.int (ee.toInt32)), (.int (ff.toInt32)), (.int (pp.toInt32)), (.ref ty), (.ref ty)])) _
    refine XS.lload X1.here hx rfl (hb hby at_83) rfl ?_
    show Steps p.tables e below (T1.setTop (mkF m 85 #[.val (.int p0), .val (.int p1), .val (.int p2), .val (.int p3), .val (.long (2147483647 : Int64)), .second, .val (.long pp), .second, .val (.long ff), .second, .val (.long ee), .second, .val (.long ss), .second, .unset, .unset, .unset, .unset, .unset] [(.long ss), (.int (ee.toInt32)), (.int (ff.toInt32)), (.int (pp.toInt32)), (.ref ty), (.ref ty)])) _
    refine XS.l2i X1.here hx rfl (hb hby at_85) rfl ?_
    show Steps p.tables e below (T1.setTop (mkF m 86 #[.val (.int p0), .val (.int p1), .val (.int p2), .val (.int p3), .val (.long (2147483647 : Int64)), .second, .val (.long pp), .second, .val (.long ff), .second, .val (.long ee), .second, .val (.long ss), .second, .unset, .unset, .unset, .unset, .unset] [(.int (ss.toInt32)), (.int (ee.toInt32)), (.int (ff.toInt32)), (.int (pp.toInt32)), (.ref ty), (.ref ty)])) _
    refine st2.trans ?_
    show Steps p.tables e below (T2.setTop (mkF m 89 #[.val (.int p0), .val (.int p1), .val (.int p2), .val (.int p3), .val (.long (2147483647 : Int64)), .second, .val (.long pp), .second, .val (.long ff), .second, .val (.long ee), .second, .val (.long ss), .second, .unset, .unset, .unset, .unset, .unset] [(.ref ty)])) _
    refine XS.astore X2.here hx rfl (hb hby at_89) rfl rfl (l' := #[.val (.int p0), .val (.int p1), .val (.int p2), .val (.int p3), .val (.long (2147483647 : Int64)), .second, .val (.long pp), .second, .val (.long ff), .second, .val (.long ee), .second, .val (.long ss), .second, .val (.ref ty), .unset, .unset, .unset, .unset]) rfl ?_
    show Steps p.tables e below (T2.setTop (mkF m 91 #[.val (.int p0), .val (.int p1), .val (.int p2), .val (.int p3), .val (.long (2147483647 : Int64)), .second, .val (.long pp), .second, .val (.long ff), .second, .val (.long ee), .second, .val (.long ss), .second, .val (.ref ty), .unset, .unset, .unset, .unset] [])) _
    refine XS.lload X2.here hx rfl (hb hby at_91) rfl ?_
    show Steps p.tables e below (T2.setTop (mkF m 93 #[.val (.int p0), .val (.int p1), .val (.int p2), .val (.int p3), .val (.long (2147483647 : Int64)), .second, .val (.long pp), .second, .val (.long ff), .second, .val (.long ee), .second, .val (.long ss), .second, .val (.ref ty), .unset, .unset, .unset, .unset] [(.long pp)])) _
    refine XS.lload X2.here hx rfl (hb hby at_93) rfl ?_
    show Steps p.tables e below (T2.setTop (mkF m 95 #[.val (.int p0), .val (.int p1), .val (.int p2), .val (.int p3), .val (.long (2147483647 : Int64)), .second, .val (.long pp), .second, .val (.long ff), .second, .val (.long ee), .second, .val (.long ss), .second, .val (.ref ty), .unset, .unset, .unset, .unset] [(.long ff), (.long pp)])) _
    refine XS.ladd X2.here hx rfl (hb hby at_95) rfl ?_
    show Steps p.tables e below (T2.setTop (mkF m 96 #[.val (.int p0), .val (.int p1), .val (.int p2), .val (.int p3), .val (.long (2147483647 : Int64)), .second, .val (.long pp), .second, .val (.long ff), .second, .val (.long ee), .second, .val (.long ss), .second, .val (.ref ty), .unset, .unset, .unset, .unset] [(.long (pp + ff))])) _
    refine XS.lload X2.here hx rfl (hb hby at_96) rfl ?_
    show Steps p.tables e below (T2.setTop (mkF m 98 #[.val (.int p0), .val (.int p1), .val (.int p2), .val (.int p3), .val (.long (2147483647 : Int64)), .second, .val (.long pp), .second, .val (.long ff), .second, .val (.long ee), .second, .val (.long ss), .second, .val (.ref ty), .unset, .unset, .unset, .unset] [(.long ee), (.long (pp + ff))])) _
    refine XS.ladd X2.here hx rfl (hb hby at_98) rfl ?_
    show Steps p.tables e below (T2.setTop (mkF m 99 #[.val (.int p0), .val (.int p1), .val (.int p2), .val (.int p3), .val (.long (2147483647 : Int64)), .second, .val (.long pp), .second, .val (.long ff), .second, .val (.long ee), .second, .val (.long ss), .second, .val (.ref ty), .unset, .unset, .unset, .unset] [(.long ((pp + ff) + ee))])) _
    refine XS.lload X2.here hx rfl (hb hby at_99) rfl ?_
    show Steps p.tables e below (T2.setTop (mkF m 101 #[.val (.int p0), .val (.int p1), .val (.int p2), .val (.int p3), .val (.long (2147483647 : Int64)), .second, .val (.long pp), .second, .val (.long ff), .second, .val (.long ee), .second, .val (.long ss), .second, .val (.ref ty), .unset, .unset, .unset, .unset] [(.long ss), (.long ((pp + ff) + ee))])) _
    refine XS.ladd X2.here hx rfl (hb hby at_101) rfl ?_
    show Steps p.tables e below (T2.setTop (mkF m 102 #[.val (.int p0), .val (.int p1), .val (.int p2), .val (.int p3), .val (.long (2147483647 : Int64)), .second, .val (.long pp), .second, .val (.long ff), .second, .val (.long ee), .second, .val (.long ss), .second, .val (.ref ty), .unset, .unset, .unset, .unset] [(.long (((pp + ff) + ee) + ss))])) _
    refine XS.lstore X2.here hx rfl (hb hby at_102) rfl (l' := #[.val (.int p0), .val (.int p1), .val (.int p2), .val (.int p3), .val (.long (2147483647 : Int64)), .second, .val (.long pp), .second, .val (.long ff), .second, .val (.long ee), .second, .val (.long ss), .second, .val (.ref ty), .val (.long (((pp + ff) + ee) + ss)), .second, .unset, .unset]) rfl ?_
    show Steps p.tables e below (T2.setTop (mkF m 104 #[.val (.int p0), .val (.int p1), .val (.int p2), .val (.int p3), .val (.long (2147483647 : Int64)), .second, .val (.long pp), .second, .val (.long ff), .second, .val (.long ee), .second, .val (.long ss), .second, .val (.ref ty), .val (.long (((pp + ff) + ee) + ss)), .second, .unset, .unset] [])) _
    refine XS.aload X2.here hx rfl (hb hby at_104) rfl rfl ?_
    show Steps p.tables e below (T2.setTop (mkF m 106 #[.val (.int p0), .val (.int p1), .val (.int p2), .val (.int p3), .val (.long (2147483647 : Int64)), .second, .val (.long pp), .second, .val (.long ff), .second, .val (.long ee), .second, .val (.long ss), .second, .val (.ref ty), .val (.long (((pp + ff) + ee) + ss)), .second, .unset, .unset] [(.ref ty)])) _
    refine st3.trans ?_
    show Steps p.tables e below (T3.setTop (mkF m 109 #[.val (.int p0), .val (.int p1), .val (.int p2), .val (.int p3), .val (.long (2147483647 : Int64)), .second, .val (.long pp), .second, .val (.long ff), .second, .val (.long ee), .second, .val (.long ss), .second, .val (.ref ty), .val (.long (((pp + ff) + ee) + ss)), .second, .unset, .unset] [(.int ((((pp.toInt32) + (ff.toInt32)) + (ee.toInt32)) + (ss.toInt32)))])) _
    refine XS.i2l X3.here hx rfl (hb hby at_109) rfl ?_
    show Steps p.tables e below (T3.setTop (mkF m 110 #[.val (.int p0), .val (.int p1), .val (.int p2), .val (.int p3), .val (.long (2147483647 : Int64)), .second, .val (.long pp), .second, .val (.long ff), .second, .val (.long ee), .second, .val (.long ss), .second, .val (.ref ty), .val (.long (((pp + ff) + ee) + ss)), .second, .unset, .unset] [(.long (((((pp.toInt32) + (ff.toInt32)) + (ee.toInt32)) + (ss.toInt32)).toInt64))])) _
    refine XS.lstore X3.here hx rfl (hb hby at_110) rfl (l' := #[.val (.int p0), .val (.int p1), .val (.int p2), .val (.int p3), .val (.long (2147483647 : Int64)), .second, .val (.long pp), .second, .val (.long ff), .second, .val (.long ee), .second, .val (.long ss), .second, .val (.ref ty), .val (.long (((pp + ff) + ee) + ss)), .second, .val (.long (((((pp.toInt32) + (ff.toInt32)) + (ee.toInt32)) + (ss.toInt32)).toInt64)), .second]) rfl ?_
    show Steps p.tables e below (T3.setTop (mkF m 112 #[.val (.int p0), .val (.int p1), .val (.int p2), .val (.int p3), .val (.long (2147483647 : Int64)), .second, .val (.long pp), .second, .val (.long ff), .second, .val (.long ee), .second, .val (.long ss), .second, .val (.ref ty), .val (.long (((pp + ff) + ee) + ss)), .second, .val (.long (((((pp.toInt32) + (ff.toInt32)) + (ee.toInt32)) + (ss.toInt32)).toInt64)), .second] [])) _
    refine XS.lload X3.here hx rfl (hb hby at_112) rfl ?_
    show Steps p.tables e below (T3.setTop (mkF m 114 #[.val (.int p0), .val (.int p1), .val (.int p2), .val (.int p3), .val (.long (2147483647 : Int64)), .second, .val (.long pp), .second, .val (.long ff), .second, .val (.long ee), .second, .val (.long ss), .second, .val (.ref ty), .val (.long (((pp + ff) + ee) + ss)), .second, .val (.long (((((pp.toInt32) + (ff.toInt32)) + (ee.toInt32)) + (ss.toInt32)).toInt64)), .second] [(.long (((((pp.toInt32) + (ff.toInt32)) + (ee.toInt32)) + (ss.toInt32)).toInt64))])) _
    refine XS.lload X3.here hx rfl (hb hby at_114) rfl ?_
    show Steps p.tables e below (T3.setTop (mkF m 116 #[.val (.int p0), .val (.int p1), .val (.int p2), .val (.int p3), .val (.long (2147483647 : Int64)), .second, .val (.long pp), .second, .val (.long ff), .second, .val (.long ee), .second, .val (.long ss), .second, .val (.ref ty), .val (.long (((pp + ff) + ee) + ss)), .second, .val (.long (((((pp.toInt32) + (ff.toInt32)) + (ee.toInt32)) + (ss.toInt32)).toInt64)), .second] [(.long (((pp + ff) + ee) + ss)), (.long (((((pp.toInt32) + (ff.toInt32)) + (ee.toInt32)) + (ss.toInt32)).toInt64))])) _
    refine XS.lcmp X3.here hx rfl (hb hby at_116) rfl ?_
    show Steps p.tables e below (T3.setTop (mkF m 117 #[.val (.int p0), .val (.int p1), .val (.int p2), .val (.int p3), .val (.long (2147483647 : Int64)), .second, .val (.long pp), .second, .val (.long ff), .second, .val (.long ee), .second, .val (.long ss), .second, .val (.ref ty), .val (.long (((pp + ff) + ee) + ss)), .second, .val (.long (((((pp.toInt32) + (ff.toInt32)) + (ee.toInt32)) + (ss.toInt32)).toInt64)), .second] [(.int (lcmpW (((((pp.toInt32) + (ff.toInt32)) + (ee.toInt32)) + (ss.toInt32)).toInt64) (((pp + ff) + ee) + ss)))])) _
    refine XS.ifNo X3.here hx rfl (hb hby at_117) rfl ((if0 _ _).trans (teq ((lw_eq _ _).mpr (own_fin B4 : (((((pp.toInt32) + (ff.toInt32)) + (ee.toInt32)) + (ss.toInt32)).toInt64) = (((pp + ff) + ee) + ss)))).2) ?_
    show Steps p.tables e below (T3.setTop (mkF m 120 #[.val (.int p0), .val (.int p1), .val (.int p2), .val (.int p3), .val (.long (2147483647 : Int64)), .second, .val (.long pp), .second, .val (.long ff), .second, .val (.long ee), .second, .val (.long ss), .second, .val (.ref ty), .val (.long (((pp + ff) + ee) + ss)), .second, .val (.long (((((pp.toInt32) + (ff.toInt32)) + (ee.toInt32)) + (ss.toInt32)).toInt64)), .second] [])) _
    refine XS.iconst X3.here hx rfl (hb hby at_120) ?_
    show Steps p.tables e below (T3.setTop (mkF m 121 #[.val (.int p0), .val (.int p1), .val (.int p2), .val (.int p3), .val (.long (2147483647 : Int64)), .second, .val (.long pp), .second, .val (.long ff), .second, .val (.long ee), .second, .val (.long ss), .second, .val (.ref ty), .val (.long (((pp + ff) + ee) + ss)), .second, .val (.long (((((pp.toInt32) + (ff.toInt32)) + (ee.toInt32)) + (ss.toInt32)).toInt64)), .second] [(.int (1 : Int32))])) _
    refine XS.goto X3.here hx rfl (pc0 := 121) (pc' := 125) rfl (hb hby at_121) (by decide) (by decide) ?_
    show Steps p.tables e below (T3.setTop (mkF m 125 #[.val (.int p0), .val (.int p1), .val (.int p2), .val (.int p3), .val (.long (2147483647 : Int64)), .second, .val (.long pp), .second, .val (.long ff), .second, .val (.long ee), .second, .val (.long ss), .second, .val (.ref ty), .val (.long (((pp + ff) + ee) + ss)), .second, .val (.long (((((pp.toInt32) + (ff.toInt32)) + (ee.toInt32)) + (ss.toInt32)).toInt64)), .second] [(.int (1 : Int32))])) _
    exact retN X3 hx (t := .boolean) Bd.returns (by simp) (hb hby at_125) hr
  · show Qrm0 Z p0 p1 p2 p3 h0 n0 _ T3.heap _
    rw [eh3]
    exact ⟨rfl, N3⟩
set_option maxRecDepth 65536 in
set_option maxHeartbeats 40000000 in
theorem comes_1 {Post : Tables → Env → Array Value → State → Outcome → State → Prop} (hpost : ∀ tb e args s v u, (limb_1_1.after args s (.returned v) u = true ∧ limb_1_2.after args s (.returned v) u = true ∧ True) → FrameEnd s (.returned v) u (Jvm.fieldLocs frame_1_writes args s ++ Jvm.arrayLocs frame_1_arrays args s ++ Jvm.staticLocs frame_1_statics s) 16 128 → Post tb e args s (.returned v) u) :
    ArmFor flags0 classFile x code maxLocals ret World_1 tables_1 room_1 Calls_1 rest_1 Pre_1 Post := by
  intro l hfl _ _ p e ha hc hk s m args below hf hA hF happ hP
  obtain ⟨hcalls, hrest, hpre⟩ := hP
  obtain ⟨-, -, -, hnamed, -, -, -, hat⟩ := (Spec.applies_iff hf).mp happ
  obtain ⟨hg, hn⟩ := and_e (Cond.before_iff.mp (show (Jvm.Cond.and given_1 narrow_1).before args s = true from hpre))
  obtain ⟨g1, g2⟩ := and_e hg
  obtain ⟨g3, g4⟩ := and_e g2
  obtain ⟨g5, g6⟩ := and_e g4
  obtain ⟨g7, g8⟩ := and_e g6
  obtain ⟨w0, w1, w2, w3, rfl⟩ : ∃ w0 w1 w2 w3 : Value, args = #[w0, w1, w2, w3] := by
    have hs : args.size = 4 := by simpa [Cond.value, given_1] using g1
    obtain ⟨L⟩ := args
    match L, hs with
    | [w0, w1, w2, w3], _ => exact ⟨w0, w1, w2, w3, rfl⟩
  have hw := fun d (hd : d ∈ tables_1) => atoms_spec (ws := Jvm.Cond.code x code maxLocals ret :: tables_1) hat d (List.mem_cons_of_mem _ hd)
  obtain ⟨i0, ei0⟩ := is_v g3
  obtain rfl : w0 = (.int i0) := Option.some.inj ei0
  obtain ⟨i1, ei1⟩ := is_v g5
  obtain rfl : w1 = (.int i1) := Option.some.inj ei1
  obtain ⟨i2, ei2⟩ := is_v g7
  obtain rfl : w2 = (.int i2) := Option.some.inj ei2
  obtain ⟨i3, ei3⟩ := is_v g8
  obtain rfl : w3 = (.int i3) := Option.some.inj ei3
  obtain ⟨n, o, h1, h2, h3, _, L, rfl, ⟨rfl, N⟩, hq⟩ := rm0 l s _ hw tables_1 i0 i1 i2 i3  s.heap s.heap.size (Nat.le_refl _) p e ha hc hk s m _ below hf ((Spec.applies_iff_loose hf).mp happ).1 ⟨rfl, State.Warmed39.refl s, rfl⟩ trivial
  refine ⟨n, _, h1, h2, h3, hpost _ _ _ _ _ _ ⟨Cond.after_iff.mpr rfl, Cond.after_iff.mpr (eq_i res_at (Term.int_eval (1)) rfl), trivial⟩ ⟨hq.1, hq.2.1, (hq.2.2.sift fun y hy => Or.inr (N y hy)).mono (by decide) (by decide)⟩⟩
theorem main_1_1 : Claimed_1_1 := comes_1 fun _ _ _ _ _ _ h hF => ⟨h.1, hF⟩
theorem main_1_2 : Claimed_1_2 := comes_1 fun _ _ _ _ _ _ h hF => ⟨h.2.1, hF⟩
end Jvm.Pilot.@@N@@
namespace Jvm.Pilot.@@N@@
open Jvm Jvm.ClassFile Sem Op Lib Jvm.Free Jvm.Stand Jvm.Pilot.@@N@@.Jvm.D
/-! MADE BY PROGRAM (witnessworld.py) out of the Statement's table words and the real class files: 10 classes; the members and pool entries that the words name. The judged class is class 1, her method 1. -/
namespace start1
open Jvm.ClassFile
def u (s : String) : CpInfo := .utf8 (stringToUtf16 s)
/-- a pool by its gaps: so many unusable entries, then the entry; so many at the end -/
def gap : Nat → List CpInfo → List CpInfo
  | 0, r => r
  | n + 1, r => .unusable :: gap n r
def poolList (es : List (Nat × CpInfo)) (last : Nat) : List CpInfo := es.foldr (fun e r => gap e.1 (e.2 :: r)) (gap last [])
def pool (es : List (Nat × CpInfo)) (last : Nat) : Array CpInfo := ⟨poolList es last⟩
def fileOf (pool : Array CpInfo) (this : Nat) (attrs : Array Attribute := #[]) (ms : Array MethodInfo := #[]) (fl : Nat := 33) (sup : Nat := 0) (ifs : Array Nat := #[]) (fds : Array FieldInfo := #[]) : ClassFile where
  minorVersion := 0
  majorVersion := 65
  constantPool := pool
  accessFlags := fl
  thisClass := this
  superClass := sup
  interfaces := ifs
  fields := fds
  methods := ms
  attributes := attrs
def plain (name : String) (sup : Option ClassId) : Class where
  name := name
  kind := .ordinary
  loader := none
  accessFlags := 33
  super := sup
  interfaces := #[]
  cf := none
  fields := #[]
  methods := #[]
  instanceTypes := #[]
  staticTypes := #[]
  resolved := #[]
  callSites := []
  init := .initialized
  statics := none
  mirror := none

def pool0 : Array CpInfo := pool [(5, u "<init>"), (0, u "()V"), (1, .class_ 10), (1, u "java/lang/Object")] 113

def k0c0 : Code := { maxStack := 0, maxLocals := 1, code := object_method_1_code, exceptionTable := #[], attributes := #[] }
def k0m0 : Method := { name := "<init>", desc := "()V", sig := { parameters := [], returnType := none }, accessFlags := 1, code := some k0c0 }
/-- java/lang/Object -/
def k0 : Class := { plain "java/lang/Object" none with
  accessFlags := 33
  interfaces := #[]
  cf := some (fileOf pool0 8 #[] #[{ accessFlags := 1, nameIndex := 5, descriptorIndex := 6, attributes := #[] }] 33 0 #[] #[])
  fields := #[]
  methods := #[k0m0]
  instanceTypes := #[]
  staticTypes := #[]
  resolved := Array.replicate 124 none
  statics := none }

def pool1 : Array CpInfo := pool [(2, .class_ 4), (1, u "java/lang/Object"), (0, u "<init>"), (0, u "()V"), (2, .long 2147483647), (1, .class_ 12), (0, u "com/example/forkline/forkline/Tally"), (0, .methodref 11 14), (0, .nameAndType 5 15), (0, u "(IIII)V"), (0, .methodref 11 17), (0, .nameAndType 18 19), (0, u "tests"), (0, u "()I"), (0, .class_ 21), (0, u "com/example/forkline/forkline/TallyTestsPinLaw"), (2, u "law"), (0, u "(IIII)Z")] 3

def k1m0 : Method := { name := "<init>", desc := "()V", sig := { parameters := [], returnType := none }, accessFlags := 1, code := none }
def k1c1 : Code := { maxStack := 7, maxLocals := 19, code := code, exceptionTable := #[], attributes := #[] }
def k1m1 : Method := { name := "law", desc := "(IIII)Z", sig := { parameters := [.int, .int, .int, .int], returnType := some .boolean }, accessFlags := 9, code := some k1c1 }
/-- com/example/forkline/forkline/TallyTestsPinLaw -/
def k1 : Class := { plain "com/example/forkline/forkline/TallyTestsPinLaw" (some 0) with
  accessFlags := 49
  interfaces := #[]
  cf := some (fileOf pool1 20 #[] #[{ accessFlags := 1, nameIndex := 5, descriptorIndex := 6, attributes := #[] }, { accessFlags := 9, nameIndex := 24, descriptorIndex := 25, attributes := #[] }] 49 2 #[] #[])
  fields := #[]
  methods := #[k1m0, k1m1]
  instanceTypes := #[]
  staticTypes := #[]
  resolved := Array.replicate 29 none
  statics := none }

def pool2 : Array CpInfo := pool [(1, .methodref 2 3), (0, .class_ 4), (0, .nameAndType 5 6), (0, u "java/lang/Object"), (0, u "<init>"), (0, u "()V"), (0, .class_ 8), (0, u "java/lang/Record")] 13

def k2c0 : Code := { maxStack := 1, maxLocals := 1, code := jdk_30_method_1_code, exceptionTable := #[], attributes := #[] }
def k2m0 : Method := { name := "<init>", desc := "()V", sig := { parameters := [], returnType := none }, accessFlags := 4, code := some k2c0 }
/-- java/lang/Record -/
def k2 : Class := { plain "java/lang/Record" (some 0) with
  accessFlags := 1057
  interfaces := #[]
  cf := some (fileOf pool2 7 #[] #[{ accessFlags := 4, nameIndex := 5, descriptorIndex := 6, attributes := #[] }] 1057 2 #[] #[])
  fields := #[]
  methods := #[k2m0]
  instanceTypes := #[]
  staticTypes := #[]
  resolved := Array.replicate 22 none
  statics := none }

def pool3 : Array CpInfo := pool [(1, .methodref 2 3), (0, .class_ 4), (0, .nameAndType 5 6), (0, u "java/lang/Record"), (0, u "<init>"), (0, u "()V"), (27, .long 2147483647), (3, .fieldref 39 40), (0, .class_ 41), (0, .nameAndType 42 43), (0, u "com/example/forkline/forkline/Tally"), (0, u "passed"), (0, u "I"), (0, .fieldref 39 45), (0, .nameAndType 46 43), (0, u "failed"), (0, .fieldref 39 48), (0, .nameAndType 49 43), (0, u "errors"), (0, .fieldref 39 51), (0, .nameAndType 52 43), (0, u "skipped"), (66, u "(IIII)V"), (8, u "tests"), (0, u "()I")] 48

def k3c0 : Code := { maxStack := 8, maxLocals := 5, code := prog_21_method_1_code, exceptionTable := #[], attributes := #[] }
def k3m0 : Method := { name := "<init>", desc := "(IIII)V", sig := { parameters := [.int, .int, .int, .int], returnType := none }, accessFlags := 1, code := some k3c0 }
def k3c1 : Code := { maxStack := 2, maxLocals := 1, code := prog_21_method_4_code, exceptionTable := #[], attributes := #[] }
def k3m1 : Method := { name := "tests", desc := "()I", sig := { parameters := [], returnType := some .int }, accessFlags := 1, code := some k3c1 }
/-- com/example/forkline/forkline/Tally -/
def k3 : Class := { plain "com/example/forkline/forkline/Tally" (some 2) with
  accessFlags := 49
  interfaces := #[]
  cf := some (fileOf pool3 39 #[] #[{ accessFlags := 1, nameIndex := 5, descriptorIndex := 119, attributes := #[] }, { accessFlags := 1, nameIndex := 128, descriptorIndex := 129, attributes := #[] }] 49 2 #[] #[{ accessFlags := 18, nameIndex := 42, descriptorIndex := 43, attributes := #[] }, { accessFlags := 18, nameIndex := 46, descriptorIndex := 43, attributes := #[] }, { accessFlags := 18, nameIndex := 49, descriptorIndex := 43, attributes := #[] }, { accessFlags := 18, nameIndex := 52, descriptorIndex := 43, attributes := #[] }])
  fields := #[{ name := "passed", type := .int, accessFlags := 18, slot := 0, constantValue := 0 }, { name := "failed", type := .int, accessFlags := 18, slot := 1, constantValue := 0 }, { name := "errors", type := .int, accessFlags := 18, slot := 2, constantValue := 0 }, { name := "skipped", type := .int, accessFlags := 18, slot := 3, constantValue := 0 }]
  methods := #[k3m0, k3m1]
  instanceTypes := #[.int, .int, .int, .int]
  staticTypes := #[]
  resolved := Array.replicate 178 none
  statics := none }

def pool4 : Array CpInfo := pool [(1, u "java/lang/Cloneable"), (0, .class_ 1), (0, u "java/lang/Object"), (0, .class_ 3)] 3

/-- java/lang/Cloneable -/
def k4 : Class := { plain "java/lang/Cloneable" (some 0) with
  accessFlags := 1537
  interfaces := #[]
  cf := some (fileOf pool4 2 #[] #[] 1537 4 #[] #[])
  fields := #[]
  methods := #[]
  instanceTypes := #[]
  staticTypes := #[]
  resolved := Array.replicate 8 none
  statics := none }

def pool5 : Array CpInfo := pool [(1, u "java/io/Serializable"), (0, .class_ 1), (0, u "java/lang/Object"), (0, .class_ 3)] 3

/-- java/io/Serializable -/
def k5 : Class := { plain "java/io/Serializable" (some 0) with
  accessFlags := 1537
  interfaces := #[]
  cf := some (fileOf pool5 2 #[] #[] 1537 4 #[] #[])
  fields := #[]
  methods := #[]
  instanceTypes := #[]
  staticTypes := #[]
  resolved := Array.replicate 8 none
  statics := none }

/-- the primitive byte -/
def k6 : Class := { plain "byte" none with kind := .primitive 'B', accessFlags := 0x411 }
/-- [B -/
def k7 : Class := { plain "[B" (some 0) with kind := .array 6 .byte, interfaces := #[4, 5], accessFlags := 1041 }

/-- the primitive int -/
def k8 : Class := { plain "int" none with kind := .primitive 'I', accessFlags := 0x411 }
/-- [I -/
def k9 : Class := { plain "[I" (some 0) with kind := .array 8 .int, interfaces := #[4, 5], accessFlags := 1041 }

def heap : Heap := #[]
def classes : Array Class := #[k0, k1, k2, k3, k4, k5, k6, k7, k8, k9]
def interned : List (Array UInt16 × Addr) := []
def slotsUsed : Nat := 0
def theMethod : MethodId := ⟨1, 1⟩
def args0 : Array Value := #[.int 5, .int 5, .int 5, .int 5]
def aboutOver (below : List Frame) : State where
  vm := { classes := classes, interned := interned.toArray }
  heap := heap
  slotsUsed := slotsUsed
  threads := #[{ frames := .invoking theMethod args0 :: below }]
def below0 : List Frame := [.native { method := ⟨0, 0⟩, args := #[] }]
def about1 : State := aboutOver below0
def p0 : Program := .bare "" "" ""
def e0 : Env := launch0.env 0 0 0
theorem w_frames : about1.frames = Frame.invoking theMethod args0 :: below0 := rfl
set_option maxRecDepth 65536 in
theorem w_args : argsFit about1.vm theMethod args0 = true := by decide +kernel
set_option maxRecDepth 65536 in
theorem w_heap : heapFits about1 = true := by decide +kernel
set_option maxRecDepth 65536 in
theorem w_runnable : about1.curStatus? = some .runnable := by decide +kernel
set_option maxRecDepth 65536 in
theorem w_alone : about1.alone = true := by decide +kernel
set_option maxRecDepth 65536 in
theorem w_named : about1.methodNamed? x = some theMethod := by decide +kernel
set_option maxRecDepth 65536 in
theorem w_hears : about1.hears theMethod below0 = true := by decide +kernel
set_option maxRecDepth 65536 in
theorem w_ripe : about1.ripe theMethod args0 below0 = true := by decide +kernel
theorem w_running : about1.status = .running := rfl
set_option maxRecDepth 65536 in
theorem w_room : about1.hasRoom e0.platform room_1 = true :=
  launch0.hasRoom_least _ room_1 (by decide +kernel) (by decide +kernel) (by decide +kernel) (by decide +kernel) (by decide +kernel) (by decide +kernel)
theorem allAtoms_all (ts : List Jvm.Cond) (a : Array Jvm.Value) (st : Jvm.State) : (allAtoms ts).before a st = ts.all (fun c => c.before a st) := by
  induction ts with
  | nil => rfl
  | cons c t ih =>
    show (Jvm.Cond.and c (allAtoms t)).before a st = _
    rw [Jvm.Cond.before_and, ih, List.all_cons]
def words1 : List Jvm.Cond := Jvm.Cond.code x code maxLocals ret :: tables_1
/-- a 'code' word, met by the world's own term for the bytes: nothing is compared byte by byte -/
theorem code_word {y : MethodName} {bytes : ByteArray} {mx : Nat} {rt : Option FieldType} {a : Array Value} {s : State} {m : MethodId} {meth : Method} {c : Code} (h1 : s.methodNamed? y = some m) (h2 : s.vm.method? m = some meth) (h3 : meth.code = some c) (h4 : c.code = bytes)
    (h5 : (c.maxLocals == mx && c.exceptionTable.isEmpty && decide (c.maxStack ≤ mostOperands) && decide (meth.sig.returnType = rt) && !meth.locks && decide (parseMethodDescriptor y.desc = some meth.sig)) = true) : (Jvm.Cond.code y bytes mx rt).before a s = true := by
  simp only [Bool.and_eq_true, beq_iff_eq, Bool.not_eq_true', decide_eq_true_eq] at h5
  obtain ⟨⟨⟨⟨⟨g1, g2⟩, g3⟩, g4⟩, g5⟩, g6⟩ := h5
  simp [Cond.before, Cond.holds, Cond.value, h1, h2, h3, h4, g1, g2, g3, g4, g5, g6]
def isCode : Jvm.Cond → Bool
  | .code _ _ _ _ => true
  | _ => false
theorem all_split {L : List Jvm.Cond} {P : Jvm.Cond → Bool} (h1 : L.all (fun c => isCode c || P c) = true) (h2 : ∀ c ∈ L.filter isCode, P c = true) : L.all P = true := by
  refine List.all_eq_true.mpr fun c hc => ?_
  have h := List.all_eq_true.mp h1 c hc
  rcases Bool.eq_false_or_eq_true (isCode c) with hi | hi
  · exact h2 c (List.mem_filter.mpr ⟨hc, hi⟩)
  · simpa [hi] using h
set_option maxRecDepth 65536 in
theorem w_c0 : (Jvm.Cond.code x code maxLocals ret).before args0 about1 = true := code_word (m := ⟨1, 1⟩) (meth := k1m1) (c := k1c1) (by decide +kernel) rfl rfl rfl (by decide +kernel)
set_option maxRecDepth 65536 in
theorem w_c1 : (Jvm.Cond.code ({ cls := "com/example/forkline/forkline/Tally", name := "<init>", desc := "(IIII)V" } : Jvm.MethodName) prog_21_method_1_code (5 : Nat) (Option.none : Option Jvm.ClassFile.FieldType)).before args0 about1 = true := code_word (m := ⟨3, 0⟩) (meth := k3m0) (c := k3c0) (by decide +kernel) rfl rfl rfl (by decide +kernel)
set_option maxRecDepth 65536 in
theorem w_c2 : (Jvm.Cond.code ({ cls := "java/lang/Record", name := "<init>", desc := "()V" } : Jvm.MethodName) jdk_30_method_1_code (1 : Nat) (Option.none : Option Jvm.ClassFile.FieldType)).before args0 about1 = true := code_word (m := ⟨2, 0⟩) (meth := k2m0) (c := k2c0) (by decide +kernel) rfl rfl rfl (by decide +kernel)
set_option maxRecDepth 65536 in
theorem w_c3 : (Jvm.Cond.code ({ cls := "java/lang/Object", name := "<init>", desc := "()V" } : Jvm.MethodName) object_method_1_code (1 : Nat) (Option.none : Option Jvm.ClassFile.FieldType)).before args0 about1 = true := code_word (m := ⟨0, 0⟩) (meth := k0m0) (c := k0c0) (by decide +kernel) rfl rfl rfl (by decide +kernel)
set_option maxRecDepth 65536 in
theorem w_c4 : (Jvm.Cond.code ({ cls := "com/example/forkline/forkline/Tally", name := "tests", desc := "()I" } : Jvm.MethodName) prog_21_method_4_code (1 : Nat) (Option.some Jvm.ClassFile.FieldType.int)).before args0 about1 = true := code_word (m := ⟨3, 1⟩) (meth := k3m1) (c := k3c1) (by decide +kernel) rfl rfl rfl (by decide +kernel)
def codes1 : List Jvm.Cond := [Jvm.Cond.code x code maxLocals ret, Jvm.Cond.code ({ cls := "com/example/forkline/forkline/Tally", name := "<init>", desc := "(IIII)V" } : Jvm.MethodName) prog_21_method_1_code (5 : Nat) (Option.none : Option Jvm.ClassFile.FieldType), Jvm.Cond.code ({ cls := "java/lang/Record", name := "<init>", desc := "()V" } : Jvm.MethodName) jdk_30_method_1_code (1 : Nat) (Option.none : Option Jvm.ClassFile.FieldType), Jvm.Cond.code ({ cls := "java/lang/Object", name := "<init>", desc := "()V" } : Jvm.MethodName) object_method_1_code (1 : Nat) (Option.none : Option Jvm.ClassFile.FieldType), Jvm.Cond.code ({ cls := "com/example/forkline/forkline/Tally", name := "tests", desc := "()I" } : Jvm.MethodName) prog_21_method_4_code (1 : Nat) (Option.some Jvm.ClassFile.FieldType.int)]
set_option maxRecDepth 65536 in
theorem codes_eq : words1.filter isCode = codes1 := rfl
theorem w_codes : ∀ c ∈ words1.filter isCode, c.before args0 about1 = true := by
  rw [codes_eq]
  intro c hc
  simp only [codes1, List.mem_cons, List.not_mem_nil, or_false] at hc
  rcases hc with rfl | rfl | rfl | rfl | rfl
  · exact w_c0
  · exact w_c1
  · exact w_c2
  · exact w_c3
  · exact w_c4
set_option maxRecDepth 65536 in
theorem w_t1 : (words1.take 24).all (fun c => isCode c || c.before args0 about1) = true := by decide +kernel
set_option maxRecDepth 65536 in
theorem w_t2 : (words1.drop 24).all (fun c => isCode c || c.before args0 about1) = true := by decide +kernel
theorem w_tables : (allAtoms (Jvm.Cond.code x code maxLocals ret :: tables_1)).before args0 about1 = true := by
  rw [allAtoms_all]
  show words1.all (fun c => c.before args0 about1) = true
  refine all_split ?_ w_codes
  rw [← List.take_append_drop 24 words1, List.all_append, w_t1, w_t2]
  rfl
set_option maxRecDepth 65536 in
theorem w_case : (Jvm.Cond.and given_1 narrow_1).before args0 about1 = true := by decide +kernel
theorem w_applies : (headSpec (Jvm.Cond.code x code maxLocals ret :: tables_1) room_1).applies x e0.platform about1 = true :=
  (Spec.applies_iff w_frames).mpr ⟨w_running, w_runnable, w_alone, w_named, w_hears, w_ripe, w_room, w_tables⟩
theorem atStart : AtStart classFile x code maxLocals ret World_1 tables_1 room_1 Calls_1 rest_1 Pre_1 launch0 p0 e0 about1 theMethod args0 below0 :=
  ⟨lists_1, trivial, launch0.admits_env _ _ _, launch0.least_env, fairChoices_fair.cas, fairChoices_fair.clock, w_frames, w_args, w_heap, w_applies, trivial, trivial, w_case⟩
end start1
theorem witness_1 : WitnessClaimed_1 := ⟨start1.p0, start1.e0, start1.about1, start1.theMethod, start1.args0, start1.below0, start1.atStart⟩
end Jvm.Pilot.@@N@@
