import JvmDerived
import JvmDerived.Pilot.@@N@@Statement
import JvmDerived.Pilot.@@N@@Code
set_option linter.unusedVariables false
set_option linter.unusedSimpArgs false
namespace Jvm.RoadKit
open Sem ClassFile Op Lib Jvm.Stand Jvm.Free Jvm.LawKit
section New
variable {p : Program} {l : Launch} {e : Env} {R : Room} {s : State} {m : MethodId} {args : Array Value} {below : List Frame} {meth : Method} {c : Code} {T : State} {locs : List Loc} {cells slots : Nat}
theorem retI (X : Stand p l e R s m args below meth c T locs cells slots) (hx : p.tables.exec = Jvm.exec) {pc : Nat} {Ls : Array Slot} {z : Int32} {rest : List Value} (hret : meth.sig.returnType = some .int) (hd : decode c.code pc = .ok (.ireturn, 1)) {fs : List Frame}
    (hl : ∀ (f : JFrame) (acts : List Action), f.method = m → f.locked = none → f.entered = [] → (doReturn e (T.setTop f) acts (some (.int z))).1 = T.setFrames fs) : Steps p.tables e below (T.setTop (mkF m pc Ls (.int z :: rest))) (T.setFrames fs) := by
  have hm' : T.vm.method? m = some meth := X.method'
  have hn : narrow .int (.int z) = .int z := rfl
  show Steps p.tables e below (T.setTop { method := m, pc := pc, locals := Ls, stack := _ :: rest, locked := none }) _
  jvm_step X.here [X.here.top, hx, hd, hm', hret, hn]
  first | (intro acts; rw [hl _ acts rfl rfl rfl]) | rw [hl _ _ rfl rfl rfl]
  exact Steps.refl _
theorem own_lrem {target : State} (X : Stand p l e R s m args below meth c T locs cells slots) (hx : p.tables.exec = Jvm.exec) {g : JFrame} (hg : g.method = m) {x y : Int64} {rest : List Value} (hd : decode c.code g.pc = .ok (.lrem, 1)) (hs : g.stack = .long y :: .long x :: rest) (hy : y ≠ 0)
    (hr : Steps p.tables e below (T.setTop { g with pc := g.pc + 1, stack := .long (x % y) :: rest }) target) : Steps p.tables e below (T.setTop g) target :=
  XS.lrem X.here hx hg hd hs hy (by rw [lrem_mod]; exact hr)
theorem own_retJ (Y : Stand p l e R s m args below meth c T locs cells slots) (hexec : p.tables.exec = Jvm.exec) {pc : Nat} {Ls : Array Slot} {w : Int64} (hret : meth.sig.returnType = some .long)
    (hdg : decode c.code pc = .ok (.lreturn, 1)) {fs : List Frame} (hleave : ∀ (f : JFrame) (acts : List Action), f.method = m → f.locked = none → f.entered = [] → (doReturn e (T.setTop f) acts (some (.long w))).1 = T.setFrames fs) :
    Steps p.tables e below (T.setTop (mkF m pc Ls [.long w])) (T.setFrames fs) := Y.lreturnOut hexec hret hdg hleave
theorem own_retR (X : Stand p l e R s m args below meth c T locs cells slots) (hx : p.tables.exec = Jvm.exec) {pc : Nat} {Ls : Array Slot} {w : Value} {t : FieldType} {rest : List Value} (hret : meth.sig.returnType = some t) (hn : narrow t w = w) (ht : t.isReference = true) (hw : w.isRef = true)
    (hd : decode c.code pc = .ok (.areturn, 1)) {fs : List Frame} (hl : ∀ (f : JFrame) (acts : List Action), f.method = m → f.locked = none → f.entered = [] → (doReturn e (T.setTop f) acts (some w)).1 = T.setFrames fs) :
    Steps p.tables e below (T.setTop (mkF m pc Ls (w :: rest))) (T.setFrames fs) := retOut X hx hret hn (Or.inr (Or.inr (Or.inr (Or.inr ⟨rfl, ht, hw⟩)))) hd hl
theorem own_via {tb : Tables} {s0 target : State} (s' : State) (h : Steps tb e below s' target → Steps tb e below s0 target) (k : Steps tb e below s' target) : Steps tb e below s0 target := h k
end New
end Jvm.RoadKit
namespace Jvm.Pilot.@@N@@
open Jvm Jvm.ClassFile Sem Op Lib Jvm.Free Jvm.Stand Jvm.LawKit Jvm.RoadKit Bundle Jvm.Pilot.@@N@@.Jvm.D
theorem own_nn {a : Int64} (h : 0 ≤ a.toInt ∧ a.toInt ≤ 2147483647) : a.toInt32.toInt = a.toInt := by
  have x := c_l2i a; have y := rng32 a.toInt32; omega
theorem own_back {a : Int64} (h : 0 ≤ a.toInt ∧ a.toInt ≤ 2147483647) : a.toInt32.toInt64 = a := by
  apply Int64.toInt_inj.mp; rw [c_i2l, own_nn h]
theorem own_z32 : (0 : Int32).toInt = 0 := by decide
theorem own_m64 : (2147483647 : Int64).toInt = 2147483647 := by decide
theorem own_1_64 : (1 : Int64).toInt = 1 := by decide
theorem own_ge {a : Int32} (h : 0 ≤ a.toInt) : ¬ (a < (0 : Int32)) := by rw [Int32.lt_iff_toInt_lt, own_z32]; omega
theorem own_sum4 {a b c d : Int32} (h : 0 ≤ a.toInt ∧ 0 ≤ b.toInt ∧ 0 ≤ c.toInt ∧ 0 ≤ d.toInt ∧ a.toInt + b.toInt + c.toInt + d.toInt ≤ 2147483647) : ¬ ((2147483647 : Int64) < ((((a.toInt64) + (b.toInt64)) + (c.toInt64)) + (d.toInt64))) := by
  rw [Int64.lt_iff_toInt_lt, own_m64]
  have x1 := c_ladd (a.toInt64) (b.toInt64); have x2 := c_ladd ((a.toInt64) + (b.toInt64)) (c.toInt64); have x3 := c_ladd (((a.toInt64) + (b.toInt64)) + (c.toInt64)) (d.toInt64)
  rw [c_i2l] at x1 x2 x3; rw [c_i2l] at x1
  have y1 := rng64 ((a.toInt64) + (b.toInt64)); have y2 := rng64 (((a.toInt64) + (b.toInt64)) + (c.toInt64)); have y3 := rng64 ((((a.toInt64) + (b.toInt64)) + (c.toInt64)) + (d.toInt64))
  omega
theorem own_mask (z : Int64) : 0 ≤ (z &&& (2147483647 : Int64)).toInt ∧ (z &&& (2147483647 : Int64)).toInt ≤ 2147483647 := by
  rw [c_maskL z 2147483647 31 (by decide) (by decide)]
  have e3 : ((2 ^ 31 : Nat) : Int) = 2147483648 := by decide
  rw [e3]; omega
theorem own_rem {x y : Int64} {r : Int} (hx : 0 ≤ x.toInt ∧ x.toInt ≤ 2147483647) (hy : y.toInt = r + 1) (hr : 0 ≤ r ∧ r ≤ 2147483647) : y ≠ 0 ∧ 0 ≤ (x % y).toInt ∧ (x % y).toInt ≤ r := by
  have e0 : (0 : Int64).toInt = 0 := by decide
  refine ⟨fun q => ?_, ?_⟩
  · rw [q, e0] at hy; omega
  · have z := (c_lrem x y (r + 1) hy).1 hx.1
    rw [lrem_mod] at z; rw [z]
    have u := Int.emod_nonneg x.toInt (b := r + 1) (by omega); have v := Int.emod_lt_of_pos x.toInt (b := r + 1) (by omega)
    omega
theorem d3_0 : decode jdk_30_method_1_code 0 = .ok (.aload_n 0, 1) := by decide +kernel
theorem d3_1 : decode jdk_30_method_1_code 1 = .ok (.invokespecial 1, 3) := by decide +kernel
theorem d3_4 : decode jdk_30_method_1_code 4 = .ok (.return_, 1) := by decide +kernel
theorem pn_3 : plainName "java/lang/Record" = true := by first | (simp [plainName, overriddenIn]; done) | decide +kernel
theorem ef_rm3 (m : MethodId) (a0 : Addr) : entryFrame m #[(.ref a0)] 1 = mkF m 0 #[.val (.ref a0)] [] := by first | (simp [entryFrame, mkF, argsToLocals, Value.category]; done) | rfl
def Qrm3 (Z : State) (a0 : Addr) (h0 : Heap) (n0 : Nat) (v : Option Value) (h : Heap) (L : List Loc) : Prop := v = none ∧ Fr n0 L ∧ h = h0
set_option maxRecDepth 65536 in
set_option maxHeartbeats 40000000 in
theorem rm3 (l : Launch) (Z : State) (A0 : Array Value) (hw : ∀ d ∈ tables_1, d.before A0 Z = true) (ws : List Jvm.Cond) (a0 : Addr) (h0 : Heap) (n0 : Nat) (Z0 : n0 ≤ h0.size) :
    MetFree l (⟨"java/lang/Record", "<init>", "()V"⟩ : MethodName) (head1 (Jvm.Cond.code (⟨"java/lang/Record", "<init>", "()V"⟩ : MethodName) jdk_30_method_1_code 1 none :: ws) ({ frames := 1, cells := 0, slots := 0, locals := 12 } : Room)) (fun a U => a = #[(.ref a0)] ∧ Z.Warmed39 U.vm ∧ U.heap = h0) (fun _ _ _ _ _ => True) (fun _ U o U' => ∃ v L, o = .returned v ∧ Qrm3 Z a0 h0 n0 v U'.heap L ∧ FrameEnd U o U' L ({ frames := 1, cells := 0, slots := 0, locals := 12 } : Room).cells ({ frames := 1, cells := 0, slots := 0, locals := 12 } : Room).slots) := by
  refine MetFree.of_bodySF (plainFor_of_name pn_3) hisR ?_
  intro p e s m args below meth c s₁ Bd hml0 hP hK
  obtain ⟨rfl, hZ, hh⟩ := hP
  have hx := Bd.exec
  have hby := Bd.bytes
  have hml : c.maxLocals = 1 := hml0
  have hown : s.vm.findClass "java/lang/Record" = some m.cls := findClass_of_methodNamed Bd.named
  have hnm := (name_of_methodNamed Bd.named Bd.method).1
  have X0 : Stand p l e ({ frames := 1, cells := 0, slots := 0, locals := 12 } : Room) s m #[(.ref a0)] below meth c s₁ [] 0 0 := Stand.of_body Bd
  have e0 : s₁.heap = h0 := by rw [← hh, Bd.state]; rfl
  have N0 := Fr.nil n0
  have K0 : Keep h0 h0 [] := Keep.refl _ _
  have pre0 : ∀ t, Steps p.tables e below (s₁.setTop (mkF m 0 #[.val (.ref a0)] [])) t → Steps p.tables e below (s₁.setTop (entryFrame m #[(.ref a0)] 1)) t := fun t k => castTop (ef_rm3 m a0) k
  obtain ⟨T1, X1, e1, st1⟩ := initO X0 hx hZ hown (hw _ (List.mem_of_getElem? (i := 16) rfl)) (hw _ (List.mem_of_getElem? (i := 17) rfl)) (hw _ (List.mem_of_getElem? (i := 18) rfl)) e0 (g := (mkF m 1 #[.val (.ref a0)] [(.ref a0)])) rfl (by rw [hml]; rfl) rfl (hb hby d3_1) (by decide) (W := 0) (by show 2 * 0 + _ ≤ _; exact Nat.le_of_eq rfl) (by decide)
  obtain ⟨fs, hr, hrun, hended, hW, hsame⟩ := X1.leave (v := none) (fun _ => rfl)
  refine ⟨_, _, pre0 _ ?_, hrun, hended, _, _, rfl, ?_, ⟨_, rfl⟩, hW, hsame.mono (by decide) (by decide)⟩
  · show Steps p.tables e below (s₁.setTop (mkF m 0 #[.val (.ref a0)] [])) _
    refine XS.aloadN X0.here hx rfl (hb hby d3_0) rfl rfl ?_
    show Steps p.tables e below (s₁.setTop (mkF m 1 #[.val (.ref a0)] [(.ref a0)])) _
    refine st1 _ ?_
    show Steps p.tables e below (T1.setTop (mkF m 4 #[.val (.ref a0)] [])) _
    exact X1.returnOut hx Bd.returns (hb hby d3_4) hr
  · show Qrm3 Z a0 h0 n0 _ T1.heap _
    rw [e1]
    exact ⟨rfl, N0, rfl⟩
theorem pd_0 : parseMethodDescriptor "()V" = some ⟨[], none⟩ := by decide +kernel
theorem d2_0 : decode prog_21_method_1_code 0 = .ok (.aload_n 0, 1) := by decide +kernel
theorem d2_1 : decode prog_21_method_1_code 1 = .ok (.invokespecial 1, 3) := by decide +kernel
theorem d2_4 : decode prog_21_method_1_code 4 = .ok (.iload_n 1, 1) := by decide +kernel
theorem d2_5 : decode prog_21_method_1_code 5 = .ok (.ifCond .lt 16, 3) := by decide +kernel
theorem d2_8 : decode prog_21_method_1_code 8 = .ok (.iload_n 2, 1) := by decide +kernel
theorem d2_9 : decode prog_21_method_1_code 9 = .ok (.ifCond .lt 12, 3) := by decide +kernel
theorem d2_12 : decode prog_21_method_1_code 12 = .ok (.iload_n 3, 1) := by decide +kernel
theorem d2_13 : decode prog_21_method_1_code 13 = .ok (.ifCond .lt 8, 3) := by decide +kernel
theorem d2_16 : decode prog_21_method_1_code 16 = .ok (.iload 4, 2) := by decide +kernel
theorem d2_18 : decode prog_21_method_1_code 18 = .ok (.ifCond .ge 52, 3) := by decide +kernel
theorem d2_70 : decode prog_21_method_1_code 70 = .ok (.iload_n 1, 1) := by decide +kernel
theorem d2_71 : decode prog_21_method_1_code 71 = .ok (.i2l, 1) := by decide +kernel
theorem d2_72 : decode prog_21_method_1_code 72 = .ok (.iload_n 2, 1) := by decide +kernel
theorem d2_73 : decode prog_21_method_1_code 73 = .ok (.i2l, 1) := by decide +kernel
theorem d2_74 : decode prog_21_method_1_code 74 = .ok (.ladd, 1) := by decide +kernel
theorem d2_75 : decode prog_21_method_1_code 75 = .ok (.iload_n 3, 1) := by decide +kernel
theorem d2_76 : decode prog_21_method_1_code 76 = .ok (.i2l, 1) := by decide +kernel
theorem d2_77 : decode prog_21_method_1_code 77 = .ok (.ladd, 1) := by decide +kernel
theorem d2_78 : decode prog_21_method_1_code 78 = .ok (.iload 4, 2) := by decide +kernel
theorem d2_80 : decode prog_21_method_1_code 80 = .ok (.i2l, 1) := by decide +kernel
theorem d2_81 : decode prog_21_method_1_code 81 = .ok (.ladd, 1) := by decide +kernel
theorem d2_82 : decode prog_21_method_1_code 82 = .ok (.ldc2_w 34, 3) := by decide +kernel
theorem d2_85 : decode prog_21_method_1_code 85 = .ok (.lcmp, 1) := by decide +kernel
theorem d2_86 : decode prog_21_method_1_code 86 = .ok (.ifCond .le 13, 3) := by decide +kernel
theorem d2_99 : decode prog_21_method_1_code 99 = .ok (.aload_n 0, 1) := by decide +kernel
theorem d2_100 : decode prog_21_method_1_code 100 = .ok (.iload_n 1, 1) := by decide +kernel
theorem d2_101 : decode prog_21_method_1_code 101 = .ok (.putfield 38, 3) := by decide +kernel
theorem d2_104 : decode prog_21_method_1_code 104 = .ok (.aload_n 0, 1) := by decide +kernel
theorem d2_105 : decode prog_21_method_1_code 105 = .ok (.iload_n 2, 1) := by decide +kernel
theorem d2_106 : decode prog_21_method_1_code 106 = .ok (.putfield 44, 3) := by decide +kernel
theorem d2_109 : decode prog_21_method_1_code 109 = .ok (.aload_n 0, 1) := by decide +kernel
theorem d2_110 : decode prog_21_method_1_code 110 = .ok (.iload_n 3, 1) := by decide +kernel
theorem d2_111 : decode prog_21_method_1_code 111 = .ok (.putfield 47, 3) := by decide +kernel
theorem d2_114 : decode prog_21_method_1_code 114 = .ok (.aload_n 0, 1) := by decide +kernel
theorem d2_115 : decode prog_21_method_1_code 115 = .ok (.iload 4, 2) := by decide +kernel
theorem d2_117 : decode prog_21_method_1_code 117 = .ok (.putfield 50, 3) := by decide +kernel
theorem d2_120 : decode prog_21_method_1_code 120 = .ok (.return_, 1) := by decide +kernel
theorem pn_2 : plainName "com/example/forkline/forkline/Tally" = true := by first | (simp [plainName, overriddenIn]; done) | decide +kernel
theorem ef_rm2 (m : MethodId) (a0 : Addr) (p1 : Int32) (p2 : Int32) (p3 : Int32) (p4 : Int32) : entryFrame m #[(.ref a0), (.int p1), (.int p2), (.int p3), (.int p4)] 5 = mkF m 0 #[.val (.ref a0), .val (.int p1), .val (.int p2), .val (.int p3), .val (.int p4)] [] := by first | (simp [entryFrame, mkF, argsToLocals, Value.category]; done) | rfl
def Qrm2 (Z : State) (a0 : Addr) (p1 : Int32) (p2 : Int32) (p3 : Int32) (p4 : Int32) (u_passed : Value) (u_failed : Value) (u_errors : Value) (u_skipped : Value) (h0 : Heap) (n0 : Nat) (v : Option Value) (h : Heap) (L : List Loc) : Prop := v = none ∧ Fr n0 L ∧ Keep h0 h [a0] ∧ Exa Z h a0 "com/example/forkline/forkline/Tally" ∧ Fld Z h a0 "com/example/forkline/forkline/Tally" "passed" "I" (.int p1) ∧ Fld Z h a0 "com/example/forkline/forkline/Tally" "failed" "I" (.int p2) ∧ Fld Z h a0 "com/example/forkline/forkline/Tally" "errors" "I" (.int p3) ∧ Fld Z h a0 "com/example/forkline/forkline/Tally" "skipped" "I" (.int p4)
set_option maxRecDepth 65536 in
set_option maxHeartbeats 40000000 in
theorem rm2 (l : Launch) (Z : State) (A0 : Array Value) (hw : ∀ d ∈ tables_1, d.before A0 Z = true) (ws : List Jvm.Cond) (a0 : Addr) (p1 : Int32) (p2 : Int32) (p3 : Int32) (p4 : Int32) (u_passed : Value) (u_failed : Value) (u_errors : Value) (u_skipped : Value) (h0 : Heap) (n0 : Nat) (Z0 : n0 ≤ h0.size) (E_a0 : Exa Z h0 a0 "com/example/forkline/forkline/Tally") (F_passed_a0 : Fld Z h0 a0 "com/example/forkline/forkline/Tally" "passed" "I" u_passed) (F_failed_a0 : Fld Z h0 a0 "com/example/forkline/forkline/Tally" "failed" "I" u_failed) (F_errors_a0 : Fld Z h0 a0 "com/example/forkline/forkline/Tally" "errors" "I" u_errors) (F_skipped_a0 : Fld Z h0 a0 "com/example/forkline/forkline/Tally" "skipped" "I" u_skipped) (g_a0 : n0 ≤ a0) (hbd : 0 ≤ p1.toInt ∧ 0 ≤ p2.toInt ∧ 0 ≤ p3.toInt ∧ 0 ≤ p4.toInt ∧ p1.toInt + p2.toInt + p3.toInt + p4.toInt ≤ 2147483647) :
    MetFree l (⟨"com/example/forkline/forkline/Tally", "<init>", "(IIII)V"⟩ : MethodName) (head1 (Jvm.Cond.code (⟨"com/example/forkline/forkline/Tally", "<init>", "(IIII)V"⟩ : MethodName) prog_21_method_1_code 5 none :: ws) ({ frames := 2, cells := 0, slots := 0, locals := 24 } : Room)) (fun a U => a = #[(.ref a0), (.int p1), (.int p2), (.int p3), (.int p4)] ∧ Z.Warmed39 U.vm ∧ U.heap = h0) (fun _ _ _ _ _ => True) (fun _ U o U' => ∃ v L, o = .returned v ∧ Qrm2 Z a0 p1 p2 p3 p4 u_passed u_failed u_errors u_skipped h0 n0 v U'.heap L ∧ FrameEnd U o U' L ({ frames := 2, cells := 0, slots := 0, locals := 24 } : Room).cells ({ frames := 2, cells := 0, slots := 0, locals := 24 } : Room).slots) := by
  refine MetFree.of_bodySF (plainFor_of_name pn_2) hisR ?_
  intro p e s m args below meth c s₁ Bd hml0 hP hK
  obtain ⟨rfl, hZ, hh⟩ := hP
  have hx := Bd.exec
  have hby := Bd.bytes
  have hml : c.maxLocals = 5 := hml0
  have hown : s.vm.findClass "com/example/forkline/forkline/Tally" = some m.cls := findClass_of_methodNamed Bd.named
  have hnm := (name_of_methodNamed Bd.named Bd.method).1
  have X0 : Stand p l e ({ frames := 2, cells := 0, slots := 0, locals := 24 } : Room) s m #[(.ref a0), (.int p1), (.int p2), (.int p3), (.int p4)] below meth c s₁ [] 0 0 := Stand.of_body Bd
  have e0 : s₁.heap = h0 := by rw [← hh, Bd.state]; rfl
  have N0 := Fr.nil n0
  have K0 : Keep h0 h0 [a0] := Keep.refl _ _
  have pre0 : ∀ t, Steps p.tables e below (s₁.setTop (mkF m 0 #[.val (.ref a0), .val (.int p1), .val (.int p2), .val (.int p3), .val (.int p4)] [])) t → Steps p.tables e below (s₁.setTop (entryFrame m #[(.ref a0), (.int p1), (.int p2), (.int p3), (.int p4)] 5)) t := fun t k => castTop (ef_rm2 m a0 p1 p2 p3 p4) k
  obtain ⟨_, _, ⟨T1, L1, k1, n1⟩, -, X1, ⟨Lc1, hQ1, l1, y1, z1⟩, st1⟩ := X0.specialBack hx (y := (⟨"java/lang/Record", "<init>", "()V"⟩ : MethodName)) rfl hown (mvT hZ (hw _ (List.mem_of_getElem? (i := 11) rfl))) (mvT hZ (hw _ (List.mem_of_getElem? (i := 12) rfl))) (mvT hZ (hw _ (List.mem_of_getElem? (i := 15) rfl))) (by decide) (backOf (W := 0) (rm3 l Z A0 hw [] a0  h0 n0 Z0 ) hZ (hw _ (List.mem_of_getElem? (i := 15) rfl)) (hw _ (List.mem_of_getElem? (i := 14) rfl)) (by decide) (by decide)) (g := (mkF m 1 #[.val (.ref a0), .val (.int p1), .val (.int p2), .val (.int p3), .val (.int p4)] [(.ref a0)])) rfl (by rw [hml]; rfl) (Steps.refl _) (a := a0) (argsL := []) (rest := []) (lenOf pd_0 rfl) rfl (by show 2 * 0 + _ ≤ _; exact Nat.le_of_eq rfl) (hb hby d2_1) (fun _ _ => ⟨rfl, e0, (by decide : 0 + 0 ≤ _), (by decide : 0 + 0 ≤ _)⟩)
  dsimp only [Pt.U, Pt.locs, Pt.cells, Pt.slots] at X1 l1 y1 z1 st1 hQ1
  subst l1 y1 z1
  obtain ⟨rfl, N1q, eh1⟩ := hQ1
  have N1 := Fr.app N0 N1q
  obtain ⟨T2, h2, X2, e2, W2, st2⟩ := putF X1 hx hZ hown (host := "") (Or.inl (hw _ (List.mem_of_getElem? (i := 20) rfl))) Via.refl eh1 F_passed_a0 E_a0 (Or.inr ⟨(hw _ (List.mem_of_getElem? (i := 21) rfl)), rfl, hnm⟩) (hw _ (List.mem_of_getElem? (i := 6) rfl)) (ty := .int) (by decide) rfl rfl (g := (mkF m 101 #[.val (.ref a0), .val (.int p1), .val (.int p2), .val (.int p3), .val (.int p4)] [(.int p1), (.ref a0)])) rfl rfl (hb hby d2_101)
  have F_passed_a0 : Fld Z h2 a0 "com/example/forkline/forkline/Tally" "passed" "I" (.int p1) := F_passed_a0.same W2
  have E_a0 : Exa Z h2 a0 "com/example/forkline/forkline/Tally" := E_a0.wr W2
  have F_failed_a0 : Fld Z h2 a0 "com/example/forkline/forkline/Tally" "failed" "I" u_failed := F_failed_a0.other W2 (Or.inr (slot_ne (Or.inr (hw _ (List.mem_of_getElem? (i := 23) rfl))) (Or.inr (hw _ (List.mem_of_getElem? (i := 21) rfl))) (by decide) (t := .int) (t' := .int) (by decide) (by decide)))
  have F_errors_a0 : Fld Z h2 a0 "com/example/forkline/forkline/Tally" "errors" "I" u_errors := F_errors_a0.other W2 (Or.inr (slot_ne (Or.inr (hw _ (List.mem_of_getElem? (i := 25) rfl))) (Or.inr (hw _ (List.mem_of_getElem? (i := 21) rfl))) (by decide) (t := .int) (t' := .int) (by decide) (by decide)))
  have F_skipped_a0 : Fld Z h2 a0 "com/example/forkline/forkline/Tally" "skipped" "I" u_skipped := F_skipped_a0.other W2 (Or.inr (slot_ne (Or.inr (hw _ (List.mem_of_getElem? (i := 27) rfl))) (Or.inr (hw _ (List.mem_of_getElem? (i := 21) rfl))) (by decide) (t := .int) (t' := .int) (by decide) (by decide)))
  have Zh2 : n0 ≤ h2.size := Nat.le_trans Z0 (Keep.of_wr W2).1
  have Kh2 : Keep h0 h2 [a0] := K0.wr W2 (Or.inl (by simp))
  have N2 := Fr.snoc X2 N1 g_a0
  obtain ⟨T3, h3, X3, e3, W3, st3⟩ := putF X2 hx hZ hown (host := "") (Or.inl (hw _ (List.mem_of_getElem? (i := 22) rfl))) Via.refl e2 F_failed_a0 E_a0 (Or.inr ⟨(hw _ (List.mem_of_getElem? (i := 23) rfl)), rfl, hnm⟩) (hw _ (List.mem_of_getElem? (i := 6) rfl)) (ty := .int) (by decide) rfl rfl (g := (mkF m 106 #[.val (.ref a0), .val (.int p1), .val (.int p2), .val (.int p3), .val (.int p4)] [(.int p2), (.ref a0)])) rfl rfl (hb hby d2_106)
  have F_failed_a0 : Fld Z h3 a0 "com/example/forkline/forkline/Tally" "failed" "I" (.int p2) := F_failed_a0.same W3
  have E_a0 : Exa Z h3 a0 "com/example/forkline/forkline/Tally" := E_a0.wr W3
  have F_passed_a0 : Fld Z h3 a0 "com/example/forkline/forkline/Tally" "passed" "I" (.int p1) := F_passed_a0.other W3 (Or.inr (slot_ne (Or.inr (hw _ (List.mem_of_getElem? (i := 21) rfl))) (Or.inr (hw _ (List.mem_of_getElem? (i := 23) rfl))) (by decide) (t := .int) (t' := .int) (by decide) (by decide)))
  have F_errors_a0 : Fld Z h3 a0 "com/example/forkline/forkline/Tally" "errors" "I" u_errors := F_errors_a0.other W3 (Or.inr (slot_ne (Or.inr (hw _ (List.mem_of_getElem? (i := 25) rfl))) (Or.inr (hw _ (List.mem_of_getElem? (i := 23) rfl))) (by decide) (t := .int) (t' := .int) (by decide) (by decide)))
  have F_skipped_a0 : Fld Z h3 a0 "com/example/forkline/forkline/Tally" "skipped" "I" u_skipped := F_skipped_a0.other W3 (Or.inr (slot_ne (Or.inr (hw _ (List.mem_of_getElem? (i := 27) rfl))) (Or.inr (hw _ (List.mem_of_getElem? (i := 23) rfl))) (by decide) (t := .int) (t' := .int) (by decide) (by decide)))
  have Zh3 : n0 ≤ h3.size := Nat.le_trans Zh2 (Keep.of_wr W3).1
  have Kh3 : Keep h0 h3 [a0] := Kh2.wr W3 (Or.inl (by simp))
  have N3 := Fr.snoc X3 N2 g_a0
  obtain ⟨T4, h4, X4, e4, W4, st4⟩ := putF X3 hx hZ hown (host := "") (Or.inl (hw _ (List.mem_of_getElem? (i := 24) rfl))) Via.refl e3 F_errors_a0 E_a0 (Or.inr ⟨(hw _ (List.mem_of_getElem? (i := 25) rfl)), rfl, hnm⟩) (hw _ (List.mem_of_getElem? (i := 6) rfl)) (ty := .int) (by decide) rfl rfl (g := (mkF m 111 #[.val (.ref a0), .val (.int p1), .val (.int p2), .val (.int p3), .val (.int p4)] [(.int p3), (.ref a0)])) rfl rfl (hb hby d2_111)
  have F_errors_a0 : Fld Z h4 a0 "com/example/forkline/forkline/Tally" "errors" "I" (.int p3) := F_errors_a0.same W4
  have E_a0 : Exa Z h4 a0 "com/example/forkline/forkline/Tally" := E_a0.wr W4
  have F_passed_a0 : Fld Z h4 a0 "com/example/forkline/forkline/Tally" "passed" "I" (.int p1) := F_passed_a0.other W4 (Or.inr (slot_ne (Or.inr (hw _ (List.mem_of_getElem? (i := 21) rfl))) (Or.inr (hw _ (List.mem_of_getElem? (i := 25) rfl))) (by decide) (t := .int) (t' := .int) (by decide) (by decide)))
  have F_failed_a0 : Fld Z h4 a0 "com/example/forkline/forkline/Tally" "failed" "I" (.int p2) := F_failed_a0.other W4 (Or.inr (slot_ne (Or.inr (hw _ (List.mem_of_getElem? (i := 23) rfl))) (Or.inr (hw _ (List.mem_of_getElem? (i := 25) rfl))) (by decide) (t := .int) (t' := .int) (by decide) (by decide)))
  have F_skipped_a0 : Fld Z h4 a0 "com/example/forkline/forkline/Tally" "skipped" "I" u_skipped := F_skipped_a0.other W4 (Or.inr (slot_ne (Or.inr (hw _ (List.mem_of_getElem? (i := 27) rfl))) (Or.inr (hw _ (List.mem_of_getElem? (i := 25) rfl))) (by decide) (t := .int) (t' := .int) (by decide) (by decide)))
  have Zh4 : n0 ≤ h4.size := Nat.le_trans Zh3 (Keep.of_wr W4).1
  have Kh4 : Keep h0 h4 [a0] := Kh3.wr W4 (Or.inl (by simp))
  have N4 := Fr.snoc X4 N3 g_a0
  obtain ⟨T5, h5, X5, e5, W5, st5⟩ := putF X4 hx hZ hown (host := "") (Or.inl (hw _ (List.mem_of_getElem? (i := 26) rfl))) Via.refl e4 F_skipped_a0 E_a0 (Or.inr ⟨(hw _ (List.mem_of_getElem? (i := 27) rfl)), rfl, hnm⟩) (hw _ (List.mem_of_getElem? (i := 6) rfl)) (ty := .int) (by decide) rfl rfl (g := (mkF m 117 #[.val (.ref a0), .val (.int p1), .val (.int p2), .val (.int p3), .val (.int p4)] [(.int p4), (.ref a0)])) rfl rfl (hb hby d2_117)
  have F_skipped_a0 : Fld Z h5 a0 "com/example/forkline/forkline/Tally" "skipped" "I" (.int p4) := F_skipped_a0.same W5
  have E_a0 : Exa Z h5 a0 "com/example/forkline/forkline/Tally" := E_a0.wr W5
  have F_passed_a0 : Fld Z h5 a0 "com/example/forkline/forkline/Tally" "passed" "I" (.int p1) := F_passed_a0.other W5 (Or.inr (slot_ne (Or.inr (hw _ (List.mem_of_getElem? (i := 21) rfl))) (Or.inr (hw _ (List.mem_of_getElem? (i := 27) rfl))) (by decide) (t := .int) (t' := .int) (by decide) (by decide)))
  have F_failed_a0 : Fld Z h5 a0 "com/example/forkline/forkline/Tally" "failed" "I" (.int p2) := F_failed_a0.other W5 (Or.inr (slot_ne (Or.inr (hw _ (List.mem_of_getElem? (i := 23) rfl))) (Or.inr (hw _ (List.mem_of_getElem? (i := 27) rfl))) (by decide) (t := .int) (t' := .int) (by decide) (by decide)))
  have F_errors_a0 : Fld Z h5 a0 "com/example/forkline/forkline/Tally" "errors" "I" (.int p3) := F_errors_a0.other W5 (Or.inr (slot_ne (Or.inr (hw _ (List.mem_of_getElem? (i := 25) rfl))) (Or.inr (hw _ (List.mem_of_getElem? (i := 27) rfl))) (by decide) (t := .int) (t' := .int) (by decide) (by decide)))
  have Zh5 : n0 ≤ h5.size := Nat.le_trans Zh4 (Keep.of_wr W5).1
  have Kh5 : Keep h0 h5 [a0] := Kh4.wr W5 (Or.inl (by simp))
  have N5 := Fr.snoc X5 N4 g_a0
  obtain ⟨fs, hr, hrun, hended, hW, hsame⟩ := X5.leave (v := none) (fun _ => rfl)
  refine ⟨_, _, pre0 _ ?_, hrun, hended, _, _, rfl, ?_, ⟨_, rfl⟩, hW, hsame.mono (by decide) (by decide)⟩
  · show Steps p.tables e below (s₁.setTop (mkF m 0 #[.val (.ref a0), .val (.int p1), .val (.int p2), .val (.int p3), .val (.int p4)] [])) _
    refine XS.aloadN X0.here hx rfl (hb hby d2_0) rfl rfl ?_
    show Steps p.tables e below (s₁.setTop (mkF m 1 #[.val (.ref a0), .val (.int p1), .val (.int p2), .val (.int p3), .val (.int p4)] [(.ref a0)])) _
    refine st1.trans ?_
    show Steps p.tables e below (T1.setTop (mkF m 4 #[.val (.ref a0), .val (.int p1), .val (.int p2), .val (.int p3), .val (.int p4)] [])) _
    refine XS.iloadN X1.here hx rfl (hb hby d2_4) rfl ?_
    show Steps p.tables e below (T1.setTop (mkF m 5 #[.val (.ref a0), .val (.int p1), .val (.int p2), .val (.int p3), .val (.int p4)] [(.int p1)])) _
    refine XS.ifNo X1.here hx rfl (hb hby d2_5) rfl ((if0 _ _).trans (flt (own_ge hbd.1 : ¬ (p1 < (0 : Int32)))).1) ?_
    show Steps p.tables e below (T1.setTop (mkF m 8 #[.val (.ref a0), .val (.int p1), .val (.int p2), .val (.int p3), .val (.int p4)] [])) _
    refine XS.iloadN X1.here hx rfl (hb hby d2_8) rfl ?_
    show Steps p.tables e below (T1.setTop (mkF m 9 #[.val (.ref a0), .val (.int p1), .val (.int p2), .val (.int p3), .val (.int p4)] [(.int p2)])) _
    refine XS.ifNo X1.here hx rfl (hb hby d2_9) rfl ((if0 _ _).trans (flt (own_ge hbd.2.1 : ¬ (p2 < (0 : Int32)))).1) ?_
    show Steps p.tables e below (T1.setTop (mkF m 12 #[.val (.ref a0), .val (.int p1), .val (.int p2), .val (.int p3), .val (.int p4)] [])) _
    refine XS.iloadN X1.here hx rfl (hb hby d2_12) rfl ?_
    show Steps p.tables e below (T1.setTop (mkF m 13 #[.val (.ref a0), .val (.int p1), .val (.int p2), .val (.int p3), .val (.int p4)] [(.int p3)])) _
    refine XS.ifNo X1.here hx rfl (hb hby d2_13) rfl ((if0 _ _).trans (flt (own_ge hbd.2.2.1 : ¬ (p3 < (0 : Int32)))).1) ?_
    show Steps p.tables e below (T1.setTop (mkF m 16 #[.val (.ref a0), .val (.int p1), .val (.int p2), .val (.int p3), .val (.int p4)] [])) _
    refine XS.iload X1.here hx rfl (hb hby d2_16) rfl ?_
    show Steps p.tables e below (T1.setTop (mkF m 18 #[.val (.ref a0), .val (.int p1), .val (.int p2), .val (.int p3), .val (.int p4)] [(.int p4)])) _
    refine XS.ifYes X1.here hx rfl (pc0 := 18) (pc' := 70) rfl (hb hby d2_18) rfl ((if0 _ _).trans (flt (own_ge hbd.2.2.2.1 : ¬ (p4 < (0 : Int32)))).2.1) (by decide) (by decide) ?_
    show Steps p.tables e below (T1.setTop (mkF m 70 #[.val (.ref a0), .val (.int p1), .val (.int p2), .val (.int p3), .val (.int p4)] [])) _
    refine XS.iloadN X1.here hx rfl (hb hby d2_70) rfl ?_
    show Steps p.tables e below (T1.setTop (mkF m 71 #[.val (.ref a0), .val (.int p1), .val (.int p2), .val (.int p3), .val (.int p4)] [(.int p1)])) _
    refine XS.i2l X1.here hx rfl (hb hby d2_71) rfl ?_
    show Steps p.tables e below (T1.setTop (mkF m 72 #[.val (.ref a0), .val (.int p1), .val (.int p2), .val (.int p3), .val (.int p4)] [(.long (p1.toInt64))])) _
    refine XS.iloadN X1.here hx rfl (hb hby d2_72) rfl ?_
    show Steps p.tables e below (T1.setTop (mkF m 73 #[.val (.ref a0), .val (.int p1), .val (.int p2), .val (.int p3), .val (.int p4)] [(.int p2), (.long (p1.toInt64))])) _
    refine XS.i2l X1.here hx rfl (hb hby d2_73) rfl ?_
    show Steps p.tables e below (T1.setTop (mkF m 74 #[.val (.ref a0), .val (.int p1), .val (.int p2), .val (.int p3), .val (.int p4)] [(.long (p2.toInt64)), (.long (p1.toInt64))])) _
    refine XS.ladd X1.here hx rfl (hb hby d2_74) rfl ?_
    show Steps p.tables e below (T1.setTop (mkF m 75 #[.val (.ref a0), .val (.int p1), .val (.int p2), .val (.int p3), .val (.int p4)] [(.long ((p1.toInt64) + (p2.toInt64)))])) _
    refine XS.iloadN X1.here hx rfl (hb hby d2_75) rfl ?_
    show Steps p.tables e below (T1.setTop (mkF m 76 #[.val (.ref a0), .val (.int p1), .val (.int p2), .val (.int p3), .val (.int p4)] [(.int p3), (.long ((p1.toInt64) + (p2.toInt64)))])) _
    refine XS.i2l X1.here hx rfl (hb hby d2_76) rfl ?_
    show Steps p.tables e below (T1.setTop (mkF m 77 #[.val (.ref a0), .val (.int p1), .val (.int p2), .val (.int p3), .val (.int p4)] [(.long (p3.toInt64)), (.long ((p1.toInt64) + (p2.toInt64)))])) _
    refine XS.ladd X1.here hx rfl (hb hby d2_77) rfl ?_
    show Steps p.tables e below (T1.setTop (mkF m 78 #[.val (.ref a0), .val (.int p1), .val (.int p2), .val (.int p3), .val (.int p4)] [(.long (((p1.toInt64) + (p2.toInt64)) + (p3.toInt64)))])) _
    refine XS.iload X1.here hx rfl (hb hby d2_78) rfl ?_
    show Steps p.tables e below (T1.setTop (mkF m 80 #[.val (.ref a0), .val (.int p1), .val (.int p2), .val (.int p3), .val (.int p4)] [(.int p4), (.long (((p1.toInt64) + (p2.toInt64)) + (p3.toInt64)))])) _
    refine XS.i2l X1.here hx rfl (hb hby d2_80) rfl ?_
    show Steps p.tables e below (T1.setTop (mkF m 81 #[.val (.ref a0), .val (.int p1), .val (.int p2), .val (.int p3), .val (.int p4)] [(.long (p4.toInt64)), (.long (((p1.toInt64) + (p2.toInt64)) + (p3.toInt64)))])) _
    refine XS.ladd X1.here hx rfl (hb hby d2_81) rfl ?_
    show Steps p.tables e below (T1.setTop (mkF m 82 #[.val (.ref a0), .val (.int p1), .val (.int p2), .val (.int p3), .val (.int p4)] [(.long ((((p1.toInt64) + (p2.toInt64)) + (p3.toInt64)) + (p4.toInt64)))])) _
    refine X1.ldc2Long hx hown (mvT hZ (hw _ (List.mem_of_getElem? (i := 19) rfl))) (g := (mkF m 82 #[.val (.ref a0), .val (.int p1), .val (.int p2), .val (.int p3), .val (.int p4)] [(.long ((((p1.toInt64) + (p2.toInt64)) + (p3.toInt64)) + (p4.toInt64)))])) rfl (hb hby d2_82) _ ?_
    show Steps p.tables e below (T1.setTop (mkF m 85 #[.val (.ref a0), .val (.int p1), .val (.int p2), .val (.int p3), .val (.int p4)] [(.long (2147483647 : Int64)), (.long ((((p1.toInt64) + (p2.toInt64)) + (p3.toInt64)) + (p4.toInt64)))])) _
    refine XS.lcmp X1.here hx rfl (hb hby d2_85) rfl ?_
    show Steps p.tables e below (T1.setTop (mkF m 86 #[.val (.ref a0), .val (.int p1), .val (.int p2), .val (.int p3), .val (.int p4)] [(.int (lcmpW ((((p1.toInt64) + (p2.toInt64)) + (p3.toInt64)) + (p4.toInt64)) (2147483647 : Int64)))])) _
    refine XS.ifYes X1.here hx rfl (pc0 := 86) (pc' := 99) rfl (hb hby d2_86) rfl ((if0 _ _).trans (flt (mt (lw_gt _ _).mp (own_sum4 hbd : ¬ ((2147483647 : Int64) < ((((p1.toInt64) + (p2.toInt64)) + (p3.toInt64)) + (p4.toInt64)))))).2.2.2) (by decide) (by decide) ?_
    show Steps p.tables e below (T1.setTop (mkF m 99 #[.val (.ref a0), .val (.int p1), .val (.int p2), .val (.int p3), .val (.int p4)] [])) _
    refine XS.aloadN X1.here hx rfl (hb hby d2_99) rfl rfl ?_
    show Steps p.tables e below (T1.setTop (mkF m 100 #[.val (.ref a0), .val (.int p1), .val (.int p2), .val (.int p3), .val (.int p4)] [(.ref a0)])) _
    refine XS.iloadN X1.here hx rfl (hb hby d2_100) rfl ?_
    show Steps p.tables e below (T1.setTop (mkF m 101 #[.val (.ref a0), .val (.int p1), .val (.int p2), .val (.int p3), .val (.int p4)] [(.int p1), (.ref a0)])) _
    refine st2 _ ?_
    show Steps p.tables e below (T2.setTop (mkF m 104 #[.val (.ref a0), .val (.int p1), .val (.int p2), .val (.int p3), .val (.int p4)] [])) _
    refine XS.aloadN X2.here hx rfl (hb hby d2_104) rfl rfl ?_
    show Steps p.tables e below (T2.setTop (mkF m 105 #[.val (.ref a0), .val (.int p1), .val (.int p2), .val (.int p3), .val (.int p4)] [(.ref a0)])) _
    refine XS.iloadN X2.here hx rfl (hb hby d2_105) rfl ?_
    show Steps p.tables e below (T2.setTop (mkF m 106 #[.val (.ref a0), .val (.int p1), .val (.int p2), .val (.int p3), .val (.int p4)] [(.int p2), (.ref a0)])) _
    refine st3 _ ?_
    show Steps p.tables e below (T3.setTop (mkF m 109 #[.val (.ref a0), .val (.int p1), .val (.int p2), .val (.int p3), .val (.int p4)] [])) _
    refine XS.aloadN X3.here hx rfl (hb hby d2_109) rfl rfl ?_
    show Steps p.tables e below (T3.setTop (mkF m 110 #[.val (.ref a0), .val (.int p1), .val (.int p2), .val (.int p3), .val (.int p4)] [(.ref a0)])) _
    refine XS.iloadN X3.here hx rfl (hb hby d2_110) rfl ?_
    show Steps p.tables e below (T3.setTop (mkF m 111 #[.val (.ref a0), .val (.int p1), .val (.int p2), .val (.int p3), .val (.int p4)] [(.int p3), (.ref a0)])) _
    refine st4 _ ?_
    show Steps p.tables e below (T4.setTop (mkF m 114 #[.val (.ref a0), .val (.int p1), .val (.int p2), .val (.int p3), .val (.int p4)] [])) _
    refine XS.aloadN X4.here hx rfl (hb hby d2_114) rfl rfl ?_
    show Steps p.tables e below (T4.setTop (mkF m 115 #[.val (.ref a0), .val (.int p1), .val (.int p2), .val (.int p3), .val (.int p4)] [(.ref a0)])) _
    refine XS.iload X4.here hx rfl (hb hby d2_115) rfl ?_
    show Steps p.tables e below (T4.setTop (mkF m 117 #[.val (.ref a0), .val (.int p1), .val (.int p2), .val (.int p3), .val (.int p4)] [(.int p4), (.ref a0)])) _
    refine st5 _ ?_
    show Steps p.tables e below (T5.setTop (mkF m 120 #[.val (.ref a0), .val (.int p1), .val (.int p2), .val (.int p3), .val (.int p4)] [])) _
    exact X5.returnOut hx Bd.returns (hb hby d2_120) hr
  · show Qrm2 Z a0 p1 p2 p3 p4 u_passed u_failed u_errors u_skipped h0 n0 _ T5.heap _
    rw [e5]
    exact ⟨rfl, N5, Kh5, E_a0, F_passed_a0, F_failed_a0, F_errors_a0, F_skipped_a0⟩
theorem d7_0 : decode prog_21_method_9_code 0 = .ok (.aload_n 0, 1) := by decide +kernel
theorem d7_1 : decode prog_21_method_9_code 1 = .ok (.getfield 38, 3) := by decide +kernel
theorem d7_4 : decode prog_21_method_9_code 4 = .ok (.ireturn, 1) := by decide +kernel
theorem pn_7 : plainName "com/example/forkline/forkline/Tally" = true := by first | (simp [plainName, overriddenIn]; done) | decide +kernel
theorem ef_rm7 (m : MethodId) (a0 : Addr) : entryFrame m #[(.ref a0)] 1 = mkF m 0 #[.val (.ref a0)] [] := by first | (simp [entryFrame, mkF, argsToLocals, Value.category]; done) | rfl
def Qrm7 (Z : State) (a0 : Addr) (xx : Int32) (h0 : Heap) (n0 : Nat) (v : Option Value) (h : Heap) (L : List Loc) : Prop := v = some (.int xx) ∧ Fr n0 L ∧ h = h0
set_option maxRecDepth 65536 in
set_option maxHeartbeats 40000000 in
theorem rm7 (l : Launch) (Z : State) (A0 : Array Value) (hw : ∀ d ∈ tables_1, d.before A0 Z = true) (ws : List Jvm.Cond) (a0 : Addr) (xx : Int32) (h0 : Heap) (n0 : Nat) (Z0 : n0 ≤ h0.size) (F_passed_a0 : Fld Z h0 a0 "com/example/forkline/forkline/Tally" "passed" "I" (.int xx)) :
    MetFree l (⟨"com/example/forkline/forkline/Tally", "passed", "()I"⟩ : MethodName) (head1 (Jvm.Cond.code (⟨"com/example/forkline/forkline/Tally", "passed", "()I"⟩ : MethodName) prog_21_method_9_code 1 (some .int) :: ws) ({ frames := 0, cells := 0, slots := 0, locals := 0 } : Room)) (fun a U => a = #[(.ref a0)] ∧ Z.Warmed39 U.vm ∧ U.heap = h0) (fun _ _ _ _ _ => True) (fun _ U o U' => ∃ v L, o = .returned v ∧ Qrm7 Z a0 xx h0 n0 v U'.heap L ∧ FrameEnd U o U' L ({ frames := 0, cells := 0, slots := 0, locals := 0 } : Room).cells ({ frames := 0, cells := 0, slots := 0, locals := 0 } : Room).slots) := by
  refine MetFree.of_bodySF (plainFor_of_name pn_7) hisR ?_
  intro p e s m args below meth c s₁ Bd hml0 hP hK
  obtain ⟨rfl, hZ, hh⟩ := hP
  have hx := Bd.exec
  have hby := Bd.bytes
  have hml : c.maxLocals = 1 := hml0
  have hown : s.vm.findClass "com/example/forkline/forkline/Tally" = some m.cls := findClass_of_methodNamed Bd.named
  have hnm := (name_of_methodNamed Bd.named Bd.method).1
  have X0 : Stand p l e ({ frames := 0, cells := 0, slots := 0, locals := 0 } : Room) s m #[(.ref a0)] below meth c s₁ [] 0 0 := Stand.of_body Bd
  have e0 : s₁.heap = h0 := by rw [← hh, Bd.state]; rfl
  have N0 := Fr.nil n0
  have K0 : Keep h0 h0 [] := Keep.refl _ _
  have pre0 : ∀ t, Steps p.tables e below (s₁.setTop (mkF m 0 #[.val (.ref a0)] [])) t → Steps p.tables e below (s₁.setTop (entryFrame m #[(.ref a0)] 1)) t := fun t k => castTop (ef_rm7 m a0) k
  obtain ⟨T1, X1, e1, st1⟩ := getF X0 hx hZ hown (host := "") (Or.inl (hw _ (List.mem_of_getElem? (i := 20) rfl))) Via.refl e0 F_passed_a0 (g := (mkF m 1 #[.val (.ref a0)] [(.ref a0)])) rfl rfl (hb hby d7_1)
  obtain ⟨fs, hr, hrun, hended, hW, hsame⟩ := X1.leave (v := some (.int xx)) (fun h => by rw [Bd.returns] at h; cases h)
  refine ⟨_, _, pre0 _ ?_, hrun, hended, _, _, rfl, ?_, ⟨_, rfl⟩, hW, hsame.mono (by decide) (by decide)⟩
  · show Steps p.tables e below (s₁.setTop (mkF m 0 #[.val (.ref a0)] [])) _
    refine XS.aloadN X0.here hx rfl (hb hby d7_0) rfl rfl ?_
    show Steps p.tables e below (s₁.setTop (mkF m 1 #[.val (.ref a0)] [(.ref a0)])) _
    refine st1 _ ?_
    show Steps p.tables e below (T1.setTop (mkF m 4 #[.val (.ref a0)] [(.int xx)])) _
    exact retI X1 hx Bd.returns (hb hby d7_4) hr
  · show Qrm7 Z a0 xx h0 n0 _ T1.heap _
    rw [e1]
    exact ⟨rfl, N0, rfl⟩
theorem d8_0 : decode prog_21_method_10_code 0 = .ok (.aload_n 0, 1) := by decide +kernel
theorem d8_1 : decode prog_21_method_10_code 1 = .ok (.getfield 44, 3) := by decide +kernel
theorem d8_4 : decode prog_21_method_10_code 4 = .ok (.ireturn, 1) := by decide +kernel
theorem pn_8 : plainName "com/example/forkline/forkline/Tally" = true := by first | (simp [plainName, overriddenIn]; done) | decide +kernel
theorem ef_rm8 (m : MethodId) (a0 : Addr) : entryFrame m #[(.ref a0)] 1 = mkF m 0 #[.val (.ref a0)] [] := by first | (simp [entryFrame, mkF, argsToLocals, Value.category]; done) | rfl
def Qrm8 (Z : State) (a0 : Addr) (xx : Int32) (h0 : Heap) (n0 : Nat) (v : Option Value) (h : Heap) (L : List Loc) : Prop := v = some (.int xx) ∧ Fr n0 L ∧ h = h0
set_option maxRecDepth 65536 in
set_option maxHeartbeats 40000000 in
theorem rm8 (l : Launch) (Z : State) (A0 : Array Value) (hw : ∀ d ∈ tables_1, d.before A0 Z = true) (ws : List Jvm.Cond) (a0 : Addr) (xx : Int32) (h0 : Heap) (n0 : Nat) (Z0 : n0 ≤ h0.size) (F_failed_a0 : Fld Z h0 a0 "com/example/forkline/forkline/Tally" "failed" "I" (.int xx)) :
    MetFree l (⟨"com/example/forkline/forkline/Tally", "failed", "()I"⟩ : MethodName) (head1 (Jvm.Cond.code (⟨"com/example/forkline/forkline/Tally", "failed", "()I"⟩ : MethodName) prog_21_method_10_code 1 (some .int) :: ws) ({ frames := 0, cells := 0, slots := 0, locals := 0 } : Room)) (fun a U => a = #[(.ref a0)] ∧ Z.Warmed39 U.vm ∧ U.heap = h0) (fun _ _ _ _ _ => True) (fun _ U o U' => ∃ v L, o = .returned v ∧ Qrm8 Z a0 xx h0 n0 v U'.heap L ∧ FrameEnd U o U' L ({ frames := 0, cells := 0, slots := 0, locals := 0 } : Room).cells ({ frames := 0, cells := 0, slots := 0, locals := 0 } : Room).slots) := by
  refine MetFree.of_bodySF (plainFor_of_name pn_8) hisR ?_
  intro p e s m args below meth c s₁ Bd hml0 hP hK
  obtain ⟨rfl, hZ, hh⟩ := hP
  have hx := Bd.exec
  have hby := Bd.bytes
  have hml : c.maxLocals = 1 := hml0
  have hown : s.vm.findClass "com/example/forkline/forkline/Tally" = some m.cls := findClass_of_methodNamed Bd.named
  have hnm := (name_of_methodNamed Bd.named Bd.method).1
  have X0 : Stand p l e ({ frames := 0, cells := 0, slots := 0, locals := 0 } : Room) s m #[(.ref a0)] below meth c s₁ [] 0 0 := Stand.of_body Bd
  have e0 : s₁.heap = h0 := by rw [← hh, Bd.state]; rfl
  have N0 := Fr.nil n0
  have K0 : Keep h0 h0 [] := Keep.refl _ _
  have pre0 : ∀ t, Steps p.tables e below (s₁.setTop (mkF m 0 #[.val (.ref a0)] [])) t → Steps p.tables e below (s₁.setTop (entryFrame m #[(.ref a0)] 1)) t := fun t k => castTop (ef_rm8 m a0) k
  obtain ⟨T1, X1, e1, st1⟩ := getF X0 hx hZ hown (host := "") (Or.inl (hw _ (List.mem_of_getElem? (i := 22) rfl))) Via.refl e0 F_failed_a0 (g := (mkF m 1 #[.val (.ref a0)] [(.ref a0)])) rfl rfl (hb hby d8_1)
  obtain ⟨fs, hr, hrun, hended, hW, hsame⟩ := X1.leave (v := some (.int xx)) (fun h => by rw [Bd.returns] at h; cases h)
  refine ⟨_, _, pre0 _ ?_, hrun, hended, _, _, rfl, ?_, ⟨_, rfl⟩, hW, hsame.mono (by decide) (by decide)⟩
  · show Steps p.tables e below (s₁.setTop (mkF m 0 #[.val (.ref a0)] [])) _
    refine XS.aloadN X0.here hx rfl (hb hby d8_0) rfl rfl ?_
    show Steps p.tables e below (s₁.setTop (mkF m 1 #[.val (.ref a0)] [(.ref a0)])) _
    refine st1 _ ?_
    show Steps p.tables e below (T1.setTop (mkF m 4 #[.val (.ref a0)] [(.int xx)])) _
    exact retI X1 hx Bd.returns (hb hby d8_4) hr
  · show Qrm8 Z a0 xx h0 n0 _ T1.heap _
    rw [e1]
    exact ⟨rfl, N0, rfl⟩
theorem d9_0 : decode prog_21_method_11_code 0 = .ok (.aload_n 0, 1) := by decide +kernel
theorem d9_1 : decode prog_21_method_11_code 1 = .ok (.getfield 47, 3) := by decide +kernel
theorem d9_4 : decode prog_21_method_11_code 4 = .ok (.ireturn, 1) := by decide +kernel
theorem pn_9 : plainName "com/example/forkline/forkline/Tally" = true := by first | (simp [plainName, overriddenIn]; done) | decide +kernel
theorem ef_rm9 (m : MethodId) (a0 : Addr) : entryFrame m #[(.ref a0)] 1 = mkF m 0 #[.val (.ref a0)] [] := by first | (simp [entryFrame, mkF, argsToLocals, Value.category]; done) | rfl
def Qrm9 (Z : State) (a0 : Addr) (xx : Int32) (h0 : Heap) (n0 : Nat) (v : Option Value) (h : Heap) (L : List Loc) : Prop := v = some (.int xx) ∧ Fr n0 L ∧ h = h0
set_option maxRecDepth 65536 in
set_option maxHeartbeats 40000000 in
theorem rm9 (l : Launch) (Z : State) (A0 : Array Value) (hw : ∀ d ∈ tables_1, d.before A0 Z = true) (ws : List Jvm.Cond) (a0 : Addr) (xx : Int32) (h0 : Heap) (n0 : Nat) (Z0 : n0 ≤ h0.size) (F_errors_a0 : Fld Z h0 a0 "com/example/forkline/forkline/Tally" "errors" "I" (.int xx)) :
    MetFree l (⟨"com/example/forkline/forkline/Tally", "errors", "()I"⟩ : MethodName) (head1 (Jvm.Cond.code (⟨"com/example/forkline/forkline/Tally", "errors", "()I"⟩ : MethodName) prog_21_method_11_code 1 (some .int) :: ws) ({ frames := 0, cells := 0, slots := 0, locals := 0 } : Room)) (fun a U => a = #[(.ref a0)] ∧ Z.Warmed39 U.vm ∧ U.heap = h0) (fun _ _ _ _ _ => True) (fun _ U o U' => ∃ v L, o = .returned v ∧ Qrm9 Z a0 xx h0 n0 v U'.heap L ∧ FrameEnd U o U' L ({ frames := 0, cells := 0, slots := 0, locals := 0 } : Room).cells ({ frames := 0, cells := 0, slots := 0, locals := 0 } : Room).slots) := by
  refine MetFree.of_bodySF (plainFor_of_name pn_9) hisR ?_
  intro p e s m args below meth c s₁ Bd hml0 hP hK
  obtain ⟨rfl, hZ, hh⟩ := hP
  have hx := Bd.exec
  have hby := Bd.bytes
  have hml : c.maxLocals = 1 := hml0
  have hown : s.vm.findClass "com/example/forkline/forkline/Tally" = some m.cls := findClass_of_methodNamed Bd.named
  have hnm := (name_of_methodNamed Bd.named Bd.method).1
  have X0 : Stand p l e ({ frames := 0, cells := 0, slots := 0, locals := 0 } : Room) s m #[(.ref a0)] below meth c s₁ [] 0 0 := Stand.of_body Bd
  have e0 : s₁.heap = h0 := by rw [← hh, Bd.state]; rfl
  have N0 := Fr.nil n0
  have K0 : Keep h0 h0 [] := Keep.refl _ _
  have pre0 : ∀ t, Steps p.tables e below (s₁.setTop (mkF m 0 #[.val (.ref a0)] [])) t → Steps p.tables e below (s₁.setTop (entryFrame m #[(.ref a0)] 1)) t := fun t k => castTop (ef_rm9 m a0) k
  obtain ⟨T1, X1, e1, st1⟩ := getF X0 hx hZ hown (host := "") (Or.inl (hw _ (List.mem_of_getElem? (i := 24) rfl))) Via.refl e0 F_errors_a0 (g := (mkF m 1 #[.val (.ref a0)] [(.ref a0)])) rfl rfl (hb hby d9_1)
  obtain ⟨fs, hr, hrun, hended, hW, hsame⟩ := X1.leave (v := some (.int xx)) (fun h => by rw [Bd.returns] at h; cases h)
  refine ⟨_, _, pre0 _ ?_, hrun, hended, _, _, rfl, ?_, ⟨_, rfl⟩, hW, hsame.mono (by decide) (by decide)⟩
  · show Steps p.tables e below (s₁.setTop (mkF m 0 #[.val (.ref a0)] [])) _
    refine XS.aloadN X0.here hx rfl (hb hby d9_0) rfl rfl ?_
    show Steps p.tables e below (s₁.setTop (mkF m 1 #[.val (.ref a0)] [(.ref a0)])) _
    refine st1 _ ?_
    show Steps p.tables e below (T1.setTop (mkF m 4 #[.val (.ref a0)] [(.int xx)])) _
    exact retI X1 hx Bd.returns (hb hby d9_4) hr
  · show Qrm9 Z a0 xx h0 n0 _ T1.heap _
    rw [e1]
    exact ⟨rfl, N0, rfl⟩
theorem d10_0 : decode prog_21_method_12_code 0 = .ok (.aload_n 0, 1) := by decide +kernel
theorem d10_1 : decode prog_21_method_12_code 1 = .ok (.getfield 50, 3) := by decide +kernel
theorem d10_4 : decode prog_21_method_12_code 4 = .ok (.ireturn, 1) := by decide +kernel
theorem pn_10 : plainName "com/example/forkline/forkline/Tally" = true := by first | (simp [plainName, overriddenIn]; done) | decide +kernel
theorem ef_rm10 (m : MethodId) (a0 : Addr) : entryFrame m #[(.ref a0)] 1 = mkF m 0 #[.val (.ref a0)] [] := by first | (simp [entryFrame, mkF, argsToLocals, Value.category]; done) | rfl
def Qrm10 (Z : State) (a0 : Addr) (xx : Int32) (h0 : Heap) (n0 : Nat) (v : Option Value) (h : Heap) (L : List Loc) : Prop := v = some (.int xx) ∧ Fr n0 L ∧ h = h0
set_option maxRecDepth 65536 in
set_option maxHeartbeats 40000000 in
theorem rm10 (l : Launch) (Z : State) (A0 : Array Value) (hw : ∀ d ∈ tables_1, d.before A0 Z = true) (ws : List Jvm.Cond) (a0 : Addr) (xx : Int32) (h0 : Heap) (n0 : Nat) (Z0 : n0 ≤ h0.size) (F_skipped_a0 : Fld Z h0 a0 "com/example/forkline/forkline/Tally" "skipped" "I" (.int xx)) :
    MetFree l (⟨"com/example/forkline/forkline/Tally", "skipped", "()I"⟩ : MethodName) (head1 (Jvm.Cond.code (⟨"com/example/forkline/forkline/Tally", "skipped", "()I"⟩ : MethodName) prog_21_method_12_code 1 (some .int) :: ws) ({ frames := 0, cells := 0, slots := 0, locals := 0 } : Room)) (fun a U => a = #[(.ref a0)] ∧ Z.Warmed39 U.vm ∧ U.heap = h0) (fun _ _ _ _ _ => True) (fun _ U o U' => ∃ v L, o = .returned v ∧ Qrm10 Z a0 xx h0 n0 v U'.heap L ∧ FrameEnd U o U' L ({ frames := 0, cells := 0, slots := 0, locals := 0 } : Room).cells ({ frames := 0, cells := 0, slots := 0, locals := 0 } : Room).slots) := by
  refine MetFree.of_bodySF (plainFor_of_name pn_10) hisR ?_
  intro p e s m args below meth c s₁ Bd hml0 hP hK
  obtain ⟨rfl, hZ, hh⟩ := hP
  have hx := Bd.exec
  have hby := Bd.bytes
  have hml : c.maxLocals = 1 := hml0
  have hown : s.vm.findClass "com/example/forkline/forkline/Tally" = some m.cls := findClass_of_methodNamed Bd.named
  have hnm := (name_of_methodNamed Bd.named Bd.method).1
  have X0 : Stand p l e ({ frames := 0, cells := 0, slots := 0, locals := 0 } : Room) s m #[(.ref a0)] below meth c s₁ [] 0 0 := Stand.of_body Bd
  have e0 : s₁.heap = h0 := by rw [← hh, Bd.state]; rfl
  have N0 := Fr.nil n0
  have K0 : Keep h0 h0 [] := Keep.refl _ _
  have pre0 : ∀ t, Steps p.tables e below (s₁.setTop (mkF m 0 #[.val (.ref a0)] [])) t → Steps p.tables e below (s₁.setTop (entryFrame m #[(.ref a0)] 1)) t := fun t k => castTop (ef_rm10 m a0) k
  obtain ⟨T1, X1, e1, st1⟩ := getF X0 hx hZ hown (host := "") (Or.inl (hw _ (List.mem_of_getElem? (i := 26) rfl))) Via.refl e0 F_skipped_a0 (g := (mkF m 1 #[.val (.ref a0)] [(.ref a0)])) rfl rfl (hb hby d10_1)
  obtain ⟨fs, hr, hrun, hended, hW, hsame⟩ := X1.leave (v := some (.int xx)) (fun h => by rw [Bd.returns] at h; cases h)
  refine ⟨_, _, pre0 _ ?_, hrun, hended, _, _, rfl, ?_, ⟨_, rfl⟩, hW, hsame.mono (by decide) (by decide)⟩
  · show Steps p.tables e below (s₁.setTop (mkF m 0 #[.val (.ref a0)] [])) _
    refine XS.aloadN X0.here hx rfl (hb hby d10_0) rfl rfl ?_
    show Steps p.tables e below (s₁.setTop (mkF m 1 #[.val (.ref a0)] [(.ref a0)])) _
    refine st1 _ ?_
    show Steps p.tables e below (T1.setTop (mkF m 4 #[.val (.ref a0)] [(.int xx)])) _
    exact retI X1 hx Bd.returns (hb hby d10_4) hr
  · show Qrm10 Z a0 xx h0 n0 _ T1.heap _
    rw [e1]
    exact ⟨rfl, N0, rfl⟩
theorem own_r {q : Int64} (h : 0 ≤ q.toInt ∧ q.toInt ≤ 2147483647) : (q + (1 : Int64)).toInt = q.toInt + 1 := by
  have x := c_ladd q 1; have u := rng64 (q + (1 : Int64)); rw [own_1_64] at x; omega
theorem own_take {z : Int64} {q : Int64} (h : 0 ≤ q.toInt ∧ q.toInt ≤ 2147483647) : 0 ≤ ((((z &&& (2147483647 : Int64)) % (q + (1 : Int64))).toInt32)).toInt ∧ ((((z &&& (2147483647 : Int64)) % (q + (1 : Int64))).toInt32)).toInt ≤ q.toInt := by
  have x := own_rem (own_mask z) (own_r h) h
  rw [own_nn (by omega)]; exact x.2
theorem own_less {q : Int64} {t : Int32} (h : 0 ≤ q.toInt ∧ q.toInt ≤ 2147483647) (k : 0 ≤ t.toInt ∧ t.toInt ≤ q.toInt) : (q - (t.toInt64)).toInt = q.toInt - t.toInt := by
  have x := c_lsub q (t.toInt64); have u := rng64 (q - (t.toInt64)); rw [c_i2l] at x; omega
theorem own_ax {a b : Int32} (h : 0 ≤ a.toInt ∧ 0 ≤ b.toInt ∧ a.toInt + b.toInt ≤ 2147483647) : (a + b).toInt = a.toInt + b.toInt ∧ ¬ (((a ^^^ (a + b)) &&& (b ^^^ (a + b))) < (0 : Int32)) := by
  have x := c_iadd a b; have u := rng32 (a + b)
  have e : (a + b).toInt = a.toInt + b.toInt := by omega
  refine ⟨e, ?_⟩
  rw [Int32.lt_iff_toInt_lt, own_z32]
  have y := (c_xorS a (a + b)).2.2.2 h.1 (by omega)
  have z := (c_andS (a ^^^ (a + b)) (b ^^^ (a + b))).2.1 y
  omega
theorem own_two {a b : Int32} (h : 0 ≤ a.toInt ∧ 0 ≤ b.toInt ∧ a.toInt + b.toInt ≤ 2147483647) : ((a + b).toInt64) = ((a.toInt64) + (b.toInt64)) := by
  apply Int64.toInt_inj.mp; rw [c_i2l, (own_ax h).1]
  have x := c_ladd (a.toInt64) (b.toInt64); have u := rng64 ((a.toInt64) + (b.toInt64)); rw [c_i2l, c_i2l] at x; omega
theorem own_two' {a b : Int32} (h : 0 ≤ a.toInt ∧ 0 ≤ b.toInt ∧ a.toInt + b.toInt ≤ 2147483647) : ((b + a).toInt64) = ((a.toInt64) + (b.toInt64)) := by
  rw [Int32.add_comm b a]; exact own_two h
theorem own_par {a b c d a' b' c' d' : Int32} (h : 0 ≤ a.toInt ∧ 0 ≤ b.toInt ∧ 0 ≤ c.toInt ∧ 0 ≤ d.toInt ∧ 0 ≤ a'.toInt ∧ 0 ≤ b'.toInt ∧ 0 ≤ c'.toInt ∧ 0 ≤ d'.toInt ∧ a.toInt + b.toInt + c.toInt + d.toInt + a'.toInt + b'.toInt + c'.toInt + d'.toInt ≤ 2147483647) :
    0 ≤ (a + a').toInt ∧ 0 ≤ (b + b').toInt ∧ 0 ≤ (c + c').toInt ∧ 0 ≤ (d + d').toInt ∧ (a + a').toInt + (b + b').toInt + (c + c').toInt + (d + d').toInt ≤ 2147483647 := by
  have x1 := (own_ax (a := a) (b := a') (by omega)).1; have x2 := (own_ax (a := b) (b := b') (by omega)).1; have x3 := (own_ax (a := c) (b := c') (by omega)).1; have x4 := (own_ax (a := d) (b := d') (by omega)).1
  omega
theorem d1_0 : decode method_2_code 0 = .ok (.iload_n 0, 1) := by decide +kernel
theorem d1_1 : decode method_2_code 1 = .ok (.i2l, 1) := by decide +kernel
theorem d1_2 : decode method_2_code 2 = .ok (.ldc2_w 7, 3) := by decide +kernel
theorem d1_5 : decode method_2_code 5 = .ok (.land, 1) := by decide +kernel
theorem d1_6 : decode method_2_code 6 = .ok (.lload_n 1, 1) := by decide +kernel
theorem d1_7 : decode method_2_code 7 = .ok (.lconst 1, 1) := by decide +kernel
theorem d1_8 : decode method_2_code 8 = .ok (.ladd, 1) := by decide +kernel
theorem d1_9 : decode method_2_code 9 = .ok (.lrem, 1) := by decide +kernel
theorem d1_10 : decode method_2_code 10 = .ok (.l2i, 1) := by decide +kernel
theorem d1_11 : decode method_2_code 11 = .ok (.ireturn, 1) := by decide +kernel
theorem pn_1 : plainName "com/example/forkline/forkline/TallyPlusPinLaw" = true := by first | (simp [plainName, overriddenIn]; done) | decide +kernel
theorem ef_rm1 (m : MethodId) (p0 : Int32) (q1 : Int64) : entryFrame m #[(.int p0), (.long q1)] 3 = mkF m 0 #[.val (.int p0), .val (.long q1), .second] [] := by first | (simp [entryFrame, mkF, argsToLocals, Value.category]; done) | rfl
def Qrm1 (Z : State) (p0 : Int32) (q1 : Int64) (h0 : Heap) (n0 : Nat) (v : Option Value) (h : Heap) (L : List Loc) : Prop := v = some (.int ((((p0.toInt64) &&& (2147483647 : Int64)) % (q1 + (1 : Int64))).toInt32)) ∧ Fr n0 L ∧ h = h0
set_option maxRecDepth 65536 in
set_option maxHeartbeats 40000000 in
theorem rm1 (l : Launch) (Z : State) (A0 : Array Value) (hw : ∀ d ∈ tables_1, d.before A0 Z = true) (ws : List Jvm.Cond) (p0 : Int32) (q1 : Int64) (h0 : Heap) (n0 : Nat) (Z0 : n0 ≤ h0.size) (hrm : 0 ≤ q1.toInt ∧ q1.toInt ≤ 2147483647) :
    MetFree l (⟨"com/example/forkline/forkline/TallyPlusPinLaw", "take", "(IJ)I"⟩ : MethodName) (head1 (Jvm.Cond.code (⟨"com/example/forkline/forkline/TallyPlusPinLaw", "take", "(IJ)I"⟩ : MethodName) method_2_code 3 (some .int) :: ws) ({ frames := 0, cells := 0, slots := 0, locals := 0 } : Room)) (fun a U => a = #[(.int p0), (.long q1)] ∧ Z.Warmed39 U.vm ∧ U.heap = h0) (fun _ _ _ _ _ => True) (fun _ U o U' => ∃ v L, o = .returned v ∧ Qrm1 Z p0 q1 h0 n0 v U'.heap L ∧ FrameEnd U o U' L ({ frames := 0, cells := 0, slots := 0, locals := 0 } : Room).cells ({ frames := 0, cells := 0, slots := 0, locals := 0 } : Room).slots) := by
  refine MetFree.of_bodySF (plainFor_of_name pn_1) hisR ?_
  intro p e s m args below meth c s₁ Bd hml0 hP hK
  obtain ⟨rfl, hZ, hh⟩ := hP
  have hx := Bd.exec
  have hby := Bd.bytes
  have hml : c.maxLocals = 3 := hml0
  have hown : s.vm.findClass "com/example/forkline/forkline/TallyPlusPinLaw" = some m.cls := findClass_of_methodNamed Bd.named
  have hnm := (name_of_methodNamed Bd.named Bd.method).1
  have X0 : Stand p l e ({ frames := 0, cells := 0, slots := 0, locals := 0 } : Room) s m #[(.int p0), (.long q1)] below meth c s₁ [] 0 0 := Stand.of_body Bd
  have e0 : s₁.heap = h0 := by rw [← hh, Bd.state]; rfl
  have N0 := Fr.nil n0
  have K0 : Keep h0 h0 [] := Keep.refl _ _
  have pre0 : ∀ t, Steps p.tables e below (s₁.setTop (mkF m 0 #[.val (.int p0), .val (.long q1), .second] [])) t → Steps p.tables e below (s₁.setTop (entryFrame m #[(.int p0), (.long q1)] 3)) t := fun t k => castTop (ef_rm1 m p0 q1) k
  obtain ⟨fs, hr, hrun, hended, hW, hsame⟩ := X0.leave (v := some (.int ((((p0.toInt64) &&& (2147483647 : Int64)) % (q1 + (1 : Int64))).toInt32))) (fun h => by rw [Bd.returns] at h; cases h)
  refine ⟨_, _, pre0 _ ?_, hrun, hended, _, _, rfl, ?_, ⟨_, rfl⟩, hW, hsame.mono (by decide) (by decide)⟩
  · show Steps p.tables e below (s₁.setTop (mkF m 0 #[.val (.int p0), .val (.long q1), .second] [])) _
    refine XS.iloadN X0.here hx rfl (hb hby d1_0) rfl ?_
    show Steps p.tables e below (s₁.setTop (mkF m 1 #[.val (.int p0), .val (.long q1), .second] [(.int p0)])) _
    refine XS.i2l X0.here hx rfl (hb hby d1_1) rfl ?_
    show Steps p.tables e below (s₁.setTop (mkF m 2 #[.val (.int p0), .val (.long q1), .second] [(.long (p0.toInt64))])) _
    refine X0.ldc2Long hx hown (mvT hZ (hw _ (List.mem_of_getElem? (i := 0) rfl))) (g := (mkF m 2 #[.val (.int p0), .val (.long q1), .second] [(.long (p0.toInt64))])) rfl (hb hby d1_2) _ ?_
    show Steps p.tables e below (s₁.setTop (mkF m 5 #[.val (.int p0), .val (.long q1), .second] [(.long (2147483647 : Int64)), (.long (p0.toInt64))])) _
    refine XS.land X0.here hx rfl (hb hby d1_5) rfl ?_
    show Steps p.tables e below (s₁.setTop (mkF m 6 #[.val (.int p0), .val (.long q1), .second] [(.long ((p0.toInt64) &&& (2147483647 : Int64)))])) _
    refine XS.lloadN X0.here hx rfl (hb hby d1_6) rfl ?_
    show Steps p.tables e below (s₁.setTop (mkF m 7 #[.val (.int p0), .val (.long q1), .second] [(.long q1), (.long ((p0.toInt64) &&& (2147483647 : Int64)))])) _
    refine XS.lconst X0.here hx rfl (hb hby d1_7) ?_
    show Steps p.tables e below (s₁.setTop (mkF m 8 #[.val (.int p0), .val (.long q1), .second] [(.long (1 : Int64)), (.long q1), (.long ((p0.toInt64) &&& (2147483647 : Int64)))])) _
    refine XS.ladd X0.here hx rfl (hb hby d1_8) rfl ?_
    show Steps p.tables e below (s₁.setTop (mkF m 9 #[.val (.int p0), .val (.long q1), .second] [(.long (q1 + (1 : Int64))), (.long ((p0.toInt64) &&& (2147483647 : Int64)))])) _
    refine own_lrem X0 hx rfl (hb hby d1_9) rfl (own_rem (own_mask (p0.toInt64)) (own_r hrm) hrm).1 ?_
    show Steps p.tables e below (s₁.setTop (mkF m 10 #[.val (.int p0), .val (.long q1), .second] [(.long (((p0.toInt64) &&& (2147483647 : Int64)) % (q1 + (1 : Int64))))])) _
    refine XS.l2i X0.here hx rfl (hb hby d1_10) rfl ?_
    show Steps p.tables e below (s₁.setTop (mkF m 11 #[.val (.int p0), .val (.long q1), .second] [(.int ((((p0.toInt64) &&& (2147483647 : Int64)) % (q1 + (1 : Int64))).toInt32))])) _
    exact retI X0 hx Bd.returns (hb hby d1_11) hr
  · show Qrm1 Z p0 q1 h0 n0 _ s₁.heap _
    rw [e0]
    exact ⟨rfl, N0, rfl⟩
theorem d6_0 : decode jdk_29_method_24_code 0 = .ok (.iload_n 0, 1) := by decide +kernel
theorem d6_1 : decode jdk_29_method_24_code 1 = .ok (.iload_n 1, 1) := by decide +kernel
theorem d6_2 : decode jdk_29_method_24_code 2 = .ok (.iadd, 1) := by decide +kernel
theorem d6_3 : decode jdk_29_method_24_code 3 = .ok (.istore_n 2, 1) := by decide +kernel
theorem d6_4 : decode jdk_29_method_24_code 4 = .ok (.iload_n 0, 1) := by decide +kernel
theorem d6_5 : decode jdk_29_method_24_code 5 = .ok (.iload_n 2, 1) := by decide +kernel
theorem d6_6 : decode jdk_29_method_24_code 6 = .ok (.ixor, 1) := by decide +kernel
theorem d6_7 : decode jdk_29_method_24_code 7 = .ok (.iload_n 1, 1) := by decide +kernel
theorem d6_8 : decode jdk_29_method_24_code 8 = .ok (.iload_n 2, 1) := by decide +kernel
theorem d6_9 : decode jdk_29_method_24_code 9 = .ok (.ixor, 1) := by decide +kernel
theorem d6_10 : decode jdk_29_method_24_code 10 = .ok (.iand, 1) := by decide +kernel
theorem d6_11 : decode jdk_29_method_24_code 11 = .ok (.ifCond .ge 13, 3) := by decide +kernel
theorem d6_24 : decode jdk_29_method_24_code 24 = .ok (.iload_n 2, 1) := by decide +kernel
theorem d6_25 : decode jdk_29_method_24_code 25 = .ok (.ireturn, 1) := by decide +kernel
theorem ef_rm6 (m : MethodId) (p0 : Int32) (p1 : Int32) : entryFrame m #[(.int p0), (.int p1)] 3 = mkF m 0 #[.val (.int p0), .val (.int p1), .unset] [] := by first | (simp [entryFrame, mkF, argsToLocals, Value.category]; done) | rfl
def Qrm6 (Z : State) (p0 : Int32) (p1 : Int32) (h0 : Heap) (n0 : Nat) (v : Option Value) (h : Heap) (L : List Loc) : Prop := v = some (.int (p0 + p1)) ∧ Fr n0 L ∧ h = h0
set_option maxRecDepth 65536 in
set_option maxHeartbeats 40000000 in
theorem rm6 (l : Launch) (Z : State) (A0 : Array Value) (hw : ∀ d ∈ tables_1, d.before A0 Z = true) (ws : List Jvm.Cond) (p0 : Int32) (p1 : Int32) (h0 : Heap) (n0 : Nat) (Z0 : n0 ≤ h0.size) (hbd : 0 ≤ p0.toInt ∧ 0 ≤ p1.toInt ∧ p0.toInt + p1.toInt ≤ 2147483647) :
    MetFree l (⟨"java/lang/Math", "addExact", "(II)I"⟩ : MethodName) (head1 (Jvm.Cond.code (⟨"java/lang/Math", "addExact", "(II)I"⟩ : MethodName) jdk_29_method_24_code 3 (some .int) :: ws) ({ frames := 0, cells := 0, slots := 0, locals := 0 } : Room)) (fun a U => a = #[(.int p0), (.int p1)] ∧ Z.Warmed39 U.vm ∧ U.heap = h0) (fun _ _ _ _ _ => True) (fun _ U o U' => ∃ v L, o = .returned v ∧ Qrm6 Z p0 p1 h0 n0 v U'.heap L ∧ FrameEnd U o U' L ({ frames := 0, cells := 0, slots := 0, locals := 0 } : Room).cells ({ frames := 0, cells := 0, slots := 0, locals := 0 } : Room).slots) := by
  refine MetFree.of_bodySF (Jvm.Free.JP.mathPlain rfl (by decide +kernel)) hisR ?_
  intro p e s m args below meth c s₁ Bd hml0 hP hK
  obtain ⟨rfl, hZ, hh⟩ := hP
  have hx := Bd.exec
  have hby := Bd.bytes
  have hml : c.maxLocals = 3 := hml0
  have hown : s.vm.findClass "java/lang/Math" = some m.cls := findClass_of_methodNamed Bd.named
  have hnm := (name_of_methodNamed Bd.named Bd.method).1
  have X0 : Stand p l e ({ frames := 0, cells := 0, slots := 0, locals := 0 } : Room) s m #[(.int p0), (.int p1)] below meth c s₁ [] 0 0 := Stand.of_body Bd
  have e0 : s₁.heap = h0 := by rw [← hh, Bd.state]; rfl
  have N0 := Fr.nil n0
  have K0 : Keep h0 h0 [] := Keep.refl _ _
  have pre0 : ∀ t, Steps p.tables e below (s₁.setTop (mkF m 0 #[.val (.int p0), .val (.int p1), .unset] [])) t → Steps p.tables e below (s₁.setTop (entryFrame m #[(.int p0), (.int p1)] 3)) t := fun t k => castTop (ef_rm6 m p0 p1) k
  obtain ⟨fs, hr, hrun, hended, hW, hsame⟩ := X0.leave (v := some (.int (p0 + p1))) (fun h => by rw [Bd.returns] at h; cases h)
  refine ⟨_, _, pre0 _ ?_, hrun, hended, _, _, rfl, ?_, ⟨_, rfl⟩, hW, hsame.mono (by decide) (by decide)⟩
  · show Steps p.tables e below (s₁.setTop (mkF m 0 #[.val (.int p0), .val (.int p1), .unset] [])) _
    refine XS.iloadN X0.here hx rfl (hb hby d6_0) rfl ?_
    show Steps p.tables e below (s₁.setTop (mkF m 1 #[.val (.int p0), .val (.int p1), .unset] [(.int p0)])) _
    refine XS.iloadN X0.here hx rfl (hb hby d6_1) rfl ?_
    show Steps p.tables e below (s₁.setTop (mkF m 2 #[.val (.int p0), .val (.int p1), .unset] [(.int p1), (.int p0)])) _
    refine XS.iadd X0.here hx rfl (hb hby d6_2) rfl ?_
    show Steps p.tables e below (s₁.setTop (mkF m 3 #[.val (.int p0), .val (.int p1), .unset] [(.int (p0 + p1))])) _
    refine XS.istoreN X0.here hx rfl (hb hby d6_3) rfl (l' := #[.val (.int p0), .val (.int p1), .val (.int (p0 + p1))]) rfl ?_
    show Steps p.tables e below (s₁.setTop (mkF m 4 #[.val (.int p0), .val (.int p1), .val (.int (p0 + p1))] [])) _
    refine XS.iloadN X0.here hx rfl (hb hby d6_4) rfl ?_
    show Steps p.tables e below (s₁.setTop (mkF m 5 #[.val (.int p0), .val (.int p1), .val (.int (p0 + p1))] [(.int p0)])) _
    refine XS.iloadN X0.here hx rfl (hb hby d6_5) rfl ?_
    show Steps p.tables e below (s₁.setTop (mkF m 6 #[.val (.int p0), .val (.int p1), .val (.int (p0 + p1))] [(.int (p0 + p1)), (.int p0)])) _
    refine XS.ixor X0.here hx rfl (hb hby d6_6) rfl ?_
    show Steps p.tables e below (s₁.setTop (mkF m 7 #[.val (.int p0), .val (.int p1), .val (.int (p0 + p1))] [(.int (p0 ^^^ (p0 + p1)))])) _
    refine XS.iloadN X0.here hx rfl (hb hby d6_7) rfl ?_
    show Steps p.tables e below (s₁.setTop (mkF m 8 #[.val (.int p0), .val (.int p1), .val (.int (p0 + p1))] [(.int p1), (.int (p0 ^^^ (p0 + p1)))])) _
    refine XS.iloadN X0.here hx rfl (hb hby d6_8) rfl ?_
    show Steps p.tables e below (s₁.setTop (mkF m 9 #[.val (.int p0), .val (.int p1), .val (.int (p0 + p1))] [(.int (p0 + p1)), (.int p1), (.int (p0 ^^^ (p0 + p1)))])) _
    refine XS.ixor X0.here hx rfl (hb hby d6_9) rfl ?_
    show Steps p.tables e below (s₁.setTop (mkF m 10 #[.val (.int p0), .val (.int p1), .val (.int (p0 + p1))] [(.int (p1 ^^^ (p0 + p1))), (.int (p0 ^^^ (p0 + p1)))])) _
    refine XS.iand X0.here hx rfl (hb hby d6_10) rfl ?_
    show Steps p.tables e below (s₁.setTop (mkF m 11 #[.val (.int p0), .val (.int p1), .val (.int (p0 + p1))] [(.int ((p0 ^^^ (p0 + p1)) &&& (p1 ^^^ (p0 + p1))))])) _
    refine XS.ifYes X0.here hx rfl (pc0 := 11) (pc' := 24) rfl (hb hby d6_11) rfl ((if0 _ _).trans (flt ((own_ax hbd).2 : ¬ (((p0 ^^^ (p0 + p1)) &&& (p1 ^^^ (p0 + p1))) < (0 : Int32)))).2.1) (by decide) (by decide) ?_
    show Steps p.tables e below (s₁.setTop (mkF m 24 #[.val (.int p0), .val (.int p1), .val (.int (p0 + p1))] [])) _
    refine XS.iloadN X0.here hx rfl (hb hby d6_24) rfl ?_
    show Steps p.tables e below (s₁.setTop (mkF m 25 #[.val (.int p0), .val (.int p1), .val (.int (p0 + p1))] [(.int (p0 + p1))])) _
    exact retI X0 hx Bd.returns (hb hby d6_25) hr
  · show Qrm6 Z p0 p1 h0 n0 _ s₁.heap _
    rw [e0]
    exact ⟨rfl, N0, rfl⟩
theorem pd_1 : parseMethodDescriptor "(II)I" = some ⟨[.int, .int], some .int⟩ := by decide +kernel
theorem pd_2 : parseMethodDescriptor "(IIII)V" = some ⟨[.int, .int, .int, .int], none⟩ := by decide +kernel
theorem d5_0 : decode prog_21_method_3_code 0 = .ok (.new 39, 3) := by decide +kernel
theorem d5_3 : decode prog_21_method_3_code 3 = .ok (.dup, 1) := by decide +kernel
theorem d5_4 : decode prog_21_method_3_code 4 = .ok (.aload_n 0, 1) := by decide +kernel
theorem d5_5 : decode prog_21_method_3_code 5 = .ok (.getfield 38, 3) := by decide +kernel
theorem d5_8 : decode prog_21_method_3_code 8 = .ok (.aload_n 1, 1) := by decide +kernel
theorem d5_9 : decode prog_21_method_3_code 9 = .ok (.getfield 38, 3) := by decide +kernel
theorem d5_12 : decode prog_21_method_3_code 12 = .ok (.invokestatic 120, 3) := by decide +kernel
theorem d5_15 : decode prog_21_method_3_code 15 = .ok (.aload_n 0, 1) := by decide +kernel
theorem d5_16 : decode prog_21_method_3_code 16 = .ok (.getfield 44, 3) := by decide +kernel
theorem d5_19 : decode prog_21_method_3_code 19 = .ok (.aload_n 1, 1) := by decide +kernel
theorem d5_20 : decode prog_21_method_3_code 20 = .ok (.getfield 44, 3) := by decide +kernel
theorem d5_23 : decode prog_21_method_3_code 23 = .ok (.invokestatic 120, 3) := by decide +kernel
theorem d5_26 : decode prog_21_method_3_code 26 = .ok (.aload_n 0, 1) := by decide +kernel
theorem d5_27 : decode prog_21_method_3_code 27 = .ok (.getfield 47, 3) := by decide +kernel
theorem d5_30 : decode prog_21_method_3_code 30 = .ok (.aload_n 1, 1) := by decide +kernel
theorem d5_31 : decode prog_21_method_3_code 31 = .ok (.getfield 47, 3) := by decide +kernel
theorem d5_34 : decode prog_21_method_3_code 34 = .ok (.invokestatic 120, 3) := by decide +kernel
theorem d5_37 : decode prog_21_method_3_code 37 = .ok (.aload_n 0, 1) := by decide +kernel
theorem d5_38 : decode prog_21_method_3_code 38 = .ok (.getfield 50, 3) := by decide +kernel
theorem d5_41 : decode prog_21_method_3_code 41 = .ok (.aload_n 1, 1) := by decide +kernel
theorem d5_42 : decode prog_21_method_3_code 42 = .ok (.getfield 50, 3) := by decide +kernel
theorem d5_45 : decode prog_21_method_3_code 45 = .ok (.invokestatic 120, 3) := by decide +kernel
theorem d5_48 : decode prog_21_method_3_code 48 = .ok (.invokespecial 117, 3) := by decide +kernel
theorem d5_51 : decode prog_21_method_3_code 51 = .ok (.areturn, 1) := by decide +kernel
theorem pn_5 : plainName "com/example/forkline/forkline/Tally" = true := by first | (simp [plainName, overriddenIn]; done) | decide +kernel
theorem ef_rm5 (m : MethodId) (a0 : Addr) (a1 : Addr) : entryFrame m #[(.ref a0), (.ref a1)] 2 = mkF m 0 #[.val (.ref a0), .val (.ref a1)] [] := by first | (simp [entryFrame, mkF, argsToLocals, Value.category]; done) | rfl
def Qrm5 (Z : State) (a0 : Addr) (a1 : Addr) (u0 : Int32) (u1 : Int32) (u2 : Int32) (u3 : Int32) (v0 : Int32) (v1 : Int32) (v2 : Int32) (v3 : Int32) (h0 : Heap) (n0 : Nat) (v : Option Value) (h : Heap) (L : List Loc) : Prop := ∃ b : Addr, v = some (.ref b) ∧ Fr n0 L ∧ n0 ≤ b ∧ h0.size ≤ b ∧ Keep h0 h [] ∧ Exa Z h b "com/example/forkline/forkline/Tally" ∧ Fld Z h b "com/example/forkline/forkline/Tally" "passed" "I" (.int (u0 + v0)) ∧ Fld Z h b "com/example/forkline/forkline/Tally" "failed" "I" (.int (u1 + v1)) ∧ Fld Z h b "com/example/forkline/forkline/Tally" "errors" "I" (.int (u2 + v2)) ∧ Fld Z h b "com/example/forkline/forkline/Tally" "skipped" "I" (.int (u3 + v3))
set_option maxRecDepth 65536 in
set_option maxHeartbeats 40000000 in
theorem rm5 (l : Launch) (Z : State) (A0 : Array Value) (hw : ∀ d ∈ tables_1, d.before A0 Z = true) (ws : List Jvm.Cond) (a0 : Addr) (a1 : Addr) (u0 : Int32) (u1 : Int32) (u2 : Int32) (u3 : Int32) (v0 : Int32) (v1 : Int32) (v2 : Int32) (v3 : Int32) (h0 : Heap) (n0 : Nat) (Z0 : n0 ≤ h0.size) (F_passed_a0 : Fld Z h0 a0 "com/example/forkline/forkline/Tally" "passed" "I" (.int u0)) (F_failed_a0 : Fld Z h0 a0 "com/example/forkline/forkline/Tally" "failed" "I" (.int u1)) (F_errors_a0 : Fld Z h0 a0 "com/example/forkline/forkline/Tally" "errors" "I" (.int u2)) (F_skipped_a0 : Fld Z h0 a0 "com/example/forkline/forkline/Tally" "skipped" "I" (.int u3)) (F_passed_a1 : Fld Z h0 a1 "com/example/forkline/forkline/Tally" "passed" "I" (.int v0)) (F_failed_a1 : Fld Z h0 a1 "com/example/forkline/forkline/Tally" "failed" "I" (.int v1)) (F_errors_a1 : Fld Z h0 a1 "com/example/forkline/forkline/Tally" "errors" "I" (.int v2)) (F_skipped_a1 : Fld Z h0 a1 "com/example/forkline/forkline/Tally" "skipped" "I" (.int v3)) (hbd : 0 ≤ u0.toInt ∧ 0 ≤ u1.toInt ∧ 0 ≤ u2.toInt ∧ 0 ≤ u3.toInt ∧ 0 ≤ v0.toInt ∧ 0 ≤ v1.toInt ∧ 0 ≤ v2.toInt ∧ 0 ≤ v3.toInt ∧ u0.toInt + u1.toInt + u2.toInt + u3.toInt + v0.toInt + v1.toInt + v2.toInt + v3.toInt ≤ 2147483647) :
    MetFree l (⟨"com/example/forkline/forkline/Tally", "plus", "(Lcom/example/forkline/forkline/Tally;)Lcom/example/forkline/forkline/Tally;"⟩ : MethodName) (head1 (Jvm.Cond.code (⟨"com/example/forkline/forkline/Tally", "plus", "(Lcom/example/forkline/forkline/Tally;)Lcom/example/forkline/forkline/Tally;"⟩ : MethodName) prog_21_method_3_code 2 (some (.object "com/example/forkline/forkline/Tally")) :: ws) ({ frames := 3, cells := 1, slots := 4, locals := 41 } : Room)) (fun a U => a = #[(.ref a0), (.ref a1)] ∧ Z.Warmed39 U.vm ∧ U.heap = h0) (fun _ _ _ _ _ => True) (fun _ U o U' => ∃ v L, o = .returned v ∧ Qrm5 Z a0 a1 u0 u1 u2 u3 v0 v1 v2 v3 h0 n0 v U'.heap L ∧ FrameEnd U o U' L ({ frames := 3, cells := 1, slots := 4, locals := 41 } : Room).cells ({ frames := 3, cells := 1, slots := 4, locals := 41 } : Room).slots) := by
  refine MetFree.of_bodySF (plainFor_of_name pn_5) hisR ?_
  intro p e s m args below meth c s₁ Bd hml0 hP hK
  obtain ⟨rfl, hZ, hh⟩ := hP
  have hx := Bd.exec
  have hby := Bd.bytes
  have hml : c.maxLocals = 2 := hml0
  have hown : s.vm.findClass "com/example/forkline/forkline/Tally" = some m.cls := findClass_of_methodNamed Bd.named
  have hnm := (name_of_methodNamed Bd.named Bd.method).1
  have X0 : Stand p l e ({ frames := 3, cells := 1, slots := 4, locals := 41 } : Room) s m #[(.ref a0), (.ref a1)] below meth c s₁ [] 0 0 := Stand.of_body Bd
  have e0 : s₁.heap = h0 := by rw [← hh, Bd.state]; rfl
  have N0 := Fr.nil n0
  have K0 : Keep h0 h0 [] := Keep.refl _ _
  have pre0 : ∀ t, Steps p.tables e below (s₁.setTop (mkF m 0 #[.val (.ref a0), .val (.ref a1)] [])) t → Steps p.tables e below (s₁.setTop (entryFrame m #[(.ref a0), (.ref a1)] 2)) t := fun t k => castTop (ef_rm5 m a0 a1) k
  obtain ⟨T1, h1, X1, e1, E1, A1, D1, -, st1⟩ := newO X0 hx hZ hown (hw _ (List.mem_of_getElem? (i := 33) rfl)) (hw _ (List.mem_of_getElem? (i := 6) rfl)) (hw _ (List.mem_of_getElem? (i := 7) rfl)) e0 (g := (mkF m 0 #[.val (.ref a0), .val (.ref a1)] [])) rfl (hb hby d5_0) (by decide) (by decide)
  obtain ⟨b1, g1⟩ : ∃ z, z = h0.size := ⟨_, rfl⟩
  rw [← g1] at A1 D1 st1
  have ne_a0_b1 : a0 ≠ b1 := Nat.ne_of_lt (Nat.lt_of_lt_of_le F_passed_a0.lt (Nat.le_of_eq g1.symm))
  have ne_a1_b1 : a1 ≠ b1 := Nat.ne_of_lt (Nat.lt_of_lt_of_le F_passed_a1.lt (Nat.le_of_eq g1.symm))
  have g_b1 : n0 ≤ b1 := Nat.le_trans Z0 (Nat.le_of_eq g1.symm)
  have sz_b1 : h0.size ≤ b1 := Nat.le_trans K0.1 (Nat.le_of_eq g1.symm)
  have F_passed_a0 : Fld Z h1 a0 "com/example/forkline/forkline/Tally" "passed" "I" (.int u0) := F_passed_a0.ext E1
  have F_failed_a0 : Fld Z h1 a0 "com/example/forkline/forkline/Tally" "failed" "I" (.int u1) := F_failed_a0.ext E1
  have F_errors_a0 : Fld Z h1 a0 "com/example/forkline/forkline/Tally" "errors" "I" (.int u2) := F_errors_a0.ext E1
  have F_skipped_a0 : Fld Z h1 a0 "com/example/forkline/forkline/Tally" "skipped" "I" (.int u3) := F_skipped_a0.ext E1
  have F_passed_a1 : Fld Z h1 a1 "com/example/forkline/forkline/Tally" "passed" "I" (.int v0) := F_passed_a1.ext E1
  have F_failed_a1 : Fld Z h1 a1 "com/example/forkline/forkline/Tally" "failed" "I" (.int v1) := F_failed_a1.ext E1
  have F_errors_a1 : Fld Z h1 a1 "com/example/forkline/forkline/Tally" "errors" "I" (.int v2) := F_errors_a1.ext E1
  have F_skipped_a1 : Fld Z h1 a1 "com/example/forkline/forkline/Tally" "skipped" "I" (.int v3) := F_skipped_a1.ext E1
  have Zh1 : n0 ≤ h1.size := Nat.le_trans Z0 E1.1
  have Kh1 : Keep h0 h1 [] := K0.ext E1
  have E_b1 : Exa Z h1 b1 "com/example/forkline/forkline/Tally" := A1
  have F_passed_b1 : Fld Z h1 b1 "com/example/forkline/forkline/Tally" "passed" "I" (.int (0 : Int32)) := D1 (Or.inr (hw _ (List.mem_of_getElem? (i := 21) rfl))) (ty := .int) (by decide)
  have F_failed_b1 : Fld Z h1 b1 "com/example/forkline/forkline/Tally" "failed" "I" (.int (0 : Int32)) := D1 (Or.inr (hw _ (List.mem_of_getElem? (i := 23) rfl))) (ty := .int) (by decide)
  have F_errors_b1 : Fld Z h1 b1 "com/example/forkline/forkline/Tally" "errors" "I" (.int (0 : Int32)) := D1 (Or.inr (hw _ (List.mem_of_getElem? (i := 25) rfl))) (ty := .int) (by decide)
  have F_skipped_b1 : Fld Z h1 b1 "com/example/forkline/forkline/Tally" "skipped" "I" (.int (0 : Int32)) := D1 (Or.inr (hw _ (List.mem_of_getElem? (i := 27) rfl))) (ty := .int) (by decide)
  obtain ⟨T2, X2, e2, st2⟩ := getF X1 hx hZ hown (host := "") (Or.inl (hw _ (List.mem_of_getElem? (i := 20) rfl))) Via.refl e1 F_passed_a0 (g := (mkF m 5 #[.val (.ref a0), .val (.ref a1)] [(.ref a0), (.ref b1), (.ref b1)])) rfl rfl (hb hby d5_5)
  obtain ⟨T3, X3, e3, st3⟩ := getF X2 hx hZ hown (host := "") (Or.inl (hw _ (List.mem_of_getElem? (i := 20) rfl))) Via.refl e2 F_passed_a1 (g := (mkF m 9 #[.val (.ref a0), .val (.ref a1)] [(.ref a1), (.int u0), (.ref b1), (.ref b1)])) rfl rfl (hb hby d5_9)
  obtain ⟨_, _, ⟨T4, L4, k4, n4⟩, -, X4, ⟨Lc4, hQ4, l4, y4, z4⟩, st4⟩ := Jvm.LawKit.callS X3 hx (y := (⟨"java/lang/Math", "addExact", "(II)I"⟩ : MethodName)) hown (mvT hZ (hw _ (List.mem_of_getElem? (i := 34) rfl))) (mvT hZ (hw _ (List.mem_of_getElem? (i := 35) rfl))) (mvT hZ (hw _ (List.mem_of_getElem? (i := 36) rfl))) (mvT hZ (hw _ (List.mem_of_getElem? (i := 37) rfl))) (by decide) (backOf (W := 2) (rm6 l Z A0 hw [] u0 v0  h1 n0 Zh1 (by omega)) hZ (hw _ (List.mem_of_getElem? (i := 37) rfl)) (hw _ (List.mem_of_getElem? (i := 36) rfl)) (by decide) (by decide)) (g := (mkF m 12 #[.val (.ref a0), .val (.ref a1)] [(.int v0), (.int u0), (.ref b1), (.ref b1)])) rfl (by rw [hml]; rfl) (argsL := [(.int u0), (.int v0)]) (rest := [(.ref b1), (.ref b1)]) (lenOf pd_1 rfl) rfl (by show 2 * 0 + _ ≤ _; exact Nat.le_of_eq rfl) (hb hby d5_12) (fun _ _ => ⟨rfl, e3, (by decide : 1 + 0 ≤ _), (by decide : 4 + 0 ≤ _)⟩)
  dsimp only [Pt.U, Pt.locs, Pt.cells, Pt.slots] at X4 l4 y4 z4 st4 hQ4
  subst l4 y4 z4
  obtain ⟨rfl, N4q, eh4⟩ := hQ4
  have N4 := Fr.app N0 N4q
  obtain ⟨T5, X5, e5, st5⟩ := getF X4 hx hZ hown (host := "") (Or.inl (hw _ (List.mem_of_getElem? (i := 22) rfl))) Via.refl eh4 F_failed_a0 (g := (mkF m 16 #[.val (.ref a0), .val (.ref a1)] [(.ref a0), (.int (u0 + v0)), (.ref b1), (.ref b1)])) rfl rfl (hb hby d5_16)
  obtain ⟨T6, X6, e6, st6⟩ := getF X5 hx hZ hown (host := "") (Or.inl (hw _ (List.mem_of_getElem? (i := 22) rfl))) Via.refl e5 F_failed_a1 (g := (mkF m 20 #[.val (.ref a0), .val (.ref a1)] [(.ref a1), (.int u1), (.int (u0 + v0)), (.ref b1), (.ref b1)])) rfl rfl (hb hby d5_20)
  obtain ⟨_, _, ⟨T7, L7, k7, n7⟩, -, X7, ⟨Lc7, hQ7, l7, y7, z7⟩, st7⟩ := Jvm.LawKit.callS X6 hx (y := (⟨"java/lang/Math", "addExact", "(II)I"⟩ : MethodName)) hown (mvT hZ (hw _ (List.mem_of_getElem? (i := 34) rfl))) (mvT hZ (hw _ (List.mem_of_getElem? (i := 35) rfl))) (mvT hZ (hw _ (List.mem_of_getElem? (i := 36) rfl))) (mvT hZ (hw _ (List.mem_of_getElem? (i := 37) rfl))) (by decide) (backOf (W := 3) (rm6 l Z A0 hw [] u1 v1  h1 n0 Zh1 (by omega)) hZ (hw _ (List.mem_of_getElem? (i := 37) rfl)) (hw _ (List.mem_of_getElem? (i := 36) rfl)) (by decide) (by decide)) (g := (mkF m 23 #[.val (.ref a0), .val (.ref a1)] [(.int v1), (.int u1), (.int (u0 + v0)), (.ref b1), (.ref b1)])) rfl (by rw [hml]; rfl) (argsL := [(.int u1), (.int v1)]) (rest := [(.int (u0 + v0)), (.ref b1), (.ref b1)]) (lenOf pd_1 rfl) rfl (by show 2 * 0 + _ ≤ _; exact Nat.le_of_eq rfl) (hb hby d5_23) (fun _ _ => ⟨rfl, e6, (by decide : 1 + 0 ≤ _), (by decide : 4 + 0 ≤ _)⟩)
  dsimp only [Pt.U, Pt.locs, Pt.cells, Pt.slots] at X7 l7 y7 z7 st7 hQ7
  subst l7 y7 z7
  obtain ⟨rfl, N7q, eh7⟩ := hQ7
  have N7 := Fr.app N4 N7q
  obtain ⟨T8, X8, e8, st8⟩ := getF X7 hx hZ hown (host := "") (Or.inl (hw _ (List.mem_of_getElem? (i := 24) rfl))) Via.refl eh7 F_errors_a0 (g := (mkF m 27 #[.val (.ref a0), .val (.ref a1)] [(.ref a0), (.int (u1 + v1)), (.int (u0 + v0)), (.ref b1), (.ref b1)])) rfl rfl (hb hby d5_27)
  obtain ⟨T9, X9, e9, st9⟩ := getF X8 hx hZ hown (host := "") (Or.inl (hw _ (List.mem_of_getElem? (i := 24) rfl))) Via.refl e8 F_errors_a1 (g := (mkF m 31 #[.val (.ref a0), .val (.ref a1)] [(.ref a1), (.int u2), (.int (u1 + v1)), (.int (u0 + v0)), (.ref b1), (.ref b1)])) rfl rfl (hb hby d5_31)
  obtain ⟨_, _, ⟨T10, L10, k10, n10⟩, -, X10, ⟨Lc10, hQ10, l10, y10, z10⟩, st10⟩ := Jvm.LawKit.callS X9 hx (y := (⟨"java/lang/Math", "addExact", "(II)I"⟩ : MethodName)) hown (mvT hZ (hw _ (List.mem_of_getElem? (i := 34) rfl))) (mvT hZ (hw _ (List.mem_of_getElem? (i := 35) rfl))) (mvT hZ (hw _ (List.mem_of_getElem? (i := 36) rfl))) (mvT hZ (hw _ (List.mem_of_getElem? (i := 37) rfl))) (by decide) (backOf (W := 4) (rm6 l Z A0 hw [] u2 v2  h1 n0 Zh1 (by omega)) hZ (hw _ (List.mem_of_getElem? (i := 37) rfl)) (hw _ (List.mem_of_getElem? (i := 36) rfl)) (by decide) (by decide)) (g := (mkF m 34 #[.val (.ref a0), .val (.ref a1)] [(.int v2), (.int u2), (.int (u1 + v1)), (.int (u0 + v0)), (.ref b1), (.ref b1)])) rfl (by rw [hml]; rfl) (argsL := [(.int u2), (.int v2)]) (rest := [(.int (u1 + v1)), (.int (u0 + v0)), (.ref b1), (.ref b1)]) (lenOf pd_1 rfl) rfl (by show 2 * 0 + _ ≤ _; exact Nat.le_of_eq rfl) (hb hby d5_34) (fun _ _ => ⟨rfl, e9, (by decide : 1 + 0 ≤ _), (by decide : 4 + 0 ≤ _)⟩)
  dsimp only [Pt.U, Pt.locs, Pt.cells, Pt.slots] at X10 l10 y10 z10 st10 hQ10
  subst l10 y10 z10
  obtain ⟨rfl, N10q, eh10⟩ := hQ10
  have N10 := Fr.app N7 N10q
  obtain ⟨T11, X11, e11, st11⟩ := getF X10 hx hZ hown (host := "") (Or.inl (hw _ (List.mem_of_getElem? (i := 26) rfl))) Via.refl eh10 F_skipped_a0 (g := (mkF m 38 #[.val (.ref a0), .val (.ref a1)] [(.ref a0), (.int (u2 + v2)), (.int (u1 + v1)), (.int (u0 + v0)), (.ref b1), (.ref b1)])) rfl rfl (hb hby d5_38)
  obtain ⟨T12, X12, e12, st12⟩ := getF X11 hx hZ hown (host := "") (Or.inl (hw _ (List.mem_of_getElem? (i := 26) rfl))) Via.refl e11 F_skipped_a1 (g := (mkF m 42 #[.val (.ref a0), .val (.ref a1)] [(.ref a1), (.int u3), (.int (u2 + v2)), (.int (u1 + v1)), (.int (u0 + v0)), (.ref b1), (.ref b1)])) rfl rfl (hb hby d5_42)
  obtain ⟨_, _, ⟨T13, L13, k13, n13⟩, -, X13, ⟨Lc13, hQ13, l13, y13, z13⟩, st13⟩ := Jvm.LawKit.callS X12 hx (y := (⟨"java/lang/Math", "addExact", "(II)I"⟩ : MethodName)) hown (mvT hZ (hw _ (List.mem_of_getElem? (i := 34) rfl))) (mvT hZ (hw _ (List.mem_of_getElem? (i := 35) rfl))) (mvT hZ (hw _ (List.mem_of_getElem? (i := 36) rfl))) (mvT hZ (hw _ (List.mem_of_getElem? (i := 37) rfl))) (by decide) (backOf (W := 5) (rm6 l Z A0 hw [] u3 v3  h1 n0 Zh1 (by omega)) hZ (hw _ (List.mem_of_getElem? (i := 37) rfl)) (hw _ (List.mem_of_getElem? (i := 36) rfl)) (by decide) (by decide)) (g := (mkF m 45 #[.val (.ref a0), .val (.ref a1)] [(.int v3), (.int u3), (.int (u2 + v2)), (.int (u1 + v1)), (.int (u0 + v0)), (.ref b1), (.ref b1)])) rfl (by rw [hml]; rfl) (argsL := [(.int u3), (.int v3)]) (rest := [(.int (u2 + v2)), (.int (u1 + v1)), (.int (u0 + v0)), (.ref b1), (.ref b1)]) (lenOf pd_1 rfl) rfl (by show 2 * 0 + _ ≤ _; exact Nat.le_of_eq rfl) (hb hby d5_45) (fun _ _ => ⟨rfl, e12, (by decide : 1 + 0 ≤ _), (by decide : 4 + 0 ≤ _)⟩)
  dsimp only [Pt.U, Pt.locs, Pt.cells, Pt.slots] at X13 l13 y13 z13 st13 hQ13
  subst l13 y13 z13
  obtain ⟨rfl, N13q, eh13⟩ := hQ13
  have N13 := Fr.app N10 N13q
  obtain ⟨_, _, ⟨T14, L14, k14, n14⟩, -, X14, ⟨Lc14, hQ14, l14, y14, z14⟩, st14⟩ := X13.specialBack hx (y := (⟨"com/example/forkline/forkline/Tally", "<init>", "(IIII)V"⟩ : MethodName)) rfl hown (mvT hZ (hw _ (List.mem_of_getElem? (i := 38) rfl))) (mvT hZ (hw _ (List.mem_of_getElem? (i := 9) rfl))) (mvT hZ (hw _ (List.mem_of_getElem? (i := 10) rfl))) (by decide) (backOf (W := 1) (rm2 l Z A0 hw [] b1 (u0 + v0) (u1 + v1) (u2 + v2) (u3 + v3) (.int (0 : Int32)) (.int (0 : Int32)) (.int (0 : Int32)) (.int (0 : Int32)) h1 n0 Zh1 E_b1 F_passed_b1 F_failed_b1 F_errors_b1 F_skipped_b1 g_b1 (own_par hbd)) hZ (hw _ (List.mem_of_getElem? (i := 10) rfl)) (hw _ (List.mem_of_getElem? (i := 7) rfl)) (by decide) (by decide)) (g := (mkF m 48 #[.val (.ref a0), .val (.ref a1)] [(.int (u3 + v3)), (.int (u2 + v2)), (.int (u1 + v1)), (.int (u0 + v0)), (.ref b1), (.ref b1)])) rfl (by rw [hml]; rfl) (Steps.refl _) (a := b1) (argsL := [(.int (u0 + v0)), (.int (u1 + v1)), (.int (u2 + v2)), (.int (u3 + v3))]) (rest := [(.ref b1)]) (lenOf pd_2 rfl) rfl (by show 2 * 0 + _ ≤ _; exact Nat.le_of_eq rfl) (hb hby d5_48) (fun _ _ => ⟨rfl, eh13, (by decide : 1 + 0 ≤ _), (by decide : 4 + 0 ≤ _)⟩)
  dsimp only [Pt.U, Pt.locs, Pt.cells, Pt.slots] at X14 l14 y14 z14 st14 hQ14
  subst l14 y14 z14
  obtain ⟨rfl, N14q, Kc14, P14_0, P14_1, P14_2, P14_3, P14_4⟩ := hQ14
  have N14 := Fr.app N13 N14q
  have F_passed_a0 : Fld Z T14.heap a0 "com/example/forkline/forkline/Tally" "passed" "I" (.int u0) := F_passed_a0.keep Kc14 (ninS ne_a0_b1 nin0)
  have F_failed_a0 : Fld Z T14.heap a0 "com/example/forkline/forkline/Tally" "failed" "I" (.int u1) := F_failed_a0.keep Kc14 (ninS ne_a0_b1 nin0)
  have F_errors_a0 : Fld Z T14.heap a0 "com/example/forkline/forkline/Tally" "errors" "I" (.int u2) := F_errors_a0.keep Kc14 (ninS ne_a0_b1 nin0)
  have F_skipped_a0 : Fld Z T14.heap a0 "com/example/forkline/forkline/Tally" "skipped" "I" (.int u3) := F_skipped_a0.keep Kc14 (ninS ne_a0_b1 nin0)
  have F_passed_a1 : Fld Z T14.heap a1 "com/example/forkline/forkline/Tally" "passed" "I" (.int v0) := F_passed_a1.keep Kc14 (ninS ne_a1_b1 nin0)
  have F_failed_a1 : Fld Z T14.heap a1 "com/example/forkline/forkline/Tally" "failed" "I" (.int v1) := F_failed_a1.keep Kc14 (ninS ne_a1_b1 nin0)
  have F_errors_a1 : Fld Z T14.heap a1 "com/example/forkline/forkline/Tally" "errors" "I" (.int v2) := F_errors_a1.keep Kc14 (ninS ne_a1_b1 nin0)
  have F_skipped_a1 : Fld Z T14.heap a1 "com/example/forkline/forkline/Tally" "skipped" "I" (.int v3) := F_skipped_a1.keep Kc14 (ninS ne_a1_b1 nin0)
  have E_b1 : Exa Z T14.heap b1 "com/example/forkline/forkline/Tally" := E_b1.keep Kc14
  have ZT14_heap : n0 ≤ T14.heap.size := Nat.le_trans Zh1 Kc14.1
  have KT14_heap : Keep h0 T14.heap [] := Kh1.trans Kc14 (allS (Or.inr sz_b1) all0)
  have E_b1 : Exa Z T14.heap b1 "com/example/forkline/forkline/Tally" := P14_0
  have F_passed_b1 : Fld Z T14.heap b1 "com/example/forkline/forkline/Tally" "passed" "I" (.int (u0 + v0)) := P14_1
  have F_failed_b1 : Fld Z T14.heap b1 "com/example/forkline/forkline/Tally" "failed" "I" (.int (u1 + v1)) := P14_2
  have F_errors_b1 : Fld Z T14.heap b1 "com/example/forkline/forkline/Tally" "errors" "I" (.int (u2 + v2)) := P14_3
  have F_skipped_b1 : Fld Z T14.heap b1 "com/example/forkline/forkline/Tally" "skipped" "I" (.int (u3 + v3)) := P14_4
  obtain ⟨fs, hr, hrun, hended, hW, hsame⟩ := X14.leave (v := some (.ref b1)) (fun h => by rw [Bd.returns] at h; cases h)
  refine ⟨_, _, pre0 _ ?_, hrun, hended, _, _, rfl, ?_, ⟨_, rfl⟩, hW, hsame.mono (by decide) (by decide)⟩
  · show Steps p.tables e below (s₁.setTop (mkF m 0 #[.val (.ref a0), .val (.ref a1)] [])) _
    refine st1 _ ?_
    show Steps p.tables e below (T1.setTop (mkF m 3 #[.val (.ref a0), .val (.ref a1)] [(.ref b1)])) _
    refine XS.dup X1.here hx rfl (hb hby d5_3) rfl rfl ?_
    show Steps p.tables e below (T1.setTop (mkF m 4 #[.val (.ref a0), .val (.ref a1)] [(.ref b1), (.ref b1)])) _
    refine XS.aloadN X1.here hx rfl (hb hby d5_4) rfl rfl ?_
    show Steps p.tables e below (T1.setTop (mkF m 5 #[.val (.ref a0), .val (.ref a1)] [(.ref a0), (.ref b1), (.ref b1)])) _
    refine st2 _ ?_
    show Steps p.tables e below (T2.setTop (mkF m 8 #[.val (.ref a0), .val (.ref a1)] [(.int u0), (.ref b1), (.ref b1)])) _
    refine XS.aloadN X2.here hx rfl (hb hby d5_8) rfl rfl ?_
    show Steps p.tables e below (T2.setTop (mkF m 9 #[.val (.ref a0), .val (.ref a1)] [(.ref a1), (.int u0), (.ref b1), (.ref b1)])) _
    refine st3 _ ?_
    show Steps p.tables e below (T3.setTop (mkF m 12 #[.val (.ref a0), .val (.ref a1)] [(.int v0), (.int u0), (.ref b1), (.ref b1)])) _
    refine st4 _ ?_
    show Steps p.tables e below (T4.setTop (mkF m 15 #[.val (.ref a0), .val (.ref a1)] [(.int (u0 + v0)), (.ref b1), (.ref b1)])) _
    refine XS.aloadN X4.here hx rfl (hb hby d5_15) rfl rfl ?_
    show Steps p.tables e below (T4.setTop (mkF m 16 #[.val (.ref a0), .val (.ref a1)] [(.ref a0), (.int (u0 + v0)), (.ref b1), (.ref b1)])) _
    refine st5 _ ?_
    show Steps p.tables e below (T5.setTop (mkF m 19 #[.val (.ref a0), .val (.ref a1)] [(.int u1), (.int (u0 + v0)), (.ref b1), (.ref b1)])) _
    refine XS.aloadN X5.here hx rfl (hb hby d5_19) rfl rfl ?_
    show Steps p.tables e below (T5.setTop (mkF m 20 #[.val (.ref a0), .val (.ref a1)] [(.ref a1), (.int u1), (.int (u0 + v0)), (.ref b1), (.ref b1)])) _
    refine st6 _ ?_
    show Steps p.tables e below (T6.setTop (mkF m 23 #[.val (.ref a0), .val (.ref a1)] [(.int v1), (.int u1), (.int (u0 + v0)), (.ref b1), (.ref b1)])) _
    refine st7 _ ?_
    show Steps p.tables e below (T7.setTop (mkF m 26 #[.val (.ref a0), .val (.ref a1)] [(.int (u1 + v1)), (.int (u0 + v0)), (.ref b1), (.ref b1)])) _
    refine XS.aloadN X7.here hx rfl (hb hby d5_26) rfl rfl ?_
    show Steps p.tables e below (T7.setTop (mkF m 27 #[.val (.ref a0), .val (.ref a1)] [(.ref a0), (.int (u1 + v1)), (.int (u0 + v0)), (.ref b1), (.ref b1)])) _
    refine st8 _ ?_
    show Steps p.tables e below (T8.setTop (mkF m 30 #[.val (.ref a0), .val (.ref a1)] [(.int u2), (.int (u1 + v1)), (.int (u0 + v0)), (.ref b1), (.ref b1)])) _
    refine XS.aloadN X8.here hx rfl (hb hby d5_30) rfl rfl ?_
    show Steps p.tables e below (T8.setTop (mkF m 31 #[.val (.ref a0), .val (.ref a1)] [(.ref a1), (.int u2), (.int (u1 + v1)), (.int (u0 + v0)), (.ref b1), (.ref b1)])) _
    refine st9 _ ?_
    show Steps p.tables e below (T9.setTop (mkF m 34 #[.val (.ref a0), .val (.ref a1)] [(.int v2), (.int u2), (.int (u1 + v1)), (.int (u0 + v0)), (.ref b1), (.ref b1)])) _
    refine st10 _ ?_
    show Steps p.tables e below (T10.setTop (mkF m 37 #[.val (.ref a0), .val (.ref a1)] [(.int (u2 + v2)), (.int (u1 + v1)), (.int (u0 + v0)), (.ref b1), (.ref b1)])) _
    refine XS.aloadN X10.here hx rfl (hb hby d5_37) rfl rfl ?_
    show Steps p.tables e below (T10.setTop (mkF m 38 #[.val (.ref a0), .val (.ref a1)] [(.ref a0), (.int (u2 + v2)), (.int (u1 + v1)), (.int (u0 + v0)), (.ref b1), (.ref b1)])) _
    refine st11 _ ?_
    show Steps p.tables e below (T11.setTop (mkF m 41 #[.val (.ref a0), .val (.ref a1)] [(.int u3), (.int (u2 + v2)), (.int (u1 + v1)), (.int (u0 + v0)), (.ref b1), (.ref b1)])) _
    refine XS.aloadN X11.here hx rfl (hb hby d5_41) rfl rfl ?_
    show Steps p.tables e below (T11.setTop (mkF m 42 #[.val (.ref a0), .val (.ref a1)] [(.ref a1), (.int u3), (.int (u2 + v2)), (.int (u1 + v1)), (.int (u0 + v0)), (.ref b1), (.ref b1)])) _
    refine st12 _ ?_
    show Steps p.tables e below (T12.setTop (mkF m 45 #[.val (.ref a0), .val (.ref a1)] [(.int v3), (.int u3), (.int (u2 + v2)), (.int (u1 + v1)), (.int (u0 + v0)), (.ref b1), (.ref b1)])) _
    refine st13 _ ?_
    show Steps p.tables e below (T13.setTop (mkF m 48 #[.val (.ref a0), .val (.ref a1)] [(.int (u3 + v3)), (.int (u2 + v2)), (.int (u1 + v1)), (.int (u0 + v0)), (.ref b1), (.ref b1)])) _
    refine st14.trans ?_
    show Steps p.tables e below (T14.setTop (mkF m 51 #[.val (.ref a0), .val (.ref a1)] [(.ref b1)])) _
    exact own_retR X14 hx Bd.returns rfl rfl rfl (hb hby d5_51) hr
  · show Qrm5 Z a0 a1 u0 u1 u2 u3 v0 v1 v2 v3 h0 n0 _ T14.heap _
    exact ⟨b1, rfl, N14, g_b1, sz_b1, KT14_heap, E_b1, F_passed_b1, F_failed_b1, F_errors_b1, F_skipped_b1⟩
theorem pd_3 : parseMethodDescriptor "(IJ)I" = some ⟨[.int, .long], some .int⟩ := by decide +kernel
theorem pd_4 : parseMethodDescriptor "(Lcom/example/forkline/forkline/Tally;)Lcom/example/forkline/forkline/Tally;" = some ⟨[(.object "com/example/forkline/forkline/Tally")], some (.object "com/example/forkline/forkline/Tally")⟩ := by decide +kernel
theorem pd_5 : parseMethodDescriptor "()I" = some ⟨[], some .int⟩ := by decide +kernel
theorem pn_0 : plainName "com/example/forkline/forkline/TallyPlusPinLaw" = true := by first | (simp [plainName, overriddenIn]; done) | decide +kernel
theorem ef_rm0 (m : MethodId) (p0 : Int32) (q1 : Int64) (q2 : Int64) (q3 : Int64) (q4 : Int64) : entryFrame m #[(.int p0), (.long q1), (.long q2), (.long q3), (.long q4)] maxLocals = mkF m 0 #[.val (.int p0), .val (.long q1), .second, .val (.long q2), .second, .val (.long q3), .second, .val (.long q4), .second, .unset, .unset, .unset, .unset, .unset, .unset, .unset, .unset, .unset, .unset, .unset, .unset, .unset, .unset, .unset, .unset, .unset, .unset, .unset, .unset, .unset, .unset] [] := by first | (simp [entryFrame, mkF, argsToLocals, Value.category, maxLocals]; done) | rfl
def Qrm0 (Z : State) (p0 : Int32) (q1 : Int64) (q2 : Int64) (q3 : Int64) (q4 : Int64) (h0 : Heap) (n0 : Nat) (v : Option Value) (h : Heap) (L : List Loc) : Prop := v = some (.int (1 : Int32)) ∧ Fr n0 L
set_option maxRecDepth 65536 in
set_option maxHeartbeats 40000000 in
theorem rm0 (l : Launch) (Z : State) (A0 : Array Value) (hw : ∀ d ∈ tables_1, d.before A0 Z = true) (ws : List Jvm.Cond) (p0 : Int32) (q1 : Int64) (q2 : Int64) (q3 : Int64) (q4 : Int64) (h0 : Heap) (n0 : Nat) (Z0 : n0 ≤ h0.size) :
    MetFree l x (head1 (Jvm.Cond.code x code maxLocals ret :: ws) room_1) (fun a U => a = #[(.int p0), (.long q1), (.long q2), (.long q3), (.long q4)] ∧ Z.Warmed39 U.vm ∧ U.heap = h0) (fun _ _ _ _ _ => True) (fun _ U o U' => ∃ v L, o = .returned v ∧ Qrm0 Z p0 q1 q2 q3 q4 h0 n0 v U'.heap L ∧ FrameEnd U o U' L room_1.cells room_1.slots) := by
  refine MetFree.of_bodySF (plainFor_of_name pn_0) hisR ?_
  intro p e s m args below meth c s₁ Bd hml0 hP hK
  obtain ⟨rfl, hZ, hh⟩ := hP
  have hx := Bd.exec
  have hby := Bd.bytes
  have hml : c.maxLocals = 31 := hml0
  have hown : s.vm.findClass "com/example/forkline/forkline/TallyPlusPinLaw" = some m.cls := findClass_of_methodNamed Bd.named
  have hnm := (name_of_methodNamed Bd.named Bd.method).1
  have X0 : Stand p l e room_1 s m #[(.int p0), (.long q1), (.long q2), (.long q3), (.long q4)] below meth c s₁ [] 0 0 := Stand.of_body Bd
  have e0 : s₁.heap = h0 := by rw [← hh, Bd.state]; rfl
  have N0 := Fr.nil n0
  have K0 : Keep h0 h0 [] := Keep.refl _ _
  have pre0 : ∀ t, Steps p.tables e below (s₁.setTop (mkF m 0 #[.val (.int p0), .val (.long q1), .second, .val (.long q2), .second, .val (.long q3), .second, .val (.long q4), .second, .unset, .unset, .unset, .unset, .unset, .unset, .unset, .unset, .unset, .unset, .unset, .unset, .unset, .unset, .unset, .unset, .unset, .unset, .unset, .unset, .unset, .unset] [])) t → Steps p.tables e below (s₁.setTop (entryFrame m #[(.int p0), (.long q1), (.long q2), (.long q3), (.long q4)] maxLocals)) t := fun t k => castTop (ef_rm0 m p0 q1 q2 q3 q4) k
  obtain ⟨r0, h_r0⟩ : ∃ z : Int64, z = ((p0.toInt64) &&& (2147483647 : Int64)) := ⟨_, rfl⟩
  have G0 : 0 ≤ r0.toInt ∧ r0.toInt ≤ 2147483647 := h_r0 ▸ own_mask _
  obtain ⟨_, _, ⟨T1, L1, k1, n1⟩, -, X1, ⟨Lc1, hQ1, l1, y1, z1⟩, st1⟩ := Jvm.LawKit.callS X0 hx (y := (⟨"com/example/forkline/forkline/TallyPlusPinLaw", "take", "(IJ)I"⟩ : MethodName)) hown (mvT hZ (hw _ (List.mem_of_getElem? (i := 1) rfl))) (mvT hZ (hw _ (List.mem_of_getElem? (i := 2) rfl))) (mvT hZ (hw _ (List.mem_of_getElem? (i := 3) rfl))) (mvT hZ (hw _ (List.mem_of_getElem? (i := 4) rfl))) (by decide) (backOf (W := 0) (rm1 l Z A0 hw [] (q1.toInt32) r0  h0 n0 Z0 (G0)) hZ (hw _ (List.mem_of_getElem? (i := 4) rfl)) (hw _ (List.mem_of_getElem? (i := 3) rfl)) (by decide) (by decide)) (g := (mkF m 12 #[.val (.int p0), .val (.long q1), .second, .val (.long q2), .second, .val (.long q3), .second, .val (.long q4), .second, .val (.long r0), .second, .unset, .unset, .unset, .unset, .unset, .unset, .unset, .unset, .unset, .unset, .unset, .unset, .unset, .unset, .unset, .unset, .unset, .unset, .unset, .unset] [(.long r0), (.int (q1.toInt32))])) rfl (by rw [hml]; rfl) (argsL := [(.int (q1.toInt32)), (.long r0)]) (rest := []) (lenOf pd_3 rfl) rfl (by show 2 * 0 + _ ≤ _; exact Nat.le_of_eq rfl) (hb hby at_12) (fun _ _ => ⟨rfl, e0, (by decide : 0 + 0 ≤ _), (by decide : 0 + 0 ≤ _)⟩)
  dsimp only [Pt.U, Pt.locs, Pt.cells, Pt.slots] at X1 l1 y1 z1 st1 hQ1
  subst l1 y1 z1
  obtain ⟨rfl, N1q, eh1⟩ := hQ1
  have N1 := Fr.app N0 N1q
  obtain ⟨t1, h_t1⟩ : ∃ z : Int32, z = (((((q1.toInt32).toInt64) &&& (2147483647 : Int64)) % (r0 + (1 : Int64))).toInt32) := ⟨_, rfl⟩
  have B1 : 0 ≤ t1.toInt ∧ t1.toInt ≤ r0.toInt := h_t1 ▸ own_take G0
  obtain ⟨r1, h_r1⟩ : ∃ z : Int64, z = (r0 - (t1.toInt64)) := ⟨_, rfl⟩
  have S1 : r1.toInt = r0.toInt - t1.toInt := h_r1 ▸ own_less G0 B1
  have G1 : 0 ≤ r1.toInt ∧ r1.toInt ≤ 2147483647 := by omega
  obtain ⟨_, _, ⟨T2, L2, k2, n2⟩, -, X2, ⟨Lc2, hQ2, l2, y2, z2⟩, st2⟩ := Jvm.LawKit.callS X1 hx (y := (⟨"com/example/forkline/forkline/TallyPlusPinLaw", "take", "(IJ)I"⟩ : MethodName)) hown (mvT hZ (hw _ (List.mem_of_getElem? (i := 1) rfl))) (mvT hZ (hw _ (List.mem_of_getElem? (i := 2) rfl))) (mvT hZ (hw _ (List.mem_of_getElem? (i := 3) rfl))) (mvT hZ (hw _ (List.mem_of_getElem? (i := 4) rfl))) (by decide) (backOf (W := 0) (rm1 l Z A0 hw [] (((q1.toUInt64 >>> ((32 : Int32) &&& 0x3f).toInt64.toUInt64).toInt64).toInt32) r1  h0 n0 Z0 (G1)) hZ (hw _ (List.mem_of_getElem? (i := 4) rfl)) (hw _ (List.mem_of_getElem? (i := 3) rfl)) (by decide) (by decide)) (g := (mkF m 32 #[.val (.int p0), .val (.long q1), .second, .val (.long q2), .second, .val (.long q3), .second, .val (.long q4), .second, .val (.long r1), .second, .val (.int t1), .unset, .unset, .unset, .unset, .unset, .unset, .unset, .unset, .unset, .unset, .unset, .unset, .unset, .unset, .unset, .unset, .unset, .unset, .unset] [(.long r1), (.int (((q1.toUInt64 >>> ((32 : Int32) &&& 0x3f).toInt64.toUInt64).toInt64).toInt32))])) rfl (by rw [hml]; rfl) (argsL := [(.int (((q1.toUInt64 >>> ((32 : Int32) &&& 0x3f).toInt64.toUInt64).toInt64).toInt32)), (.long r1)]) (rest := []) (lenOf pd_3 rfl) rfl (by show 2 * 0 + _ ≤ _; exact Nat.le_of_eq rfl) (hb hby at_32) (fun _ _ => ⟨rfl, eh1, (by decide : 0 + 0 ≤ _), (by decide : 0 + 0 ≤ _)⟩)
  dsimp only [Pt.U, Pt.locs, Pt.cells, Pt.slots] at X2 l2 y2 z2 st2 hQ2
  subst l2 y2 z2
  obtain ⟨rfl, N2q, eh2⟩ := hQ2
  have N2 := Fr.app N1 N2q
  obtain ⟨t2, h_t2⟩ : ∃ z : Int32, z = (((((((q1.toUInt64 >>> ((32 : Int32) &&& 0x3f).toInt64.toUInt64).toInt64).toInt32).toInt64) &&& (2147483647 : Int64)) % (r1 + (1 : Int64))).toInt32) := ⟨_, rfl⟩
  have B2 : 0 ≤ t2.toInt ∧ t2.toInt ≤ r1.toInt := h_t2 ▸ own_take G1
  obtain ⟨r2, h_r2⟩ : ∃ z : Int64, z = (r1 - (t2.toInt64)) := ⟨_, rfl⟩
  have S2 : r2.toInt = r1.toInt - t2.toInt := h_r2 ▸ own_less G1 B2
  have G2 : 0 ≤ r2.toInt ∧ r2.toInt ≤ 2147483647 := by omega
  obtain ⟨_, _, ⟨T3, L3, k3, n3⟩, -, X3, ⟨Lc3, hQ3, l3, y3, z3⟩, st3⟩ := Jvm.LawKit.callS X2 hx (y := (⟨"com/example/forkline/forkline/TallyPlusPinLaw", "take", "(IJ)I"⟩ : MethodName)) hown (mvT hZ (hw _ (List.mem_of_getElem? (i := 1) rfl))) (mvT hZ (hw _ (List.mem_of_getElem? (i := 2) rfl))) (mvT hZ (hw _ (List.mem_of_getElem? (i := 3) rfl))) (mvT hZ (hw _ (List.mem_of_getElem? (i := 4) rfl))) (by decide) (backOf (W := 0) (rm1 l Z A0 hw [] (q2.toInt32) r2  h0 n0 Z0 (G2)) hZ (hw _ (List.mem_of_getElem? (i := 4) rfl)) (hw _ (List.mem_of_getElem? (i := 3) rfl)) (by decide) (by decide)) (g := (mkF m 49 #[.val (.int p0), .val (.long q1), .second, .val (.long q2), .second, .val (.long q3), .second, .val (.long q4), .second, .val (.long r2), .second, .val (.int t1), .val (.int t2), .unset, .unset, .unset, .unset, .unset, .unset, .unset, .unset, .unset, .unset, .unset, .unset, .unset, .unset, .unset, .unset, .unset, .unset] [(.long r2), (.int (q2.toInt32))])) rfl (by rw [hml]; rfl) (argsL := [(.int (q2.toInt32)), (.long r2)]) (rest := []) (lenOf pd_3 rfl) rfl (by show 2 * 0 + _ ≤ _; exact Nat.le_of_eq rfl) (hb hby at_49) (fun _ _ => ⟨rfl, eh2, (by decide : 0 + 0 ≤ _), (by decide : 0 + 0 ≤ _)⟩)
  dsimp only [Pt.U, Pt.locs, Pt.cells, Pt.slots] at X3 l3 y3 z3 st3 hQ3
  subst l3 y3 z3
  obtain ⟨rfl, N3q, eh3⟩ := hQ3
  have N3 := Fr.app N2 N3q
  obtain ⟨t3, h_t3⟩ : ∃ z : Int32, z = (((((q2.toInt32).toInt64) &&& (2147483647 : Int64)) % (r2 + (1 : Int64))).toInt32) := ⟨_, rfl⟩
  have B3 : 0 ≤ t3.toInt ∧ t3.toInt ≤ r2.toInt := h_t3 ▸ own_take G2
  obtain ⟨r3, h_r3⟩ : ∃ z : Int64, z = (r2 - (t3.toInt64)) := ⟨_, rfl⟩
  have S3 : r3.toInt = r2.toInt - t3.toInt := h_r3 ▸ own_less G2 B3
  have G3 : 0 ≤ r3.toInt ∧ r3.toInt ≤ 2147483647 := by omega
  obtain ⟨_, _, ⟨T4, L4, k4, n4⟩, -, X4, ⟨Lc4, hQ4, l4, y4, z4⟩, st4⟩ := Jvm.LawKit.callS X3 hx (y := (⟨"com/example/forkline/forkline/TallyPlusPinLaw", "take", "(IJ)I"⟩ : MethodName)) hown (mvT hZ (hw _ (List.mem_of_getElem? (i := 1) rfl))) (mvT hZ (hw _ (List.mem_of_getElem? (i := 2) rfl))) (mvT hZ (hw _ (List.mem_of_getElem? (i := 3) rfl))) (mvT hZ (hw _ (List.mem_of_getElem? (i := 4) rfl))) (by decide) (backOf (W := 0) (rm1 l Z A0 hw [] (((q2.toUInt64 >>> ((32 : Int32) &&& 0x3f).toInt64.toUInt64).toInt64).toInt32) r3  h0 n0 Z0 (G3)) hZ (hw _ (List.mem_of_getElem? (i := 4) rfl)) (hw _ (List.mem_of_getElem? (i := 3) rfl)) (by decide) (by decide)) (g := (mkF m 69 #[.val (.int p0), .val (.long q1), .second, .val (.long q2), .second, .val (.long q3), .second, .val (.long q4), .second, .val (.long r3), .second, .val (.int t1), .val (.int t2), .val (.int t3), .unset, .unset, .unset, .unset, .unset, .unset, .unset, .unset, .unset, .unset, .unset, .unset, .unset, .unset, .unset, .unset, .unset] [(.long r3), (.int (((q2.toUInt64 >>> ((32 : Int32) &&& 0x3f).toInt64.toUInt64).toInt64).toInt32))])) rfl (by rw [hml]; rfl) (argsL := [(.int (((q2.toUInt64 >>> ((32 : Int32) &&& 0x3f).toInt64.toUInt64).toInt64).toInt32)), (.long r3)]) (rest := []) (lenOf pd_3 rfl) rfl (by show 2 * 0 + _ ≤ _; exact Nat.le_of_eq rfl) (hb hby at_69) (fun _ _ => ⟨rfl, eh3, (by decide : 0 + 0 ≤ _), (by decide : 0 + 0 ≤ _)⟩)
  dsimp only [Pt.U, Pt.locs, Pt.cells, Pt.slots] at X4 l4 y4 z4 st4 hQ4
  subst l4 y4 z4
  obtain ⟨rfl, N4q, eh4⟩ := hQ4
  have N4 := Fr.app N3 N4q
  obtain ⟨t4, h_t4⟩ : ∃ z : Int32, z = (((((((q2.toUInt64 >>> ((32 : Int32) &&& 0x3f).toInt64.toUInt64).toInt64).toInt32).toInt64) &&& (2147483647 : Int64)) % (r3 + (1 : Int64))).toInt32) := ⟨_, rfl⟩
  have B4 : 0 ≤ t4.toInt ∧ t4.toInt ≤ r3.toInt := h_t4 ▸ own_take G3
  obtain ⟨r4, h_r4⟩ : ∃ z : Int64, z = (r3 - (t4.toInt64)) := ⟨_, rfl⟩
  have S4 : r4.toInt = r3.toInt - t4.toInt := h_r4 ▸ own_less G3 B4
  have G4 : 0 ≤ r4.toInt ∧ r4.toInt ≤ 2147483647 := by omega
  obtain ⟨_, _, ⟨T5, L5, k5, n5⟩, -, X5, ⟨Lc5, hQ5, l5, y5, z5⟩, st5⟩ := Jvm.LawKit.callS X4 hx (y := (⟨"com/example/forkline/forkline/TallyPlusPinLaw", "take", "(IJ)I"⟩ : MethodName)) hown (mvT hZ (hw _ (List.mem_of_getElem? (i := 1) rfl))) (mvT hZ (hw _ (List.mem_of_getElem? (i := 2) rfl))) (mvT hZ (hw _ (List.mem_of_getElem? (i := 3) rfl))) (mvT hZ (hw _ (List.mem_of_getElem? (i := 4) rfl))) (by decide) (backOf (W := 0) (rm1 l Z A0 hw [] (q3.toInt32) r4  h0 n0 Z0 (G4)) hZ (hw _ (List.mem_of_getElem? (i := 4) rfl)) (hw _ (List.mem_of_getElem? (i := 3) rfl)) (by decide) (by decide)) (g := (mkF m 87 #[.val (.int p0), .val (.long q1), .second, .val (.long q2), .second, .val (.long q3), .second, .val (.long q4), .second, .val (.long r4), .second, .val (.int t1), .val (.int t2), .val (.int t3), .val (.int t4), .unset, .unset, .unset, .unset, .unset, .unset, .unset, .unset, .unset, .unset, .unset, .unset, .unset, .unset, .unset, .unset] [(.long r4), (.int (q3.toInt32))])) rfl (by rw [hml]; rfl) (argsL := [(.int (q3.toInt32)), (.long r4)]) (rest := []) (lenOf pd_3 rfl) rfl (by show 2 * 0 + _ ≤ _; exact Nat.le_of_eq rfl) (hb hby at_87) (fun _ _ => ⟨rfl, eh4, (by decide : 0 + 0 ≤ _), (by decide : 0 + 0 ≤ _)⟩)
  dsimp only [Pt.U, Pt.locs, Pt.cells, Pt.slots] at X5 l5 y5 z5 st5 hQ5
  subst l5 y5 z5
  obtain ⟨rfl, N5q, eh5⟩ := hQ5
  have N5 := Fr.app N4 N5q
  obtain ⟨t5, h_t5⟩ : ∃ z : Int32, z = (((((q3.toInt32).toInt64) &&& (2147483647 : Int64)) % (r4 + (1 : Int64))).toInt32) := ⟨_, rfl⟩
  have B5 : 0 ≤ t5.toInt ∧ t5.toInt ≤ r4.toInt := h_t5 ▸ own_take G4
  obtain ⟨r5, h_r5⟩ : ∃ z : Int64, z = (r4 - (t5.toInt64)) := ⟨_, rfl⟩
  have S5 : r5.toInt = r4.toInt - t5.toInt := h_r5 ▸ own_less G4 B5
  have G5 : 0 ≤ r5.toInt ∧ r5.toInt ≤ 2147483647 := by omega
  obtain ⟨_, _, ⟨T6, L6, k6, n6⟩, -, X6, ⟨Lc6, hQ6, l6, y6, z6⟩, st6⟩ := Jvm.LawKit.callS X5 hx (y := (⟨"com/example/forkline/forkline/TallyPlusPinLaw", "take", "(IJ)I"⟩ : MethodName)) hown (mvT hZ (hw _ (List.mem_of_getElem? (i := 1) rfl))) (mvT hZ (hw _ (List.mem_of_getElem? (i := 2) rfl))) (mvT hZ (hw _ (List.mem_of_getElem? (i := 3) rfl))) (mvT hZ (hw _ (List.mem_of_getElem? (i := 4) rfl))) (by decide) (backOf (W := 0) (rm1 l Z A0 hw [] (((q3.toUInt64 >>> ((32 : Int32) &&& 0x3f).toInt64.toUInt64).toInt64).toInt32) r5  h0 n0 Z0 (G5)) hZ (hw _ (List.mem_of_getElem? (i := 4) rfl)) (hw _ (List.mem_of_getElem? (i := 3) rfl)) (by decide) (by decide)) (g := (mkF m 108 #[.val (.int p0), .val (.long q1), .second, .val (.long q2), .second, .val (.long q3), .second, .val (.long q4), .second, .val (.long r5), .second, .val (.int t1), .val (.int t2), .val (.int t3), .val (.int t4), .val (.int t5), .unset, .unset, .unset, .unset, .unset, .unset, .unset, .unset, .unset, .unset, .unset, .unset, .unset, .unset, .unset] [(.long r5), (.int (((q3.toUInt64 >>> ((32 : Int32) &&& 0x3f).toInt64.toUInt64).toInt64).toInt32))])) rfl (by rw [hml]; rfl) (argsL := [(.int (((q3.toUInt64 >>> ((32 : Int32) &&& 0x3f).toInt64.toUInt64).toInt64).toInt32)), (.long r5)]) (rest := []) (lenOf pd_3 rfl) rfl (by show 2 * 0 + _ ≤ _; exact Nat.le_of_eq rfl) (hb hby at_108) (fun _ _ => ⟨rfl, eh5, (by decide : 0 + 0 ≤ _), (by decide : 0 + 0 ≤ _)⟩)
  dsimp only [Pt.U, Pt.locs, Pt.cells, Pt.slots] at X6 l6 y6 z6 st6 hQ6
  subst l6 y6 z6
  obtain ⟨rfl, N6q, eh6⟩ := hQ6
  have N6 := Fr.app N5 N6q
  obtain ⟨t6, h_t6⟩ : ∃ z : Int32, z = (((((((q3.toUInt64 >>> ((32 : Int32) &&& 0x3f).toInt64.toUInt64).toInt64).toInt32).toInt64) &&& (2147483647 : Int64)) % (r5 + (1 : Int64))).toInt32) := ⟨_, rfl⟩
  have B6 : 0 ≤ t6.toInt ∧ t6.toInt ≤ r5.toInt := h_t6 ▸ own_take G5
  obtain ⟨r6, h_r6⟩ : ∃ z : Int64, z = (r5 - (t6.toInt64)) := ⟨_, rfl⟩
  have S6 : r6.toInt = r5.toInt - t6.toInt := h_r6 ▸ own_less G5 B6
  have G6 : 0 ≤ r6.toInt ∧ r6.toInt ≤ 2147483647 := by omega
  obtain ⟨_, _, ⟨T7, L7, k7, n7⟩, -, X7, ⟨Lc7, hQ7, l7, y7, z7⟩, st7⟩ := Jvm.LawKit.callS X6 hx (y := (⟨"com/example/forkline/forkline/TallyPlusPinLaw", "take", "(IJ)I"⟩ : MethodName)) hown (mvT hZ (hw _ (List.mem_of_getElem? (i := 1) rfl))) (mvT hZ (hw _ (List.mem_of_getElem? (i := 2) rfl))) (mvT hZ (hw _ (List.mem_of_getElem? (i := 3) rfl))) (mvT hZ (hw _ (List.mem_of_getElem? (i := 4) rfl))) (by decide) (backOf (W := 0) (rm1 l Z A0 hw [] (q4.toInt32) r6  h0 n0 Z0 (G6)) hZ (hw _ (List.mem_of_getElem? (i := 4) rfl)) (hw _ (List.mem_of_getElem? (i := 3) rfl)) (by decide) (by decide)) (g := (mkF m 126 #[.val (.int p0), .val (.long q1), .second, .val (.long q2), .second, .val (.long q3), .second, .val (.long q4), .second, .val (.long r6), .second, .val (.int t1), .val (.int t2), .val (.int t3), .val (.int t4), .val (.int t5), .val (.int t6), .unset, .unset, .unset, .unset, .unset, .unset, .unset, .unset, .unset, .unset, .unset, .unset, .unset, .unset] [(.long r6), (.int (q4.toInt32))])) rfl (by rw [hml]; rfl) (argsL := [(.int (q4.toInt32)), (.long r6)]) (rest := []) (lenOf pd_3 rfl) rfl (by show 2 * 0 + _ ≤ _; exact Nat.le_of_eq rfl) (hb hby at_126) (fun _ _ => ⟨rfl, eh6, (by decide : 0 + 0 ≤ _), (by decide : 0 + 0 ≤ _)⟩)
  dsimp only [Pt.U, Pt.locs, Pt.cells, Pt.slots] at X7 l7 y7 z7 st7 hQ7
  subst l7 y7 z7
  obtain ⟨rfl, N7q, eh7⟩ := hQ7
  have N7 := Fr.app N6 N7q
  obtain ⟨t7, h_t7⟩ : ∃ z : Int32, z = (((((q4.toInt32).toInt64) &&& (2147483647 : Int64)) % (r6 + (1 : Int64))).toInt32) := ⟨_, rfl⟩
  have B7 : 0 ≤ t7.toInt ∧ t7.toInt ≤ r6.toInt := h_t7 ▸ own_take G6
  obtain ⟨r7, h_r7⟩ : ∃ z : Int64, z = (r6 - (t7.toInt64)) := ⟨_, rfl⟩
  have S7 : r7.toInt = r6.toInt - t7.toInt := h_r7 ▸ own_less G6 B7
  have G7 : 0 ≤ r7.toInt ∧ r7.toInt ≤ 2147483647 := by omega
  obtain ⟨_, _, ⟨T8, L8, k8, n8⟩, -, X8, ⟨Lc8, hQ8, l8, y8, z8⟩, st8⟩ := Jvm.LawKit.callS X7 hx (y := (⟨"com/example/forkline/forkline/TallyPlusPinLaw", "take", "(IJ)I"⟩ : MethodName)) hown (mvT hZ (hw _ (List.mem_of_getElem? (i := 1) rfl))) (mvT hZ (hw _ (List.mem_of_getElem? (i := 2) rfl))) (mvT hZ (hw _ (List.mem_of_getElem? (i := 3) rfl))) (mvT hZ (hw _ (List.mem_of_getElem? (i := 4) rfl))) (by decide) (backOf (W := 0) (rm1 l Z A0 hw [] (((q4.toUInt64 >>> ((32 : Int32) &&& 0x3f).toInt64.toUInt64).toInt64).toInt32) r7  h0 n0 Z0 (G7)) hZ (hw _ (List.mem_of_getElem? (i := 4) rfl)) (hw _ (List.mem_of_getElem? (i := 3) rfl)) (by decide) (by decide)) (g := (mkF m 147 #[.val (.int p0), .val (.long q1), .second, .val (.long q2), .second, .val (.long q3), .second, .val (.long q4), .second, .val (.long r7), .second, .val (.int t1), .val (.int t2), .val (.int t3), .val (.int t4), .val (.int t5), .val (.int t6), .val (.int t7), .unset, .unset, .unset, .unset, .unset, .unset, .unset, .unset, .unset, .unset, .unset, .unset, .unset] [(.long r7), (.int (((q4.toUInt64 >>> ((32 : Int32) &&& 0x3f).toInt64.toUInt64).toInt64).toInt32))])) rfl (by rw [hml]; rfl) (argsL := [(.int (((q4.toUInt64 >>> ((32 : Int32) &&& 0x3f).toInt64.toUInt64).toInt64).toInt32)), (.long r7)]) (rest := []) (lenOf pd_3 rfl) rfl (by show 2 * 0 + _ ≤ _; exact Nat.le_of_eq rfl) (hb hby at_147) (fun _ _ => ⟨rfl, eh7, (by decide : 0 + 0 ≤ _), (by decide : 0 + 0 ≤ _)⟩)
  dsimp only [Pt.U, Pt.locs, Pt.cells, Pt.slots] at X8 l8 y8 z8 st8 hQ8
  subst l8 y8 z8
  obtain ⟨rfl, N8q, eh8⟩ := hQ8
  have N8 := Fr.app N7 N8q
  obtain ⟨t8, h_t8⟩ : ∃ z : Int32, z = (((((((q4.toUInt64 >>> ((32 : Int32) &&& 0x3f).toInt64.toUInt64).toInt64).toInt32).toInt64) &&& (2147483647 : Int64)) % (r7 + (1 : Int64))).toInt32) := ⟨_, rfl⟩
  have B8 : 0 ≤ t8.toInt ∧ t8.toInt ≤ r7.toInt := h_t8 ▸ own_take G7
  by_cases hc161 : (((q4.toUInt64 >>> ((63 : Int32) &&& 0x3f).toInt64.toUInt64).toInt64) &&& (1 : Int64)) = (0 : Int64)
  · obtain ⟨T9, h9, X9, e9, E9, A9, D9, -, st9⟩ := newO X8 hx hZ hown (hw _ (List.mem_of_getElem? (i := 5) rfl)) (hw _ (List.mem_of_getElem? (i := 6) rfl)) (hw _ (List.mem_of_getElem? (i := 7) rfl)) eh8 (g := (mkF m 171 #[.val (.int p0), .val (.long q1), .second, .val (.long q2), .second, .val (.long q3), .second, .val (.long q4), .second, .val (.long r7), .second, .val (.int t1), .val (.int t2), .val (.int t3), .val (.int t4), .val (.int t5), .val (.int t6), .val (.int t7), .val (.int t8), .val (.int (0 : Int32)), .unset, .unset, .unset, .unset, .unset, .unset, .unset, .unset, .unset, .unset, .unset] [])) rfl (hb hby at_171) (by decide) (by decide)
    obtain ⟨tx, g9⟩ : ∃ z, z = h0.size := ⟨_, rfl⟩
    rw [← g9] at A9 D9 st9
    have g_tx : n0 ≤ tx := Nat.le_trans Z0 (Nat.le_of_eq g9.symm)
    have sz_tx : h0.size ≤ tx := Nat.le_trans K0.1 (Nat.le_of_eq g9.symm)
    have Zh9 : n0 ≤ h9.size := Nat.le_trans Z0 E9.1
    have Kh9 : Keep h0 h9 [] := K0.ext E9
    have E_tx : Exa Z h9 tx "com/example/forkline/forkline/Tally" := A9
    have F_passed_tx : Fld Z h9 tx "com/example/forkline/forkline/Tally" "passed" "I" (.int (0 : Int32)) := D9 (Or.inr (hw _ (List.mem_of_getElem? (i := 21) rfl))) (ty := .int) (by decide)
    have F_failed_tx : Fld Z h9 tx "com/example/forkline/forkline/Tally" "failed" "I" (.int (0 : Int32)) := D9 (Or.inr (hw _ (List.mem_of_getElem? (i := 23) rfl))) (ty := .int) (by decide)
    have F_errors_tx : Fld Z h9 tx "com/example/forkline/forkline/Tally" "errors" "I" (.int (0 : Int32)) := D9 (Or.inr (hw _ (List.mem_of_getElem? (i := 25) rfl))) (ty := .int) (by decide)
    have F_skipped_tx : Fld Z h9 tx "com/example/forkline/forkline/Tally" "skipped" "I" (.int (0 : Int32)) := D9 (Or.inr (hw _ (List.mem_of_getElem? (i := 27) rfl))) (ty := .int) (by decide)
    obtain ⟨_, _, ⟨T10, L10, k10, n10⟩, -, X10, ⟨Lc10, hQ10, l10, y10, z10⟩, st10⟩ := X9.specialBack hx (y := (⟨"com/example/forkline/forkline/Tally", "<init>", "(IIII)V"⟩ : MethodName)) rfl hown (mvT hZ (hw _ (List.mem_of_getElem? (i := 8) rfl))) (mvT hZ (hw _ (List.mem_of_getElem? (i := 9) rfl))) (mvT hZ (hw _ (List.mem_of_getElem? (i := 10) rfl))) (by decide) (backOf (W := 1) (rm2 l Z A0 hw [] tx t1 t2 t3 t4 (.int (0 : Int32)) (.int (0 : Int32)) (.int (0 : Int32)) (.int (0 : Int32)) h9 n0 Zh9 E_tx F_passed_tx F_failed_tx F_errors_tx F_skipped_tx g_tx (by omega)) hZ (hw _ (List.mem_of_getElem? (i := 10) rfl)) (hw _ (List.mem_of_getElem? (i := 7) rfl)) (by decide) (by decide)) (g := (mkF m 183 #[.val (.int p0), .val (.long q1), .second, .val (.long q2), .second, .val (.long q3), .second, .val (.long q4), .second, .val (.long r7), .second, .val (.int t1), .val (.int t2), .val (.int t3), .val (.int t4), .val (.int t5), .val (.int t6), .val (.int t7), .val (.int t8), .val (.int (0 : Int32)), .unset, .unset, .unset, .unset, .unset, .unset, .unset, .unset, .unset, .unset, .unset] [(.int t4), (.int t3), (.int t2), (.int t1), (.ref tx), (.ref tx)])) rfl (by rw [hml]; rfl) (Steps.refl _) (a := tx) (argsL := [(.int t1), (.int t2), (.int t3), (.int t4)]) (rest := [(.ref tx)]) (lenOf pd_2 rfl) rfl (by show 2 * 0 + _ ≤ _; exact Nat.le_of_eq rfl) (hb hby at_183) (fun _ _ => ⟨rfl, e9, (by decide : 1 + 0 ≤ _), (by decide : 4 + 0 ≤ _)⟩)
    dsimp only [Pt.U, Pt.locs, Pt.cells, Pt.slots] at X10 l10 y10 z10 st10 hQ10
    subst l10 y10 z10
    obtain ⟨rfl, N10q, Kc10, P10_0, P10_1, P10_2, P10_3, P10_4⟩ := hQ10
    have N10 := Fr.app N8 N10q
    have E_tx : Exa Z T10.heap tx "com/example/forkline/forkline/Tally" := E_tx.keep Kc10
    have ZT10_heap : n0 ≤ T10.heap.size := Nat.le_trans Zh9 Kc10.1
    have KT10_heap : Keep h0 T10.heap [] := Kh9.trans Kc10 (allS (Or.inr sz_tx) all0)
    have E_tx : Exa Z T10.heap tx "com/example/forkline/forkline/Tally" := P10_0
    have F_passed_tx : Fld Z T10.heap tx "com/example/forkline/forkline/Tally" "passed" "I" (.int t1) := P10_1
    have F_failed_tx : Fld Z T10.heap tx "com/example/forkline/forkline/Tally" "failed" "I" (.int t2) := P10_2
    have F_errors_tx : Fld Z T10.heap tx "com/example/forkline/forkline/Tally" "errors" "I" (.int t3) := P10_3
    have F_skipped_tx : Fld Z T10.heap tx "com/example/forkline/forkline/Tally" "skipped" "I" (.int t4) := P10_4
    obtain ⟨T11, h11, X11, e11, E11, A11, D11, -, st11⟩ := newO X10 hx hZ hown (hw _ (List.mem_of_getElem? (i := 5) rfl)) (hw _ (List.mem_of_getElem? (i := 6) rfl)) (hw _ (List.mem_of_getElem? (i := 7) rfl)) rfl (g := (mkF m 188 #[.val (.int p0), .val (.long q1), .second, .val (.long q2), .second, .val (.long q3), .second, .val (.long q4), .second, .val (.long r7), .second, .val (.int t1), .val (.int t2), .val (.int t3), .val (.int t4), .val (.int t5), .val (.int t6), .val (.int t7), .val (.int t8), .val (.int (0 : Int32)), .val (.ref tx), .unset, .unset, .unset, .unset, .unset, .unset, .unset, .unset, .unset, .unset] [])) rfl (hb hby at_188) (by decide) (by decide)
    obtain ⟨tz, g11⟩ : ∃ z, z = T10.heap.size := ⟨_, rfl⟩
    rw [← g11] at A11 D11 st11
    have ne_tx_tz : tx ≠ tz := Nat.ne_of_lt (Nat.lt_of_lt_of_le E_tx.lt (Nat.le_of_eq g11.symm))
    have g_tz : n0 ≤ tz := Nat.le_trans ZT10_heap (Nat.le_of_eq g11.symm)
    have sz_tz : h0.size ≤ tz := Nat.le_trans KT10_heap.1 (Nat.le_of_eq g11.symm)
    have E_tx : Exa Z h11 tx "com/example/forkline/forkline/Tally" := E_tx.ext E11
    have F_passed_tx : Fld Z h11 tx "com/example/forkline/forkline/Tally" "passed" "I" (.int t1) := F_passed_tx.ext E11
    have F_failed_tx : Fld Z h11 tx "com/example/forkline/forkline/Tally" "failed" "I" (.int t2) := F_failed_tx.ext E11
    have F_errors_tx : Fld Z h11 tx "com/example/forkline/forkline/Tally" "errors" "I" (.int t3) := F_errors_tx.ext E11
    have F_skipped_tx : Fld Z h11 tx "com/example/forkline/forkline/Tally" "skipped" "I" (.int t4) := F_skipped_tx.ext E11
    have Zh11 : n0 ≤ h11.size := Nat.le_trans ZT10_heap E11.1
    have Kh11 : Keep h0 h11 [] := KT10_heap.ext E11
    have E_tz : Exa Z h11 tz "com/example/forkline/forkline/Tally" := A11
    have F_passed_tz : Fld Z h11 tz "com/example/forkline/forkline/Tally" "passed" "I" (.int (0 : Int32)) := D11 (Or.inr (hw _ (List.mem_of_getElem? (i := 21) rfl))) (ty := .int) (by decide)
    have F_failed_tz : Fld Z h11 tz "com/example/forkline/forkline/Tally" "failed" "I" (.int (0 : Int32)) := D11 (Or.inr (hw _ (List.mem_of_getElem? (i := 23) rfl))) (ty := .int) (by decide)
    have F_errors_tz : Fld Z h11 tz "com/example/forkline/forkline/Tally" "errors" "I" (.int (0 : Int32)) := D11 (Or.inr (hw _ (List.mem_of_getElem? (i := 25) rfl))) (ty := .int) (by decide)
    have F_skipped_tz : Fld Z h11 tz "com/example/forkline/forkline/Tally" "skipped" "I" (.int (0 : Int32)) := D11 (Or.inr (hw _ (List.mem_of_getElem? (i := 27) rfl))) (ty := .int) (by decide)
    obtain ⟨_, _, ⟨T12, L12, k12, n12⟩, -, X12, ⟨Lc12, hQ12, l12, y12, z12⟩, st12⟩ := X11.specialBack hx (y := (⟨"com/example/forkline/forkline/Tally", "<init>", "(IIII)V"⟩ : MethodName)) rfl hown (mvT hZ (hw _ (List.mem_of_getElem? (i := 8) rfl))) (mvT hZ (hw _ (List.mem_of_getElem? (i := 9) rfl))) (mvT hZ (hw _ (List.mem_of_getElem? (i := 10) rfl))) (by decide) (backOf (W := 1) (rm2 l Z A0 hw [] tz t5 t6 t7 t8 (.int (0 : Int32)) (.int (0 : Int32)) (.int (0 : Int32)) (.int (0 : Int32)) h11 n0 Zh11 E_tz F_passed_tz F_failed_tz F_errors_tz F_skipped_tz g_tz (by omega)) hZ (hw _ (List.mem_of_getElem? (i := 10) rfl)) (hw _ (List.mem_of_getElem? (i := 7) rfl)) (by decide) (by decide)) (g := (mkF m 200 #[.val (.int p0), .val (.long q1), .second, .val (.long q2), .second, .val (.long q3), .second, .val (.long q4), .second, .val (.long r7), .second, .val (.int t1), .val (.int t2), .val (.int t3), .val (.int t4), .val (.int t5), .val (.int t6), .val (.int t7), .val (.int t8), .val (.int (0 : Int32)), .val (.ref tx), .unset, .unset, .unset, .unset, .unset, .unset, .unset, .unset, .unset, .unset] [(.int t8), (.int t7), (.int t6), (.int t5), (.ref tz), (.ref tz)])) rfl (by rw [hml]; rfl) (Steps.refl _) (a := tz) (argsL := [(.int t5), (.int t6), (.int t7), (.int t8)]) (rest := [(.ref tz)]) (lenOf pd_2 rfl) rfl (by show 2 * 0 + _ ≤ _; exact Nat.le_of_eq rfl) (hb hby at_200) (fun _ _ => ⟨rfl, e11, (by decide : 2 + 0 ≤ _), (by decide : 8 + 0 ≤ _)⟩)
    dsimp only [Pt.U, Pt.locs, Pt.cells, Pt.slots] at X12 l12 y12 z12 st12 hQ12
    subst l12 y12 z12
    obtain ⟨rfl, N12q, Kc12, P12_0, P12_1, P12_2, P12_3, P12_4⟩ := hQ12
    have N12 := Fr.app N10 N12q
    have E_tx : Exa Z T12.heap tx "com/example/forkline/forkline/Tally" := E_tx.keep Kc12
    have F_passed_tx : Fld Z T12.heap tx "com/example/forkline/forkline/Tally" "passed" "I" (.int t1) := F_passed_tx.keep Kc12 (ninS ne_tx_tz nin0)
    have F_failed_tx : Fld Z T12.heap tx "com/example/forkline/forkline/Tally" "failed" "I" (.int t2) := F_failed_tx.keep Kc12 (ninS ne_tx_tz nin0)
    have F_errors_tx : Fld Z T12.heap tx "com/example/forkline/forkline/Tally" "errors" "I" (.int t3) := F_errors_tx.keep Kc12 (ninS ne_tx_tz nin0)
    have F_skipped_tx : Fld Z T12.heap tx "com/example/forkline/forkline/Tally" "skipped" "I" (.int t4) := F_skipped_tx.keep Kc12 (ninS ne_tx_tz nin0)
    have E_tz : Exa Z T12.heap tz "com/example/forkline/forkline/Tally" := E_tz.keep Kc12
    have ZT12_heap : n0 ≤ T12.heap.size := Nat.le_trans Zh11 Kc12.1
    have KT12_heap : Keep h0 T12.heap [] := Kh11.trans Kc12 (allS (Or.inr sz_tz) all0)
    have E_tz : Exa Z T12.heap tz "com/example/forkline/forkline/Tally" := P12_0
    have F_passed_tz : Fld Z T12.heap tz "com/example/forkline/forkline/Tally" "passed" "I" (.int t5) := P12_1
    have F_failed_tz : Fld Z T12.heap tz "com/example/forkline/forkline/Tally" "failed" "I" (.int t6) := P12_2
    have F_errors_tz : Fld Z T12.heap tz "com/example/forkline/forkline/Tally" "errors" "I" (.int t7) := P12_3
    have F_skipped_tz : Fld Z T12.heap tz "com/example/forkline/forkline/Tally" "skipped" "I" (.int t8) := P12_4
    obtain ⟨cq13, kq13, q13a, q13b, q13c⟩ := isOf hZ rfl E_tx
    obtain ⟨_, _, ⟨T13, L13, k13, n13⟩, -, X13, ⟨Lc13, hQ13, l13, y13, z13⟩, st13⟩ := X12.virtualBack hx (y := (⟨"com/example/forkline/forkline/Tally", "plus", "(Lcom/example/forkline/forkline/Tally;)Lcom/example/forkline/forkline/Tally;"⟩ : MethodName)) (z := (⟨"com/example/forkline/forkline/Tally", "plus", "(Lcom/example/forkline/forkline/Tally;)Lcom/example/forkline/forkline/Tally;"⟩ : MethodName)) hown (mvT hZ (hw _ (List.mem_of_getElem? (i := 28) rfl))) (mvT hZ (hw _ (List.mem_of_getElem? (i := 29) rfl))) (notFace_of_selects (args := #[]) (mvT hZ (hw _ (List.mem_of_getElem? (i := 31) rfl)))) (mvT hZ (hw _ (List.mem_of_getElem? (i := 31) rfl))) (mvT hZ (hw _ (List.mem_of_getElem? (i := 30) rfl))) (by decide) (backOf (W := 0) (rm5 l Z A0 hw [] tx tz t1 t2 t3 t4 t5 t6 t7 t8 T12.heap n0 ZT12_heap F_passed_tx F_failed_tx F_errors_tx F_skipped_tx F_passed_tz F_failed_tz F_errors_tz F_skipped_tz (by omega)) hZ (hw _ (List.mem_of_getElem? (i := 32) rfl)) (hw _ (List.mem_of_getElem? (i := 7) rfl)) (by decide) (by decide)) q13a q13c (g := (mkF m 226 #[.val (.int p0), .val (.long q1), .second, .val (.long q2), .second, .val (.long q3), .second, .val (.long q4), .second, .val (.long r7), .second, .val (.int t1), .val (.int t2), .val (.int t3), .val (.int t4), .val (.int t5), .val (.int t6), .val (.int t7), .val (.int t8), .val (.int (0 : Int32)), .val (.ref tx), .val (.ref tz), .unset, .unset, .unset, .unset, .unset, .unset, .unset, .unset, .unset] [(.ref tz), (.ref tx)])) rfl (by rw [hml]; rfl) (Steps.refl _) (argsL := [(.ref tz)]) (rest := []) (lenOf pd_4 rfl) rfl (by show 2 * 0 + _ ≤ _; exact Nat.le_of_eq rfl) (hb hby at_226) (fun _ _ => ⟨rfl, rfl, (by decide : 2 + 1 ≤ _), (by decide : 8 + 4 ≤ _)⟩)
    dsimp only [Pt.U, Pt.locs, Pt.cells, Pt.slots] at X13 l13 y13 z13 st13 hQ13
    subst l13 y13 z13
    obtain ⟨b13, rfl, N13q, gb13, sb13, Kc13, P13_0, P13_1, P13_2, P13_3, P13_4⟩ := hQ13
    have N13 := Fr.app N12 N13q
    have ne_tx_b13 : tx ≠ b13 := Nat.ne_of_lt (Nat.lt_of_lt_of_le E_tx.lt sb13)
    have ne_tz_b13 : tz ≠ b13 := Nat.ne_of_lt (Nat.lt_of_lt_of_le E_tz.lt sb13)
    have sz_b13 : h0.size ≤ b13 := Nat.le_trans KT12_heap.1 sb13
    have E_tx : Exa Z T13.heap tx "com/example/forkline/forkline/Tally" := E_tx.keep Kc13
    have F_passed_tx : Fld Z T13.heap tx "com/example/forkline/forkline/Tally" "passed" "I" (.int t1) := F_passed_tx.keep Kc13 nin0
    have F_failed_tx : Fld Z T13.heap tx "com/example/forkline/forkline/Tally" "failed" "I" (.int t2) := F_failed_tx.keep Kc13 nin0
    have F_errors_tx : Fld Z T13.heap tx "com/example/forkline/forkline/Tally" "errors" "I" (.int t3) := F_errors_tx.keep Kc13 nin0
    have F_skipped_tx : Fld Z T13.heap tx "com/example/forkline/forkline/Tally" "skipped" "I" (.int t4) := F_skipped_tx.keep Kc13 nin0
    have E_tz : Exa Z T13.heap tz "com/example/forkline/forkline/Tally" := E_tz.keep Kc13
    have F_passed_tz : Fld Z T13.heap tz "com/example/forkline/forkline/Tally" "passed" "I" (.int t5) := F_passed_tz.keep Kc13 nin0
    have F_failed_tz : Fld Z T13.heap tz "com/example/forkline/forkline/Tally" "failed" "I" (.int t6) := F_failed_tz.keep Kc13 nin0
    have F_errors_tz : Fld Z T13.heap tz "com/example/forkline/forkline/Tally" "errors" "I" (.int t7) := F_errors_tz.keep Kc13 nin0
    have F_skipped_tz : Fld Z T13.heap tz "com/example/forkline/forkline/Tally" "skipped" "I" (.int t8) := F_skipped_tz.keep Kc13 nin0
    have ZT13_heap : n0 ≤ T13.heap.size := Nat.le_trans ZT12_heap Kc13.1
    have KT13_heap : Keep h0 T13.heap [] := KT12_heap.trans Kc13 all0
    have E_b13 : Exa Z T13.heap b13 "com/example/forkline/forkline/Tally" := P13_0
    have F_passed_b13 : Fld Z T13.heap b13 "com/example/forkline/forkline/Tally" "passed" "I" (.int (t1 + t5)) := P13_1
    have F_failed_b13 : Fld Z T13.heap b13 "com/example/forkline/forkline/Tally" "failed" "I" (.int (t2 + t6)) := P13_2
    have F_errors_b13 : Fld Z T13.heap b13 "com/example/forkline/forkline/Tally" "errors" "I" (.int (t3 + t7)) := P13_3
    have F_skipped_b13 : Fld Z T13.heap b13 "com/example/forkline/forkline/Tally" "skipped" "I" (.int (t4 + t8)) := P13_4
    obtain ⟨cq14, kq14, q14a, q14b, q14c⟩ := isOf hZ rfl E_b13
    obtain ⟨_, _, ⟨T14, L14, k14, n14⟩, -, X14, ⟨Lc14, hQ14, l14, y14, z14⟩, st14⟩ := X13.virtualBack hx (y := (⟨"com/example/forkline/forkline/Tally", "passed", "()I"⟩ : MethodName)) (z := (⟨"com/example/forkline/forkline/Tally", "passed", "()I"⟩ : MethodName)) hown (mvT hZ (hw _ (List.mem_of_getElem? (i := 39) rfl))) (mvT hZ (hw _ (List.mem_of_getElem? (i := 40) rfl))) (notFace_of_selects (args := #[]) (mvT hZ (hw _ (List.mem_of_getElem? (i := 42) rfl)))) (mvT hZ (hw _ (List.mem_of_getElem? (i := 42) rfl))) (mvT hZ (hw _ (List.mem_of_getElem? (i := 41) rfl))) (by decide) (backOf (W := 0) (rm7 l Z A0 hw [] b13 (t1 + t5) T13.heap n0 ZT13_heap F_passed_b13) hZ (hw _ (List.mem_of_getElem? (i := 43) rfl)) (hw _ (List.mem_of_getElem? (i := 7) rfl)) (by decide) (by decide)) q14a q14c (g := (mkF m 269 #[.val (.int p0), .val (.long q1), .second, .val (.long q2), .second, .val (.long q3), .second, .val (.long q4), .second, .val (.long r7), .second, .val (.int t1), .val (.int t2), .val (.int t3), .val (.int t4), .val (.int t5), .val (.int t6), .val (.int t7), .val (.int t8), .val (.int (0 : Int32)), .val (.ref tx), .val (.ref tz), .val (.ref b13), .val (.long ((t1.toInt64) + (t5.toInt64))), .second, .val (.long ((t2.toInt64) + (t6.toInt64))), .second, .val (.long ((t3.toInt64) + (t7.toInt64))), .second, .val (.long ((t4.toInt64) + (t8.toInt64))), .second] [(.ref b13)])) rfl (by rw [hml]; rfl) (Steps.refl _) (argsL := []) (rest := []) (lenOf pd_5 rfl) rfl (by show 2 * 0 + _ ≤ _; exact Nat.le_of_eq rfl) (hb hby at_269) (fun _ _ => ⟨rfl, rfl, (by decide : 3 + 0 ≤ _), (by decide : 12 + 0 ≤ _)⟩)
    dsimp only [Pt.U, Pt.locs, Pt.cells, Pt.slots] at X14 l14 y14 z14 st14 hQ14
    subst l14 y14 z14
    obtain ⟨rfl, N14q, eh14⟩ := hQ14
    have N14 := Fr.app N13 N14q
    obtain ⟨cq15, kq15, q15a, q15b, q15c⟩ := isOf hZ eh14 E_b13
    obtain ⟨_, _, ⟨T15, L15, k15, n15⟩, -, X15, ⟨Lc15, hQ15, l15, y15, z15⟩, st15⟩ := X14.virtualBack hx (y := (⟨"com/example/forkline/forkline/Tally", "failed", "()I"⟩ : MethodName)) (z := (⟨"com/example/forkline/forkline/Tally", "failed", "()I"⟩ : MethodName)) hown (mvT hZ (hw _ (List.mem_of_getElem? (i := 44) rfl))) (mvT hZ (hw _ (List.mem_of_getElem? (i := 45) rfl))) (notFace_of_selects (args := #[]) (mvT hZ (hw _ (List.mem_of_getElem? (i := 47) rfl)))) (mvT hZ (hw _ (List.mem_of_getElem? (i := 47) rfl))) (mvT hZ (hw _ (List.mem_of_getElem? (i := 46) rfl))) (by decide) (backOf (W := 0) (rm8 l Z A0 hw [] b13 (t2 + t6) T13.heap n0 ZT13_heap F_failed_b13) hZ (hw _ (List.mem_of_getElem? (i := 48) rfl)) (hw _ (List.mem_of_getElem? (i := 7) rfl)) (by decide) (by decide)) q15a q15c (g := (mkF m 281 #[.val (.int p0), .val (.long q1), .second, .val (.long q2), .second, .val (.long q3), .second, .val (.long q4), .second, .val (.long r7), .second, .val (.int t1), .val (.int t2), .val (.int t3), .val (.int t4), .val (.int t5), .val (.int t6), .val (.int t7), .val (.int t8), .val (.int (0 : Int32)), .val (.ref tx), .val (.ref tz), .val (.ref b13), .val (.long ((t1.toInt64) + (t5.toInt64))), .second, .val (.long ((t2.toInt64) + (t6.toInt64))), .second, .val (.long ((t3.toInt64) + (t7.toInt64))), .second, .val (.long ((t4.toInt64) + (t8.toInt64))), .second] [(.ref b13)])) rfl (by rw [hml]; rfl) (Steps.refl _) (argsL := []) (rest := []) (lenOf pd_5 rfl) rfl (by show 2 * 0 + _ ≤ _; exact Nat.le_of_eq rfl) (hb hby at_281) (fun _ _ => ⟨rfl, eh14, (by decide : 3 + 0 ≤ _), (by decide : 12 + 0 ≤ _)⟩)
    dsimp only [Pt.U, Pt.locs, Pt.cells, Pt.slots] at X15 l15 y15 z15 st15 hQ15
    subst l15 y15 z15
    obtain ⟨rfl, N15q, eh15⟩ := hQ15
    have N15 := Fr.app N14 N15q
    obtain ⟨cq16, kq16, q16a, q16b, q16c⟩ := isOf hZ eh15 E_b13
    obtain ⟨_, _, ⟨T16, L16, k16, n16⟩, -, X16, ⟨Lc16, hQ16, l16, y16, z16⟩, st16⟩ := X15.virtualBack hx (y := (⟨"com/example/forkline/forkline/Tally", "errors", "()I"⟩ : MethodName)) (z := (⟨"com/example/forkline/forkline/Tally", "errors", "()I"⟩ : MethodName)) hown (mvT hZ (hw _ (List.mem_of_getElem? (i := 49) rfl))) (mvT hZ (hw _ (List.mem_of_getElem? (i := 50) rfl))) (notFace_of_selects (args := #[]) (mvT hZ (hw _ (List.mem_of_getElem? (i := 52) rfl)))) (mvT hZ (hw _ (List.mem_of_getElem? (i := 52) rfl))) (mvT hZ (hw _ (List.mem_of_getElem? (i := 51) rfl))) (by decide) (backOf (W := 0) (rm9 l Z A0 hw [] b13 (t3 + t7) T13.heap n0 ZT13_heap F_errors_b13) hZ (hw _ (List.mem_of_getElem? (i := 53) rfl)) (hw _ (List.mem_of_getElem? (i := 7) rfl)) (by decide) (by decide)) q16a q16c (g := (mkF m 293 #[.val (.int p0), .val (.long q1), .second, .val (.long q2), .second, .val (.long q3), .second, .val (.long q4), .second, .val (.long r7), .second, .val (.int t1), .val (.int t2), .val (.int t3), .val (.int t4), .val (.int t5), .val (.int t6), .val (.int t7), .val (.int t8), .val (.int (0 : Int32)), .val (.ref tx), .val (.ref tz), .val (.ref b13), .val (.long ((t1.toInt64) + (t5.toInt64))), .second, .val (.long ((t2.toInt64) + (t6.toInt64))), .second, .val (.long ((t3.toInt64) + (t7.toInt64))), .second, .val (.long ((t4.toInt64) + (t8.toInt64))), .second] [(.ref b13)])) rfl (by rw [hml]; rfl) (Steps.refl _) (argsL := []) (rest := []) (lenOf pd_5 rfl) rfl (by show 2 * 0 + _ ≤ _; exact Nat.le_of_eq rfl) (hb hby at_293) (fun _ _ => ⟨rfl, eh15, (by decide : 3 + 0 ≤ _), (by decide : 12 + 0 ≤ _)⟩)
    dsimp only [Pt.U, Pt.locs, Pt.cells, Pt.slots] at X16 l16 y16 z16 st16 hQ16
    subst l16 y16 z16
    obtain ⟨rfl, N16q, eh16⟩ := hQ16
    have N16 := Fr.app N15 N16q
    obtain ⟨cq17, kq17, q17a, q17b, q17c⟩ := isOf hZ eh16 E_b13
    obtain ⟨_, _, ⟨T17, L17, k17, n17⟩, -, X17, ⟨Lc17, hQ17, l17, y17, z17⟩, st17⟩ := X16.virtualBack hx (y := (⟨"com/example/forkline/forkline/Tally", "skipped", "()I"⟩ : MethodName)) (z := (⟨"com/example/forkline/forkline/Tally", "skipped", "()I"⟩ : MethodName)) hown (mvT hZ (hw _ (List.mem_of_getElem? (i := 54) rfl))) (mvT hZ (hw _ (List.mem_of_getElem? (i := 55) rfl))) (notFace_of_selects (args := #[]) (mvT hZ (hw _ (List.mem_of_getElem? (i := 57) rfl)))) (mvT hZ (hw _ (List.mem_of_getElem? (i := 57) rfl))) (mvT hZ (hw _ (List.mem_of_getElem? (i := 56) rfl))) (by decide) (backOf (W := 0) (rm10 l Z A0 hw [] b13 (t4 + t8) T13.heap n0 ZT13_heap F_skipped_b13) hZ (hw _ (List.mem_of_getElem? (i := 58) rfl)) (hw _ (List.mem_of_getElem? (i := 7) rfl)) (by decide) (by decide)) q17a q17c (g := (mkF m 305 #[.val (.int p0), .val (.long q1), .second, .val (.long q2), .second, .val (.long q3), .second, .val (.long q4), .second, .val (.long r7), .second, .val (.int t1), .val (.int t2), .val (.int t3), .val (.int t4), .val (.int t5), .val (.int t6), .val (.int t7), .val (.int t8), .val (.int (0 : Int32)), .val (.ref tx), .val (.ref tz), .val (.ref b13), .val (.long ((t1.toInt64) + (t5.toInt64))), .second, .val (.long ((t2.toInt64) + (t6.toInt64))), .second, .val (.long ((t3.toInt64) + (t7.toInt64))), .second, .val (.long ((t4.toInt64) + (t8.toInt64))), .second] [(.ref b13)])) rfl (by rw [hml]; rfl) (Steps.refl _) (argsL := []) (rest := []) (lenOf pd_5 rfl) rfl (by show 2 * 0 + _ ≤ _; exact Nat.le_of_eq rfl) (hb hby at_305) (fun _ _ => ⟨rfl, eh16, (by decide : 3 + 0 ≤ _), (by decide : 12 + 0 ≤ _)⟩)
    dsimp only [Pt.U, Pt.locs, Pt.cells, Pt.slots] at X17 l17 y17 z17 st17 hQ17
    subst l17 y17 z17
    obtain ⟨rfl, N17q, eh17⟩ := hQ17
    have N17 := Fr.app N16 N17q
    obtain ⟨fs, hr, hrun, hended, hW, hsame⟩ := X17.leave (v := some (.int (1 : Int32))) (fun h => by rw [Bd.returns] at h; cases h)
    refine ⟨_, _, pre0 _ ?_, hrun, hended, _, _, rfl, ?_, ⟨_, rfl⟩, hW, hsame.mono (by decide) (by decide)⟩
    · show Steps p.tables e below (s₁.setTop (mkF m 0 #[.val (.int p0), .val (.long q1), .second, .val (.long q2), .second, .val (.long q3), .second, .val (.long q4), .second, .unset, .unset, .unset, .unset, .unset, .unset, .unset, .unset, .unset, .unset, .unset, .unset, .unset, .unset, .unset, .unset, .unset, .unset, .unset, .unset, .unset, .unset] [])) _
      refine XS.iloadN X0.here hx rfl (hb hby at_0) rfl ?_
      show Steps p.tables e below (s₁.setTop (mkF m 1 #[.val (.int p0), .val (.long q1), .second, .val (.long q2), .second, .val (.long q3), .second, .val (.long q4), .second, .unset, .unset, .unset, .unset, .unset, .unset, .unset, .unset, .unset, .unset, .unset, .unset, .unset, .unset, .unset, .unset, .unset, .unset, .unset, .unset, .unset, .unset] [(.int p0)])) _
      refine XS.i2l X0.here hx rfl (hb hby at_1) rfl ?_
      show Steps p.tables e below (s₁.setTop (mkF m 2 #[.val (.int p0), .val (.long q1), .second, .val (.long q2), .second, .val (.long q3), .second, .val (.long q4), .second, .unset, .unset, .unset, .unset, .unset, .unset, .unset, .unset, .unset, .unset, .unset, .unset, .unset, .unset, .unset, .unset, .unset, .unset, .unset, .unset, .unset, .unset] [(.long (p0.toInt64))])) _
      refine X0.ldc2Long hx hown (mvT hZ (hw _ (List.mem_of_getElem? (i := 0) rfl))) (g := (mkF m 2 #[.val (.int p0), .val (.long q1), .second, .val (.long q2), .second, .val (.long q3), .second, .val (.long q4), .second, .unset, .unset, .unset, .unset, .unset, .unset, .unset, .unset, .unset, .unset, .unset, .unset, .unset, .unset, .unset, .unset, .unset, .unset, .unset, .unset, .unset, .unset] [(.long (p0.toInt64))])) rfl (hb hby at_2) _ ?_
      show Steps p.tables e below (s₁.setTop (mkF m 5 #[.val (.int p0), .val (.long q1), .second, .val (.long q2), .second, .val (.long q3), .second, .val (.long q4), .second, .unset, .unset, .unset, .unset, .unset, .unset, .unset, .unset, .unset, .unset, .unset, .unset, .unset, .unset, .unset, .unset, .unset, .unset, .unset, .unset, .unset, .unset] [(.long (2147483647 : Int64)), (.long (p0.toInt64))])) _
      refine XS.land X0.here hx rfl (hb hby at_5) rfl ?_
      show Steps p.tables e below (s₁.setTop (mkF m 6 #[.val (.int p0), .val (.long q1), .second, .val (.long q2), .second, .val (.long q3), .second, .val (.long q4), .second, .unset, .unset, .unset, .unset, .unset, .unset, .unset, .unset, .unset, .unset, .unset, .unset, .unset, .unset, .unset, .unset, .unset, .unset, .unset, .unset, .unset, .unset] [(.long ((p0.toInt64) &&& (2147483647 : Int64)))])) _
      rw [← h_r0]
      show Steps p.tables e below (s₁.setTop (mkF m 6 #[.val (.int p0), .val (.long q1), .second, .val (.long q2), .second, .val (.long q3), .second, .val (.long q4), .second, .unset, .unset, .unset, .unset, .unset, .unset, .unset, .unset, .unset, .unset, .unset, .unset, .unset, .unset, .unset, .unset, .unset, .unset, .unset, .unset, .unset, .unset] [(.long r0)])) _
      refine XS.lstore X0.here hx rfl (hb hby at_6) rfl (l' := #[.val (.int p0), .val (.long q1), .second, .val (.long q2), .second, .val (.long q3), .second, .val (.long q4), .second, .val (.long r0), .second, .unset, .unset, .unset, .unset, .unset, .unset, .unset, .unset, .unset, .unset, .unset, .unset, .unset, .unset, .unset, .unset, .unset, .unset, .unset, .unset]) rfl ?_
      show Steps p.tables e below (s₁.setTop (mkF m 8 #[.val (.int p0), .val (.long q1), .second, .val (.long q2), .second, .val (.long q3), .second, .val (.long q4), .second, .val (.long r0), .second, .unset, .unset, .unset, .unset, .unset, .unset, .unset, .unset, .unset, .unset, .unset, .unset, .unset, .unset, .unset, .unset, .unset, .unset, .unset, .unset] [])) _
      refine XS.lloadN X0.here hx rfl (hb hby at_8) rfl ?_
      show Steps p.tables e below (s₁.setTop (mkF m 9 #[.val (.int p0), .val (.long q1), .second, .val (.long q2), .second, .val (.long q3), .second, .val (.long q4), .second, .val (.long r0), .second, .unset, .unset, .unset, .unset, .unset, .unset, .unset, .unset, .unset, .unset, .unset, .unset, .unset, .unset, .unset, .unset, .unset, .unset, .unset, .unset] [(.long q1)])) _
      refine XS.l2i X0.here hx rfl (hb hby at_9) rfl ?_
      show Steps p.tables e below (s₁.setTop (mkF m 10 #[.val (.int p0), .val (.long q1), .second, .val (.long q2), .second, .val (.long q3), .second, .val (.long q4), .second, .val (.long r0), .second, .unset, .unset, .unset, .unset, .unset, .unset, .unset, .unset, .unset, .unset, .unset, .unset, .unset, .unset, .unset, .unset, .unset, .unset, .unset, .unset] [(.int (q1.toInt32))])) _
      refine XS.lload X0.here hx rfl (hb hby at_10) rfl ?_
      show Steps p.tables e below (s₁.setTop (mkF m 12 #[.val (.int p0), .val (.long q1), .second, .val (.long q2), .second, .val (.long q3), .second, .val (.long q4), .second, .val (.long r0), .second, .unset, .unset, .unset, .unset, .unset, .unset, .unset, .unset, .unset, .unset, .unset, .unset, .unset, .unset, .unset, .unset, .unset, .unset, .unset, .unset] [(.long r0), (.int (q1.toInt32))])) _
      refine st1 _ ?_
      show Steps p.tables e below (T1.setTop (mkF m 15 #[.val (.int p0), .val (.long q1), .second, .val (.long q2), .second, .val (.long q3), .second, .val (.long q4), .second, .val (.long r0), .second, .unset, .unset, .unset, .unset, .unset, .unset, .unset, .unset, .unset, .unset, .unset, .unset, .unset, .unset, .unset, .unset, .unset, .unset, .unset, .unset] [(.int (((((q1.toInt32).toInt64) &&& (2147483647 : Int64)) % (r0 + (1 : Int64))).toInt32))])) _
      rw [← h_t1]
      show Steps p.tables e below (T1.setTop (mkF m 15 #[.val (.int p0), .val (.long q1), .second, .val (.long q2), .second, .val (.long q3), .second, .val (.long q4), .second, .val (.long r0), .second, .unset, .unset, .unset, .unset, .unset, .unset, .unset, .unset, .unset, .unset, .unset, .unset, .unset, .unset, .unset, .unset, .unset, .unset, .unset, .unset] [(.int t1)])) _
      refine XS.istore X1.here hx rfl (hb hby at_15) rfl (l' := #[.val (.int p0), .val (.long q1), .second, .val (.long q2), .second, .val (.long q3), .second, .val (.long q4), .second, .val (.long r0), .second, .val (.int t1), .unset, .unset, .unset, .unset, .unset, .unset, .unset, .unset, .unset, .unset, .unset, .unset, .unset, .unset, .unset, .unset, .unset, .unset, .unset]) rfl ?_
      show Steps p.tables e below (T1.setTop (mkF m 17 #[.val (.int p0), .val (.long q1), .second, .val (.long q2), .second, .val (.long q3), .second, .val (.long q4), .second, .val (.long r0), .second, .val (.int t1), .unset, .unset, .unset, .unset, .unset, .unset, .unset, .unset, .unset, .unset, .unset, .unset, .unset, .unset, .unset, .unset, .unset, .unset, .unset] [])) _
      refine XS.lload X1.here hx rfl (hb hby at_17) rfl ?_
      show Steps p.tables e below (T1.setTop (mkF m 19 #[.val (.int p0), .val (.long q1), .second, .val (.long q2), .second, .val (.long q3), .second, .val (.long q4), .second, .val (.long r0), .second, .val (.int t1), .unset, .unset, .unset, .unset, .unset, .unset, .unset, .unset, .unset, .unset, .unset, .unset, .unset, .unset, .unset, .unset, .unset, .unset, .unset] [(.long r0)])) _
      refine XS.iload X1.here hx rfl (hb hby at_19) rfl ?_
      show Steps p.tables e below (T1.setTop (mkF m 21 #[.val (.int p0), .val (.long q1), .second, .val (.long q2), .second, .val (.long q3), .second, .val (.long q4), .second, .val (.long r0), .second, .val (.int t1), .unset, .unset, .unset, .unset, .unset, .unset, .unset, .unset, .unset, .unset, .unset, .unset, .unset, .unset, .unset, .unset, .unset, .unset, .unset] [(.int t1), (.long r0)])) _
      refine XS.i2l X1.here hx rfl (hb hby at_21) rfl ?_
      show Steps p.tables e below (T1.setTop (mkF m 22 #[.val (.int p0), .val (.long q1), .second, .val (.long q2), .second, .val (.long q3), .second, .val (.long q4), .second, .val (.long r0), .second, .val (.int t1), .unset, .unset, .unset, .unset, .unset, .unset, .unset, .unset, .unset, .unset, .unset, .unset, .unset, .unset, .unset, .unset, .unset, .unset, .unset] [(.long (t1.toInt64)), (.long r0)])) _
      refine XS.lsub X1.here hx rfl (hb hby at_22) rfl ?_
      show Steps p.tables e below (T1.setTop (mkF m 23 #[.val (.int p0), .val (.long q1), .second, .val (.long q2), .second, .val (.long q3), .second, .val (.long q4), .second, .val (.long r0), .second, .val (.int t1), .unset, .unset, .unset, .unset, .unset, .unset, .unset, .unset, .unset, .unset, .unset, .unset, .unset, .unset, .unset, .unset, .unset, .unset, .unset] [(.long (r0 - (t1.toInt64)))])) _
      rw [← h_r1]
      show Steps p.tables e below (T1.setTop (mkF m 23 #[.val (.int p0), .val (.long q1), .second, .val (.long q2), .second, .val (.long q3), .second, .val (.long q4), .second, .val (.long r0), .second, .val (.int t1), .unset, .unset, .unset, .unset, .unset, .unset, .unset, .unset, .unset, .unset, .unset, .unset, .unset, .unset, .unset, .unset, .unset, .unset, .unset] [(.long r1)])) _
      refine XS.lstore X1.here hx rfl (hb hby at_23) rfl (l' := #[.val (.int p0), .val (.long q1), .second, .val (.long q2), .second, .val (.long q3), .second, .val (.long q4), .second, .val (.long r1), .second, .val (.int t1), .unset, .unset, .unset, .unset, .unset, .unset, .unset, .unset, .unset, .unset, .unset, .unset, .unset, .unset, .unset, .unset, .unset, .unset, .unset]) rfl ?_
      show Steps p.tables e below (T1.setTop (mkF m 25 #[.val (.int p0), .val (.long q1), .second, .val (.long q2), .second, .val (.long q3), .second, .val (.long q4), .second, .val (.long r1), .second, .val (.int t1), .unset, .unset, .unset, .unset, .unset, .unset, .unset, .unset, .unset, .unset, .unset, .unset, .unset, .unset, .unset, .unset, .unset, .unset, .unset] [])) _
      refine XS.lloadN X1.here hx rfl (hb hby at_25) rfl ?_
      show Steps p.tables e below (T1.setTop (mkF m 26 #[.val (.int p0), .val (.long q1), .second, .val (.long q2), .second, .val (.long q3), .second, .val (.long q4), .second, .val (.long r1), .second, .val (.int t1), .unset, .unset, .unset, .unset, .unset, .unset, .unset, .unset, .unset, .unset, .unset, .unset, .unset, .unset, .unset, .unset, .unset, .unset, .unset] [(.long q1)])) _
      refine XS.bipush X1.here hx rfl (hb hby at_26) ?_
      show Steps p.tables e below (T1.setTop (mkF m 28 #[.val (.int p0), .val (.long q1), .second, .val (.long q2), .second, .val (.long q3), .second, .val (.long q4), .second, .val (.long r1), .second, .val (.int t1), .unset, .unset, .unset, .unset, .unset, .unset, .unset, .unset, .unset, .unset, .unset, .unset, .unset, .unset, .unset, .unset, .unset, .unset, .unset] [(.int (32 : Int32)), (.long q1)])) _
      refine XS.lushr X1.here hx rfl (hb hby at_28) rfl ?_
      show Steps p.tables e below (T1.setTop (mkF m 29 #[.val (.int p0), .val (.long q1), .second, .val (.long q2), .second, .val (.long q3), .second, .val (.long q4), .second, .val (.long r1), .second, .val (.int t1), .unset, .unset, .unset, .unset, .unset, .unset, .unset, .unset, .unset, .unset, .unset, .unset, .unset, .unset, .unset, .unset, .unset, .unset, .unset] [(.long ((q1.toUInt64 >>> ((32 : Int32) &&& 0x3f).toInt64.toUInt64).toInt64))])) _
      refine XS.l2i X1.here hx rfl (hb hby at_29) rfl ?_
      show Steps p.tables e below (T1.setTop (mkF m 30 #[.val (.int p0), .val (.long q1), .second, .val (.long q2), .second, .val (.long q3), .second, .val (.long q4), .second, .val (.long r1), .second, .val (.int t1), .unset, .unset, .unset, .unset, .unset, .unset, .unset, .unset, .unset, .unset, .unset, .unset, .unset, .unset, .unset, .unset, .unset, .unset, .unset] [(.int (((q1.toUInt64 >>> ((32 : Int32) &&& 0x3f).toInt64.toUInt64).toInt64).toInt32))])) _
      refine XS.lload X1.here hx rfl (hb hby at_30) rfl ?_
      show Steps p.tables e below (T1.setTop (mkF m 32 #[.val (.int p0), .val (.long q1), .second, .val (.long q2), .second, .val (.long q3), .second, .val (.long q4), .second, .val (.long r1), .second, .val (.int t1), .unset, .unset, .unset, .unset, .unset, .unset, .unset, .unset, .unset, .unset, .unset, .unset, .unset, .unset, .unset, .unset, .unset, .unset, .unset] [(.long r1), (.int (((q1.toUInt64 >>> ((32 : Int32) &&& 0x3f).toInt64.toUInt64).toInt64).toInt32))])) _
      refine st2 _ ?_
      show Steps p.tables e below (T2.setTop (mkF m 35 #[.val (.int p0), .val (.long q1), .second, .val (.long q2), .second, .val (.long q3), .second, .val (.long q4), .second, .val (.long r1), .second, .val (.int t1), .unset, .unset, .unset, .unset, .unset, .unset, .unset, .unset, .unset, .unset, .unset, .unset, .unset, .unset, .unset, .unset, .unset, .unset, .unset] [(.int (((((((q1.toUInt64 >>> ((32 : Int32) &&& 0x3f).toInt64.toUInt64).toInt64).toInt32).toInt64) &&& (2147483647 : Int64)) % (r1 + (1 : Int64))).toInt32))])) _
      rw [← h_t2]
      show Steps p.tables e below (T2.setTop (mkF m 35 #[.val (.int p0), .val (.long q1), .second, .val (.long q2), .second, .val (.long q3), .second, .val (.long q4), .second, .val (.long r1), .second, .val (.int t1), .unset, .unset, .unset, .unset, .unset, .unset, .unset, .unset, .unset, .unset, .unset, .unset, .unset, .unset, .unset, .unset, .unset, .unset, .unset] [(.int t2)])) _
      refine XS.istore X2.here hx rfl (hb hby at_35) rfl (l' := #[.val (.int p0), .val (.long q1), .second, .val (.long q2), .second, .val (.long q3), .second, .val (.long q4), .second, .val (.long r1), .second, .val (.int t1), .val (.int t2), .unset, .unset, .unset, .unset, .unset, .unset, .unset, .unset, .unset, .unset, .unset, .unset, .unset, .unset, .unset, .unset, .unset, .unset]) rfl ?_
      show Steps p.tables e below (T2.setTop (mkF m 37 #[.val (.int p0), .val (.long q1), .second, .val (.long q2), .second, .val (.long q3), .second, .val (.long q4), .second, .val (.long r1), .second, .val (.int t1), .val (.int t2), .unset, .unset, .unset, .unset, .unset, .unset, .unset, .unset, .unset, .unset, .unset, .unset, .unset, .unset, .unset, .unset, .unset, .unset] [])) _
      refine XS.lload X2.here hx rfl (hb hby at_37) rfl ?_
      show Steps p.tables e below (T2.setTop (mkF m 39 #[.val (.int p0), .val (.long q1), .second, .val (.long q2), .second, .val (.long q3), .second, .val (.long q4), .second, .val (.long r1), .second, .val (.int t1), .val (.int t2), .unset, .unset, .unset, .unset, .unset, .unset, .unset, .unset, .unset, .unset, .unset, .unset, .unset, .unset, .unset, .unset, .unset, .unset] [(.long r1)])) _
      refine XS.iload X2.here hx rfl (hb hby at_39) rfl ?_
      show Steps p.tables e below (T2.setTop (mkF m 41 #[.val (.int p0), .val (.long q1), .second, .val (.long q2), .second, .val (.long q3), .second, .val (.long q4), .second, .val (.long r1), .second, .val (.int t1), .val (.int t2), .unset, .unset, .unset, .unset, .unset, .unset, .unset, .unset, .unset, .unset, .unset, .unset, .unset, .unset, .unset, .unset, .unset, .unset] [(.int t2), (.long r1)])) _
      refine XS.i2l X2.here hx rfl (hb hby at_41) rfl ?_
      show Steps p.tables e below (T2.setTop (mkF m 42 #[.val (.int p0), .val (.long q1), .second, .val (.long q2), .second, .val (.long q3), .second, .val (.long q4), .second, .val (.long r1), .second, .val (.int t1), .val (.int t2), .unset, .unset, .unset, .unset, .unset, .unset, .unset, .unset, .unset, .unset, .unset, .unset, .unset, .unset, .unset, .unset, .unset, .unset] [(.long (t2.toInt64)), (.long r1)])) _
      refine XS.lsub X2.here hx rfl (hb hby at_42) rfl ?_
      show Steps p.tables e below (T2.setTop (mkF m 43 #[.val (.int p0), .val (.long q1), .second, .val (.long q2), .second, .val (.long q3), .second, .val (.long q4), .second, .val (.long r1), .second, .val (.int t1), .val (.int t2), .unset, .unset, .unset, .unset, .unset, .unset, .unset, .unset, .unset, .unset, .unset, .unset, .unset, .unset, .unset, .unset, .unset, .unset] [(.long (r1 - (t2.toInt64)))])) _
      rw [← h_r2]
      show Steps p.tables e below (T2.setTop (mkF m 43 #[.val (.int p0), .val (.long q1), .second, .val (.long q2), .second, .val (.long q3), .second, .val (.long q4), .second, .val (.long r1), .second, .val (.int t1), .val (.int t2), .unset, .unset, .unset, .unset, .unset, .unset, .unset, .unset, .unset, .unset, .unset, .unset, .unset, .unset, .unset, .unset, .unset, .unset] [(.long r2)])) _
      refine XS.lstore X2.here hx rfl (hb hby at_43) rfl (l' := #[.val (.int p0), .val (.long q1), .second, .val (.long q2), .second, .val (.long q3), .second, .val (.long q4), .second, .val (.long r2), .second, .val (.int t1), .val (.int t2), .unset, .unset, .unset, .unset, .unset, .unset, .unset, .unset, .unset, .unset, .unset, .unset, .unset, .unset, .unset, .unset, .unset, .unset]) rfl ?_
      show Steps p.tables e below (T2.setTop (mkF m 45 #[.val (.int p0), .val (.long q1), .second, .val (.long q2), .second, .val (.long q3), .second, .val (.long q4), .second, .val (.long r2), .second, .val (.int t1), .val (.int t2), .unset, .unset, .unset, .unset, .unset, .unset, .unset, .unset, .unset, .unset, .unset, .unset, .unset, .unset, .unset, .unset, .unset, .unset] [])) _
      refine XS.lloadN X2.here hx rfl (hb hby at_45) rfl ?_
      show Steps p.tables e below (T2.setTop (mkF m 46 #[.val (.int p0), .val (.long q1), .second, .val (.long q2), .second, .val (.long q3), .second, .val (.long q4), .second, .val (.long r2), .second, .val (.int t1), .val (.int t2), .unset, .unset, .unset, .unset, .unset, .unset, .unset, .unset, .unset, .unset, .unset, .unset, .unset, .unset, .unset, .unset, .unset, .unset] [(.long q2)])) _
      refine XS.l2i X2.here hx rfl (hb hby at_46) rfl ?_
      show Steps p.tables e below (T2.setTop (mkF m 47 #[.val (.int p0), .val (.long q1), .second, .val (.long q2), .second, .val (.long q3), .second, .val (.long q4), .second, .val (.long r2), .second, .val (.int t1), .val (.int t2), .unset, .unset, .unset, .unset, .unset, .unset, .unset, .unset, .unset, .unset, .unset, .unset, .unset, .unset, .unset, .unset, .unset, .unset] [(.int (q2.toInt32))])) _
      refine XS.lload X2.here hx rfl (hb hby at_47) rfl ?_
      show Steps p.tables e below (T2.setTop (mkF m 49 #[.val (.int p0), .val (.long q1), .second, .val (.long q2), .second, .val (.long q3), .second, .val (.long q4), .second, .val (.long r2), .second, .val (.int t1), .val (.int t2), .unset, .unset, .unset, .unset, .unset, .unset, .unset, .unset, .unset, .unset, .unset, .unset, .unset, .unset, .unset, .unset, .unset, .unset] [(.long r2), (.int (q2.toInt32))])) _
      refine st3 _ ?_
      show Steps p.tables e below (T3.setTop (mkF m 52 #[.val (.int p0), .val (.long q1), .second, .val (.long q2), .second, .val (.long q3), .second, .val (.long q4), .second, .val (.long r2), .second, .val (.int t1), .val (.int t2), .unset, .unset, .unset, .unset, .unset, .unset, .unset, .unset, .unset, .unset, .unset, .unset, .unset, .unset, .unset, .unset, .unset, .unset] [(.int (((((q2.toInt32).toInt64) &&& (2147483647 : Int64)) % (r2 + (1 : Int64))).toInt32))])) _
      rw [← h_t3]
      show Steps p.tables e below (T3.setTop (mkF m 52 #[.val (.int p0), .val (.long q1), .second, .val (.long q2), .second, .val (.long q3), .second, .val (.long q4), .second, .val (.long r2), .second, .val (.int t1), .val (.int t2), .unset, .unset, .unset, .unset, .unset, .unset, .unset, .unset, .unset, .unset, .unset, .unset, .unset, .unset, .unset, .unset, .unset, .unset] [(.int t3)])) _
      refine XS.istore X3.here hx rfl (hb hby at_52) rfl (l' := #[.val (.int p0), .val (.long q1), .second, .val (.long q2), .second, .val (.long q3), .second, .val (.long q4), .second, .val (.long r2), .second, .val (.int t1), .val (.int t2), .val (.int t3), .unset, .unset, .unset, .unset, .unset, .unset, .unset, .unset, .unset, .unset, .unset, .unset, .unset, .unset, .unset, .unset, .unset]) rfl ?_
      show Steps p.tables e below (T3.setTop (mkF m 54 #[.val (.int p0), .val (.long q1), .second, .val (.long q2), .second, .val (.long q3), .second, .val (.long q4), .second, .val (.long r2), .second, .val (.int t1), .val (.int t2), .val (.int t3), .unset, .unset, .unset, .unset, .unset, .unset, .unset, .unset, .unset, .unset, .unset, .unset, .unset, .unset, .unset, .unset, .unset] [])) _
      refine XS.lload X3.here hx rfl (hb hby at_54) rfl ?_
      show Steps p.tables e below (T3.setTop (mkF m 56 #[.val (.int p0), .val (.long q1), .second, .val (.long q2), .second, .val (.long q3), .second, .val (.long q4), .second, .val (.long r2), .second, .val (.int t1), .val (.int t2), .val (.int t3), .unset, .unset, .unset, .unset, .unset, .unset, .unset, .unset, .unset, .unset, .unset, .unset, .unset, .unset, .unset, .unset, .unset] [(.long r2)])) _
      refine XS.iload X3.here hx rfl (hb hby at_56) rfl ?_
      show Steps p.tables e below (T3.setTop (mkF m 58 #[.val (.int p0), .val (.long q1), .second, .val (.long q2), .second, .val (.long q3), .second, .val (.long q4), .second, .val (.long r2), .second, .val (.int t1), .val (.int t2), .val (.int t3), .unset, .unset, .unset, .unset, .unset, .unset, .unset, .unset, .unset, .unset, .unset, .unset, .unset, .unset, .unset, .unset, .unset] [(.int t3), (.long r2)])) _
      refine XS.i2l X3.here hx rfl (hb hby at_58) rfl ?_
      show Steps p.tables e below (T3.setTop (mkF m 59 #[.val (.int p0), .val (.long q1), .second, .val (.long q2), .second, .val (.long q3), .second, .val (.long q4), .second, .val (.long r2), .second, .val (.int t1), .val (.int t2), .val (.int t3), .unset, .unset, .unset, .unset, .unset, .unset, .unset, .unset, .unset, .unset, .unset, .unset, .unset, .unset, .unset, .unset, .unset] [(.long (t3.toInt64)), (.long r2)])) _
      refine XS.lsub X3.here hx rfl (hb hby at_59) rfl ?_
      show Steps p.tables e below (T3.setTop (mkF m 60 #[.val (.int p0), .val (.long q1), .second, .val (.long q2), .second, .val (.long q3), .second, .val (.long q4), .second, .val (.long r2), .second, .val (.int t1), .val (.int t2), .val (.int t3), .unset, .unset, .unset, .unset, .unset, .unset, .unset, .unset, .unset, .unset, .unset, .unset, .unset, .unset, .unset, .unset, .unset] [(.long (r2 - (t3.toInt64)))])) _
      rw [← h_r3]
      show Steps p.tables e below (T3.setTop (mkF m 60 #[.val (.int p0), .val (.long q1), .second, .val (.long q2), .second, .val (.long q3), .second, .val (.long q4), .second, .val (.long r2), .second, .val (.int t1), .val (.int t2), .val (.int t3), .unset, .unset, .unset, .unset, .unset, .unset, .unset, .unset, .unset, .unset, .unset, .unset, .unset, .unset, .unset, .unset, .unset] [(.long r3)])) _
      refine XS.lstore X3.here hx rfl (hb hby at_60) rfl (l' := #[.val (.int p0), .val (.long q1), .second, .val (.long q2), .second, .val (.long q3), .second, .val (.long q4), .second, .val (.long r3), .second, .val (.int t1), .val (.int t2), .val (.int t3), .unset, .unset, .unset, .unset, .unset, .unset, .unset, .unset, .unset, .unset, .unset, .unset, .unset, .unset, .unset, .unset, .unset]) rfl ?_
      show Steps p.tables e below (T3.setTop (mkF m 62 #[.val (.int p0), .val (.long q1), .second, .val (.long q2), .second, .val (.long q3), .second, .val (.long q4), .second, .val (.long r3), .second, .val (.int t1), .val (.int t2), .val (.int t3), .unset, .unset, .unset, .unset, .unset, .unset, .unset, .unset, .unset, .unset, .unset, .unset, .unset, .unset, .unset, .unset, .unset] [])) _
      refine XS.lloadN X3.here hx rfl (hb hby at_62) rfl ?_
      show Steps p.tables e below (T3.setTop (mkF m 63 #[.val (.int p0), .val (.long q1), .second, .val (.long q2), .second, .val (.long q3), .second, .val (.long q4), .second, .val (.long r3), .second, .val (.int t1), .val (.int t2), .val (.int t3), .unset, .unset, .unset, .unset, .unset, .unset, .unset, .unset, .unset, .unset, .unset, .unset, .unset, .unset, .unset, .unset, .unset] [(.long q2)])) _
      refine XS.bipush X3.here hx rfl (hb hby at_63) ?_
      show Steps p.tables e below (T3.setTop (mkF m 65 #[.val (.int p0), .val (.long q1), .second, .val (.long q2), .second, .val (.long q3), .second, .val (.long q4), .second, .val (.long r3), .second, .val (.int t1), .val (.int t2), .val (.int t3), .unset, .unset, .unset, .unset, .unset, .unset, .unset, .unset, .unset, .unset, .unset, .unset, .unset, .unset, .unset, .unset, .unset] [(.int (32 : Int32)), (.long q2)])) _
      refine XS.lushr X3.here hx rfl (hb hby at_65) rfl ?_
      show Steps p.tables e below (T3.setTop (mkF m 66 #[.val (.int p0), .val (.long q1), .second, .val (.long q2), .second, .val (.long q3), .second, .val (.long q4), .second, .val (.long r3), .second, .val (.int t1), .val (.int t2), .val (.int t3), .unset, .unset, .unset, .unset, .unset, .unset, .unset, .unset, .unset, .unset, .unset, .unset, .unset, .unset, .unset, .unset, .unset] [(.long ((q2.toUInt64 >>> ((32 : Int32) &&& 0x3f).toInt64.toUInt64).toInt64))])) _
      refine XS.l2i X3.here hx rfl (hb hby at_66) rfl ?_
      show Steps p.tables e below (T3.setTop (mkF m 67 #[.val (.int p0), .val (.long q1), .second, .val (.long q2), .second, .val (.long q3), .second, .val (.long q4), .second, .val (.long r3), .second, .val (.int t1), .val (.int t2), .val (.int t3), .unset, .unset, .unset, .unset, .unset, .unset, .unset, .unset, .unset, .unset, .unset, .unset, .unset, .unset, .unset, .unset, .unset] [(.int (((q2.toUInt64 >>> ((32 : Int32) &&& 0x3f).toInt64.toUInt64).toInt64).toInt32))])) _
      refine XS.lload X3.here hx rfl (hb hby at_67) rfl ?_
      show Steps p.tables e below (T3.setTop (mkF m 69 #[.val (.int p0), .val (.long q1), .second, .val (.long q2), .second, .val (.long q3), .second, .val (.long q4), .second, .val (.long r3), .second, .val (.int t1), .val (.int t2), .val (.int t3), .unset, .unset, .unset, .unset, .unset, .unset, .unset, .unset, .unset, .unset, .unset, .unset, .unset, .unset, .unset, .unset, .unset] [(.long r3), (.int (((q2.toUInt64 >>> ((32 : Int32) &&& 0x3f).toInt64.toUInt64).toInt64).toInt32))])) _
      refine st4 _ ?_
      show Steps p.tables e below (T4.setTop (mkF m 72 #[.val (.int p0), .val (.long q1), .second, .val (.long q2), .second, .val (.long q3), .second, .val (.long q4), .second, .val (.long r3), .second, .val (.int t1), .val (.int t2), .val (.int t3), .unset, .unset, .unset, .unset, .unset, .unset, .unset, .unset, .unset, .unset, .unset, .unset, .unset, .unset, .unset, .unset, .unset] [(.int (((((((q2.toUInt64 >>> ((32 : Int32) &&& 0x3f).toInt64.toUInt64).toInt64).toInt32).toInt64) &&& (2147483647 : Int64)) % (r3 + (1 : Int64))).toInt32))])) _
      rw [← h_t4]
      show Steps p.tables e below (T4.setTop (mkF m 72 #[.val (.int p0), .val (.long q1), .second, .val (.long q2), .second, .val (.long q3), .second, .val (.long q4), .second, .val (.long r3), .second, .val (.int t1), .val (.int t2), .val (.int t3), .unset, .unset, .unset, .unset, .unset, .unset, .unset, .unset, .unset, .unset, .unset, .unset, .unset, .unset, .unset, .unset, .unset] [(.int t4)])) _
      refine XS.istore X4.here hx rfl (hb hby at_72) rfl (l' := #[.val (.int p0), .val (.long q1), .second, .val (.long q2), .second, .val (.long q3), .second, .val (.long q4), .second, .val (.long r3), .second, .val (.int t1), .val (.int t2), .val (.int t3), .val (.int t4), .unset, .unset, .unset, .unset, .unset, .unset, .unset, .unset, .unset, .unset, .unset, .unset, .unset, .unset, .unset, .unset]) rfl ?_
      show Steps p.tables e below (T4.setTop (mkF m 74 #[.val (.int p0), .val (.long q1), .second, .val (.long q2), .second, .val (.long q3), .second, .val (.long q4), .second, .val (.long r3), .second, .val (.int t1), .val (.int t2), .val (.int t3), .val (.int t4), .unset, .unset, .unset, .unset, .unset, .unset, .unset, .unset, .unset, .unset, .unset, .unset, .unset, .unset, .unset, .unset] [])) _
      refine XS.lload X4.here hx rfl (hb hby at_74) rfl ?_
      show Steps p.tables e below (T4.setTop (mkF m 76 #[.val (.int p0), .val (.long q1), .second, .val (.long q2), .second, .val (.long q3), .second, .val (.long q4), .second, .val (.long r3), .second, .val (.int t1), .val (.int t2), .val (.int t3), .val (.int t4), .unset, .unset, .unset, .unset, .unset, .unset, .unset, .unset, .unset, .unset, .unset, .unset, .unset, .unset, .unset, .unset] [(.long r3)])) _
      refine XS.iload X4.here hx rfl (hb hby at_76) rfl ?_
      show Steps p.tables e below (T4.setTop (mkF m 78 #[.val (.int p0), .val (.long q1), .second, .val (.long q2), .second, .val (.long q3), .second, .val (.long q4), .second, .val (.long r3), .second, .val (.int t1), .val (.int t2), .val (.int t3), .val (.int t4), .unset, .unset, .unset, .unset, .unset, .unset, .unset, .unset, .unset, .unset, .unset, .unset, .unset, .unset, .unset, .unset] [(.int t4), (.long r3)])) _
      refine XS.i2l X4.here hx rfl (hb hby at_78) rfl ?_
      show Steps p.tables e below (T4.setTop (mkF m 79 #[.val (.int p0), .val (.long q1), .second, .val (.long q2), .second, .val (.long q3), .second, .val (.long q4), .second, .val (.long r3), .second, .val (.int t1), .val (.int t2), .val (.int t3), .val (.int t4), .unset, .unset, .unset, .unset, .unset, .unset, .unset, .unset, .unset, .unset, .unset, .unset, .unset, .unset, .unset, .unset] [(.long (t4.toInt64)), (.long r3)])) _
      refine XS.lsub X4.here hx rfl (hb hby at_79) rfl ?_
      show Steps p.tables e below (T4.setTop (mkF m 80 #[.val (.int p0), .val (.long q1), .second, .val (.long q2), .second, .val (.long q3), .second, .val (.long q4), .second, .val (.long r3), .second, .val (.int t1), .val (.int t2), .val (.int t3), .val (.int t4), .unset, .unset, .unset, .unset, .unset, .unset, .unset, .unset, .unset, .unset, .unset, .unset, .unset, .unset, .unset, .unset] [(.long (r3 - (t4.toInt64)))])) _
      rw [← h_r4]
      show Steps p.tables e below (T4.setTop (mkF m 80 #[.val (.int p0), .val (.long q1), .second, .val (.long q2), .second, .val (.long q3), .second, .val (.long q4), .second, .val (.long r3), .second, .val (.int t1), .val (.int t2), .val (.int t3), .val (.int t4), .unset, .unset, .unset, .unset, .unset, .unset, .unset, .unset, .unset, .unset, .unset, .unset, .unset, .unset, .unset, .unset] [(.long r4)])) _
      refine XS.lstore X4.here hx rfl (hb hby at_80) rfl (l' := #[.val (.int p0), .val (.long q1), .second, .val (.long q2), .second, .val (.long q3), .second, .val (.long q4), .second, .val (.long r4), .second, .val (.int t1), .val (.int t2), .val (.int t3), .val (.int t4), .unset, .unset, .unset, .unset, .unset, .unset, .unset, .unset, .unset, .unset, .unset, .unset, .unset, .unset, .unset, .unset]) rfl ?_
      show Steps p.tables e below (T4.setTop (mkF m 82 #[.val (.int p0), .val (.long q1), .second, .val (.long q2), .second, .val (.long q3), .second, .val (.long q4), .second, .val (.long r4), .second, .val (.int t1), .val (.int t2), .val (.int t3), .val (.int t4), .unset, .unset, .unset, .unset, .unset, .unset, .unset, .unset, .unset, .unset, .unset, .unset, .unset, .unset, .unset, .unset] [])) _
      refine XS.lload X4.here hx rfl (hb hby at_82) rfl ?_
      show Steps p.tables e below (T4.setTop (mkF m 84 #[.val (.int p0), .val (.long q1), .second, .val (.long q2), .second, .val (.long q3), .second, .val (.long q4), .second, .val (.long r4), .second, .val (.int t1), .val (.int t2), .val (.int t3), .val (.int t4), .unset, .unset, .unset, .unset, .unset, .unset, .unset, .unset, .unset, .unset, .unset, .unset, .unset, .unset, .unset, .unset] [(.long q3)])) _
      refine XS.l2i X4.here hx rfl (hb hby at_84) rfl ?_
      show Steps p.tables e below (T4.setTop (mkF m 85 #[.val (.int p0), .val (.long q1), .second, .val (.long q2), .second, .val (.long q3), .second, .val (.long q4), .second, .val (.long r4), .second, .val (.int t1), .val (.int t2), .val (.int t3), .val (.int t4), .unset, .unset, .unset, .unset, .unset, .unset, .unset, .unset, .unset, .unset, .unset, .unset, .unset, .unset, .unset, .unset] [(.int (q3.toInt32))])) _
      refine XS.lload X4.here hx rfl (hb hby at_85) rfl ?_
      show Steps p.tables e below (T4.setTop (mkF m 87 #[.val (.int p0), .val (.long q1), .second, .val (.long q2), .second, .val (.long q3), .second, .val (.long q4), .second, .val (.long r4), .second, .val (.int t1), .val (.int t2), .val (.int t3), .val (.int t4), .unset, .unset, .unset, .unset, .unset, .unset, .unset, .unset, .unset, .unset, .unset, .unset, .unset, .unset, .unset, .unset] [(.long r4), (.int (q3.toInt32))])) _
      refine st5 _ ?_
      show Steps p.tables e below (T5.setTop (mkF m 90 #[.val (.int p0), .val (.long q1), .second, .val (.long q2), .second, .val (.long q3), .second, .val (.long q4), .second, .val (.long r4), .second, .val (.int t1), .val (.int t2), .val (.int t3), .val (.int t4), .unset, .unset, .unset, .unset, .unset, .unset, .unset, .unset, .unset, .unset, .unset, .unset, .unset, .unset, .unset, .unset] [(.int (((((q3.toInt32).toInt64) &&& (2147483647 : Int64)) % (r4 + (1 : Int64))).toInt32))])) _
      rw [← h_t5]
      show Steps p.tables e below (T5.setTop (mkF m 90 #[.val (.int p0), .val (.long q1), .second, .val (.long q2), .second, .val (.long q3), .second, .val (.long q4), .second, .val (.long r4), .second, .val (.int t1), .val (.int t2), .val (.int t3), .val (.int t4), .unset, .unset, .unset, .unset, .unset, .unset, .unset, .unset, .unset, .unset, .unset, .unset, .unset, .unset, .unset, .unset] [(.int t5)])) _
      refine XS.istore X5.here hx rfl (hb hby at_90) rfl (l' := #[.val (.int p0), .val (.long q1), .second, .val (.long q2), .second, .val (.long q3), .second, .val (.long q4), .second, .val (.long r4), .second, .val (.int t1), .val (.int t2), .val (.int t3), .val (.int t4), .val (.int t5), .unset, .unset, .unset, .unset, .unset, .unset, .unset, .unset, .unset, .unset, .unset, .unset, .unset, .unset, .unset]) rfl ?_
      show Steps p.tables e below (T5.setTop (mkF m 92 #[.val (.int p0), .val (.long q1), .second, .val (.long q2), .second, .val (.long q3), .second, .val (.long q4), .second, .val (.long r4), .second, .val (.int t1), .val (.int t2), .val (.int t3), .val (.int t4), .val (.int t5), .unset, .unset, .unset, .unset, .unset, .unset, .unset, .unset, .unset, .unset, .unset, .unset, .unset, .unset, .unset] [])) _
      refine XS.lload X5.here hx rfl (hb hby at_92) rfl ?_
      show Steps p.tables e below (T5.setTop (mkF m 94 #[.val (.int p0), .val (.long q1), .second, .val (.long q2), .second, .val (.long q3), .second, .val (.long q4), .second, .val (.long r4), .second, .val (.int t1), .val (.int t2), .val (.int t3), .val (.int t4), .val (.int t5), .unset, .unset, .unset, .unset, .unset, .unset, .unset, .unset, .unset, .unset, .unset, .unset, .unset, .unset, .unset] [(.long r4)])) _
      refine XS.iload X5.here hx rfl (hb hby at_94) rfl ?_
      show Steps p.tables e below (T5.setTop (mkF m 96 #[.val (.int p0), .val (.long q1), .second, .val (.long q2), .second, .val (.long q3), .second, .val (.long q4), .second, .val (.long r4), .second, .val (.int t1), .val (.int t2), .val (.int t3), .val (.int t4), .val (.int t5), .unset, .unset, .unset, .unset, .unset, .unset, .unset, .unset, .unset, .unset, .unset, .unset, .unset, .unset, .unset] [(.int t5), (.long r4)])) _
      refine XS.i2l X5.here hx rfl (hb hby at_96) rfl ?_
      show Steps p.tables e below (T5.setTop (mkF m 97 #[.val (.int p0), .val (.long q1), .second, .val (.long q2), .second, .val (.long q3), .second, .val (.long q4), .second, .val (.long r4), .second, .val (.int t1), .val (.int t2), .val (.int t3), .val (.int t4), .val (.int t5), .unset, .unset, .unset, .unset, .unset, .unset, .unset, .unset, .unset, .unset, .unset, .unset, .unset, .unset, .unset] [(.long (t5.toInt64)), (.long r4)])) _
      refine XS.lsub X5.here hx rfl (hb hby at_97) rfl ?_
      show Steps p.tables e below (T5.setTop (mkF m 98 #[.val (.int p0), .val (.long q1), .second, .val (.long q2), .second, .val (.long q3), .second, .val (.long q4), .second, .val (.long r4), .second, .val (.int t1), .val (.int t2), .val (.int t3), .val (.int t4), .val (.int t5), .unset, .unset, .unset, .unset, .unset, .unset, .unset, .unset, .unset, .unset, .unset, .unset, .unset, .unset, .unset] [(.long (r4 - (t5.toInt64)))])) _
      rw [← h_r5]
      show Steps p.tables e below (T5.setTop (mkF m 98 #[.val (.int p0), .val (.long q1), .second, .val (.long q2), .second, .val (.long q3), .second, .val (.long q4), .second, .val (.long r4), .second, .val (.int t1), .val (.int t2), .val (.int t3), .val (.int t4), .val (.int t5), .unset, .unset, .unset, .unset, .unset, .unset, .unset, .unset, .unset, .unset, .unset, .unset, .unset, .unset, .unset] [(.long r5)])) _
      refine XS.lstore X5.here hx rfl (hb hby at_98) rfl (l' := #[.val (.int p0), .val (.long q1), .second, .val (.long q2), .second, .val (.long q3), .second, .val (.long q4), .second, .val (.long r5), .second, .val (.int t1), .val (.int t2), .val (.int t3), .val (.int t4), .val (.int t5), .unset, .unset, .unset, .unset, .unset, .unset, .unset, .unset, .unset, .unset, .unset, .unset, .unset, .unset, .unset]) rfl ?_
      show Steps p.tables e below (T5.setTop (mkF m 100 #[.val (.int p0), .val (.long q1), .second, .val (.long q2), .second, .val (.long q3), .second, .val (.long q4), .second, .val (.long r5), .second, .val (.int t1), .val (.int t2), .val (.int t3), .val (.int t4), .val (.int t5), .unset, .unset, .unset, .unset, .unset, .unset, .unset, .unset, .unset, .unset, .unset, .unset, .unset, .unset, .unset] [])) _
      refine XS.lload X5.here hx rfl (hb hby at_100) rfl ?_
      show Steps p.tables e below (T5.setTop (mkF m 102 #[.val (.int p0), .val (.long q1), .second, .val (.long q2), .second, .val (.long q3), .second, .val (.long q4), .second, .val (.long r5), .second, .val (.int t1), .val (.int t2), .val (.int t3), .val (.int t4), .val (.int t5), .unset, .unset, .unset, .unset, .unset, .unset, .unset, .unset, .unset, .unset, .unset, .unset, .unset, .unset, .unset] [(.long q3)])) _
      refine XS.bipush X5.here hx rfl (hb hby at_102) ?_
      show Steps p.tables e below (T5.setTop (mkF m 104 #[.val (.int p0), .val (.long q1), .second, .val (.long q2), .second, .val (.long q3), .second, .val (.long q4), .second, .val (.long r5), .second, .val (.int t1), .val (.int t2), .val (.int t3), .val (.int t4), .val (.int t5), .unset, .unset, .unset, .unset, .unset, .unset, .unset, .unset, .unset, .unset, .unset, .unset, .unset, .unset, .unset] [(.int (32 : Int32)), (.long q3)])) _
      refine XS.lushr X5.here hx rfl (hb hby at_104) rfl ?_
      show Steps p.tables e below (T5.setTop (mkF m 105 #[.val (.int p0), .val (.long q1), .second, .val (.long q2), .second, .val (.long q3), .second, .val (.long q4), .second, .val (.long r5), .second, .val (.int t1), .val (.int t2), .val (.int t3), .val (.int t4), .val (.int t5), .unset, .unset, .unset, .unset, .unset, .unset, .unset, .unset, .unset, .unset, .unset, .unset, .unset, .unset, .unset] [(.long ((q3.toUInt64 >>> ((32 : Int32) &&& 0x3f).toInt64.toUInt64).toInt64))])) _
      refine XS.l2i X5.here hx rfl (hb hby at_105) rfl ?_
      show Steps p.tables e below (T5.setTop (mkF m 106 #[.val (.int p0), .val (.long q1), .second, .val (.long q2), .second, .val (.long q3), .second, .val (.long q4), .second, .val (.long r5), .second, .val (.int t1), .val (.int t2), .val (.int t3), .val (.int t4), .val (.int t5), .unset, .unset, .unset, .unset, .unset, .unset, .unset, .unset, .unset, .unset, .unset, .unset, .unset, .unset, .unset] [(.int (((q3.toUInt64 >>> ((32 : Int32) &&& 0x3f).toInt64.toUInt64).toInt64).toInt32))])) _
      refine XS.lload X5.here hx rfl (hb hby at_106) rfl ?_
      show Steps p.tables e below (T5.setTop (mkF m 108 #[.val (.int p0), .val (.long q1), .second, .val (.long q2), .second, .val (.long q3), .second, .val (.long q4), .second, .val (.long r5), .second, .val (.int t1), .val (.int t2), .val (.int t3), .val (.int t4), .val (.int t5), .unset, .unset, .unset, .unset, .unset, .unset, .unset, .unset, .unset, .unset, .unset, .unset, .unset, .unset, .unset] [(.long r5), (.int (((q3.toUInt64 >>> ((32 : Int32) &&& 0x3f).toInt64.toUInt64).toInt64).toInt32))])) _
      refine st6 _ ?_
      show Steps p.tables e below (T6.setTop (mkF m 111 #[.val (.int p0), .val (.long q1), .second, .val (.long q2), .second, .val (.long q3), .second, .val (.long q4), .second, .val (.long r5), .second, .val (.int t1), .val (.int t2), .val (.int t3), .val (.int t4), .val (.int t5), .unset, .unset, .unset, .unset, .unset, .unset, .unset, .unset, .unset, .unset, .unset, .unset, .unset, .unset, .unset] [(.int (((((((q3.toUInt64 >>> ((32 : Int32) &&& 0x3f).toInt64.toUInt64).toInt64).toInt32).toInt64) &&& (2147483647 : Int64)) % (r5 + (1 : Int64))).toInt32))])) _
      rw [← h_t6]
      show Steps p.tables e below (T6.setTop (mkF m 111 #[.val (.int p0), .val (.long q1), .second, .val (.long q2), .second, .val (.long q3), .second, .val (.long q4), .second, .val (.long r5), .second, .val (.int t1), .val (.int t2), .val (.int t3), .val (.int t4), .val (.int t5), .unset, .unset, .unset, .unset, .unset, .unset, .unset, .unset, .unset, .unset, .unset, .unset, .unset, .unset, .unset] [(.int t6)])) _
      refine XS.istore X6.here hx rfl (hb hby at_111) rfl (l' := #[.val (.int p0), .val (.long q1), .second, .val (.long q2), .second, .val (.long q3), .second, .val (.long q4), .second, .val (.long r5), .second, .val (.int t1), .val (.int t2), .val (.int t3), .val (.int t4), .val (.int t5), .val (.int t6), .unset, .unset, .unset, .unset, .unset, .unset, .unset, .unset, .unset, .unset, .unset, .unset, .unset, .unset]) rfl ?_
      show Steps p.tables e below (T6.setTop (mkF m 113 #[.val (.int p0), .val (.long q1), .second, .val (.long q2), .second, .val (.long q3), .second, .val (.long q4), .second, .val (.long r5), .second, .val (.int t1), .val (.int t2), .val (.int t3), .val (.int t4), .val (.int t5), .val (.int t6), .unset, .unset, .unset, .unset, .unset, .unset, .unset, .unset, .unset, .unset, .unset, .unset, .unset, .unset] [])) _
      refine XS.lload X6.here hx rfl (hb hby at_113) rfl ?_
      show Steps p.tables e below (T6.setTop (mkF m 115 #[.val (.int p0), .val (.long q1), .second, .val (.long q2), .second, .val (.long q3), .second, .val (.long q4), .second, .val (.long r5), .second, .val (.int t1), .val (.int t2), .val (.int t3), .val (.int t4), .val (.int t5), .val (.int t6), .unset, .unset, .unset, .unset, .unset, .unset, .unset, .unset, .unset, .unset, .unset, .unset, .unset, .unset] [(.long r5)])) _
      refine XS.iload X6.here hx rfl (hb hby at_115) rfl ?_
      show Steps p.tables e below (T6.setTop (mkF m 117 #[.val (.int p0), .val (.long q1), .second, .val (.long q2), .second, .val (.long q3), .second, .val (.long q4), .second, .val (.long r5), .second, .val (.int t1), .val (.int t2), .val (.int t3), .val (.int t4), .val (.int t5), .val (.int t6), .unset, .unset, .unset, .unset, .unset, .unset, .unset, .unset, .unset, .unset, .unset, .unset, .unset, .unset] [(.int t6), (.long r5)])) _
      refine XS.i2l X6.here hx rfl (hb hby at_117) rfl ?_
      show Steps p.tables e below (T6.setTop (mkF m 118 #[.val (.int p0), .val (.long q1), .second, .val (.long q2), .second, .val (.long q3), .second, .val (.long q4), .second, .val (.long r5), .second, .val (.int t1), .val (.int t2), .val (.int t3), .val (.int t4), .val (.int t5), .val (.int t6), .unset, .unset, .unset, .unset, .unset, .unset, .unset, .unset, .unset, .unset, .unset, .unset, .unset, .unset] [(.long (t6.toInt64)), (.long r5)])) _
      refine XS.lsub X6.here hx rfl (hb hby at_118) rfl ?_
      show Steps p.tables e below (T6.setTop (mkF m 119 #[.val (.int p0), .val (.long q1), .second, .val (.long q2), .second, .val (.long q3), .second, .val (.long q4), .second, .val (.long r5), .second, .val (.int t1), .val (.int t2), .val (.int t3), .val (.int t4), .val (.int t5), .val (.int t6), .unset, .unset, .unset, .unset, .unset, .unset, .unset, .unset, .unset, .unset, .unset, .unset, .unset, .unset] [(.long (r5 - (t6.toInt64)))])) _
      rw [← h_r6]
      show Steps p.tables e below (T6.setTop (mkF m 119 #[.val (.int p0), .val (.long q1), .second, .val (.long q2), .second, .val (.long q3), .second, .val (.long q4), .second, .val (.long r5), .second, .val (.int t1), .val (.int t2), .val (.int t3), .val (.int t4), .val (.int t5), .val (.int t6), .unset, .unset, .unset, .unset, .unset, .unset, .unset, .unset, .unset, .unset, .unset, .unset, .unset, .unset] [(.long r6)])) _
      refine XS.lstore X6.here hx rfl (hb hby at_119) rfl (l' := #[.val (.int p0), .val (.long q1), .second, .val (.long q2), .second, .val (.long q3), .second, .val (.long q4), .second, .val (.long r6), .second, .val (.int t1), .val (.int t2), .val (.int t3), .val (.int t4), .val (.int t5), .val (.int t6), .unset, .unset, .unset, .unset, .unset, .unset, .unset, .unset, .unset, .unset, .unset, .unset, .unset, .unset]) rfl ?_
      show Steps p.tables e below (T6.setTop (mkF m 121 #[.val (.int p0), .val (.long q1), .second, .val (.long q2), .second, .val (.long q3), .second, .val (.long q4), .second, .val (.long r6), .second, .val (.int t1), .val (.int t2), .val (.int t3), .val (.int t4), .val (.int t5), .val (.int t6), .unset, .unset, .unset, .unset, .unset, .unset, .unset, .unset, .unset, .unset, .unset, .unset, .unset, .unset] [])) _
      refine XS.lload X6.here hx rfl (hb hby at_121) rfl ?_
      show Steps p.tables e below (T6.setTop (mkF m 123 #[.val (.int p0), .val (.long q1), .second, .val (.long q2), .second, .val (.long q3), .second, .val (.long q4), .second, .val (.long r6), .second, .val (.int t1), .val (.int t2), .val (.int t3), .val (.int t4), .val (.int t5), .val (.int t6), .unset, .unset, .unset, .unset, .unset, .unset, .unset, .unset, .unset, .unset, .unset, .unset, .unset, .unset] [(.long q4)])) _
      refine XS.l2i X6.here hx rfl (hb hby at_123) rfl ?_
      show Steps p.tables e below (T6.setTop (mkF m 124 #[.val (.int p0), .val (.long q1), .second, .val (.long q2), .second, .val (.long q3), .second, .val (.long q4), .second, .val (.long r6), .second, .val (.int t1), .val (.int t2), .val (.int t3), .val (.int t4), .val (.int t5), .val (.int t6), .unset, .unset, .unset, .unset, .unset, .unset, .unset, .unset, .unset, .unset, .unset, .unset, .unset, .unset] [(.int (q4.toInt32))])) _
      refine XS.lload X6.here hx rfl (hb hby at_124) rfl ?_
      show Steps p.tables e below (T6.setTop (mkF m 126 #[.val (.int p0), .val (.long q1), .second, .val (.long q2), .second, .val (.long q3), .second, .val (.long q4), .second, .val (.long r6), .second, .val (.int t1), .val (.int t2), .val (.int t3), .val (.int t4), .val (.int t5), .val (.int t6), .unset, .unset, .unset, .unset, .unset, .unset, .unset, .unset, .unset, .unset, .unset, .unset, .unset, .unset] [(.long r6), (.int (q4.toInt32))])) _
      refine st7 _ ?_
      show Steps p.tables e below (T7.setTop (mkF m 129 #[.val (.int p0), .val (.long q1), .second, .val (.long q2), .second, .val (.long q3), .second, .val (.long q4), .second, .val (.long r6), .second, .val (.int t1), .val (.int t2), .val (.int t3), .val (.int t4), .val (.int t5), .val (.int t6), .unset, .unset, .unset, .unset, .unset, .unset, .unset, .unset, .unset, .unset, .unset, .unset, .unset, .unset] [(.int (((((q4.toInt32).toInt64) &&& (2147483647 : Int64)) % (r6 + (1 : Int64))).toInt32))])) _
      rw [← h_t7]
      show Steps p.tables e below (T7.setTop (mkF m 129 #[.val (.int p0), .val (.long q1), .second, .val (.long q2), .second, .val (.long q3), .second, .val (.long q4), .second, .val (.long r6), .second, .val (.int t1), .val (.int t2), .val (.int t3), .val (.int t4), .val (.int t5), .val (.int t6), .unset, .unset, .unset, .unset, .unset, .unset, .unset, .unset, .unset, .unset, .unset, .unset, .unset, .unset] [(.int t7)])) _
      refine XS.istore X7.here hx rfl (hb hby at_129) rfl (l' := #[.val (.int p0), .val (.long q1), .second, .val (.long q2), .second, .val (.long q3), .second, .val (.long q4), .second, .val (.long r6), .second, .val (.int t1), .val (.int t2), .val (.int t3), .val (.int t4), .val (.int t5), .val (.int t6), .val (.int t7), .unset, .unset, .unset, .unset, .unset, .unset, .unset, .unset, .unset, .unset, .unset, .unset, .unset]) rfl ?_
      show Steps p.tables e below (T7.setTop (mkF m 131 #[.val (.int p0), .val (.long q1), .second, .val (.long q2), .second, .val (.long q3), .second, .val (.long q4), .second, .val (.long r6), .second, .val (.int t1), .val (.int t2), .val (.int t3), .val (.int t4), .val (.int t5), .val (.int t6), .val (.int t7), .unset, .unset, .unset, .unset, .unset, .unset, .unset, .unset, .unset, .unset, .unset, .unset, .unset] [])) _
      refine XS.lload X7.here hx rfl (hb hby at_131) rfl ?_
      show Steps p.tables e below (T7.setTop (mkF m 133 #[.val (.int p0), .val (.long q1), .second, .val (.long q2), .second, .val (.long q3), .second, .val (.long q4), .second, .val (.long r6), .second, .val (.int t1), .val (.int t2), .val (.int t3), .val (.int t4), .val (.int t5), .val (.int t6), .val (.int t7), .unset, .unset, .unset, .unset, .unset, .unset, .unset, .unset, .unset, .unset, .unset, .unset, .unset] [(.long r6)])) _
      refine XS.iload X7.here hx rfl (hb hby at_133) rfl ?_
      show Steps p.tables e below (T7.setTop (mkF m 135 #[.val (.int p0), .val (.long q1), .second, .val (.long q2), .second, .val (.long q3), .second, .val (.long q4), .second, .val (.long r6), .second, .val (.int t1), .val (.int t2), .val (.int t3), .val (.int t4), .val (.int t5), .val (.int t6), .val (.int t7), .unset, .unset, .unset, .unset, .unset, .unset, .unset, .unset, .unset, .unset, .unset, .unset, .unset] [(.int t7), (.long r6)])) _
      refine XS.i2l X7.here hx rfl (hb hby at_135) rfl ?_
      show Steps p.tables e below (T7.setTop (mkF m 136 #[.val (.int p0), .val (.long q1), .second, .val (.long q2), .second, .val (.long q3), .second, .val (.long q4), .second, .val (.long r6), .second, .val (.int t1), .val (.int t2), .val (.int t3), .val (.int t4), .val (.int t5), .val (.int t6), .val (.int t7), .unset, .unset, .unset, .unset, .unset, .unset, .unset, .unset, .unset, .unset, .unset, .unset, .unset] [(.long (t7.toInt64)), (.long r6)])) _
      refine XS.lsub X7.here hx rfl (hb hby at_136) rfl ?_
      show Steps p.tables e below (T7.setTop (mkF m 137 #[.val (.int p0), .val (.long q1), .second, .val (.long q2), .second, .val (.long q3), .second, .val (.long q4), .second, .val (.long r6), .second, .val (.int t1), .val (.int t2), .val (.int t3), .val (.int t4), .val (.int t5), .val (.int t6), .val (.int t7), .unset, .unset, .unset, .unset, .unset, .unset, .unset, .unset, .unset, .unset, .unset, .unset, .unset] [(.long (r6 - (t7.toInt64)))])) _
      rw [← h_r7]
      show Steps p.tables e below (T7.setTop (mkF m 137 #[.val (.int p0), .val (.long q1), .second, .val (.long q2), .second, .val (.long q3), .second, .val (.long q4), .second, .val (.long r6), .second, .val (.int t1), .val (.int t2), .val (.int t3), .val (.int t4), .val (.int t5), .val (.int t6), .val (.int t7), .unset, .unset, .unset, .unset, .unset, .unset, .unset, .unset, .unset, .unset, .unset, .unset, .unset] [(.long r7)])) _
      refine XS.lstore X7.here hx rfl (hb hby at_137) rfl (l' := #[.val (.int p0), .val (.long q1), .second, .val (.long q2), .second, .val (.long q3), .second, .val (.long q4), .second, .val (.long r7), .second, .val (.int t1), .val (.int t2), .val (.int t3), .val (.int t4), .val (.int t5), .val (.int t6), .val (.int t7), .unset, .unset, .unset, .unset, .unset, .unset, .unset, .unset, .unset, .unset, .unset, .unset, .unset]) rfl ?_
      show Steps p.tables e below (T7.setTop (mkF m 139 #[.val (.int p0), .val (.long q1), .second, .val (.long q2), .second, .val (.long q3), .second, .val (.long q4), .second, .val (.long r7), .second, .val (.int t1), .val (.int t2), .val (.int t3), .val (.int t4), .val (.int t5), .val (.int t6), .val (.int t7), .unset, .unset, .unset, .unset, .unset, .unset, .unset, .unset, .unset, .unset, .unset, .unset, .unset] [])) _
      refine XS.lload X7.here hx rfl (hb hby at_139) rfl ?_
      show Steps p.tables e below (T7.setTop (mkF m 141 #[.val (.int p0), .val (.long q1), .second, .val (.long q2), .second, .val (.long q3), .second, .val (.long q4), .second, .val (.long r7), .second, .val (.int t1), .val (.int t2), .val (.int t3), .val (.int t4), .val (.int t5), .val (.int t6), .val (.int t7), .unset, .unset, .unset, .unset, .unset, .unset, .unset, .unset, .unset, .unset, .unset, .unset, .unset] [(.long q4)])) _
      refine XS.bipush X7.here hx rfl (hb hby at_141) ?_
      show Steps p.tables e below (T7.setTop (mkF m 143 #[.val (.int p0), .val (.long q1), .second, .val (.long q2), .second, .val (.long q3), .second, .val (.long q4), .second, .val (.long r7), .second, .val (.int t1), .val (.int t2), .val (.int t3), .val (.int t4), .val (.int t5), .val (.int t6), .val (.int t7), .unset, .unset, .unset, .unset, .unset, .unset, .unset, .unset, .unset, .unset, .unset, .unset, .unset] [(.int (32 : Int32)), (.long q4)])) _
      refine XS.lushr X7.here hx rfl (hb hby at_143) rfl ?_
      show Steps p.tables e below (T7.setTop (mkF m 144 #[.val (.int p0), .val (.long q1), .second, .val (.long q2), .second, .val (.long q3), .second, .val (.long q4), .second, .val (.long r7), .second, .val (.int t1), .val (.int t2), .val (.int t3), .val (.int t4), .val (.int t5), .val (.int t6), .val (.int t7), .unset, .unset, .unset, .unset, .unset, .unset, .unset, .unset, .unset, .unset, .unset, .unset, .unset] [(.long ((q4.toUInt64 >>> ((32 : Int32) &&& 0x3f).toInt64.toUInt64).toInt64))])) _
      refine XS.l2i X7.here hx rfl (hb hby at_144) rfl ?_
      show Steps p.tables e below (T7.setTop (mkF m 145 #[.val (.int p0), .val (.long q1), .second, .val (.long q2), .second, .val (.long q3), .second, .val (.long q4), .second, .val (.long r7), .second, .val (.int t1), .val (.int t2), .val (.int t3), .val (.int t4), .val (.int t5), .val (.int t6), .val (.int t7), .unset, .unset, .unset, .unset, .unset, .unset, .unset, .unset, .unset, .unset, .unset, .unset, .unset] [(.int (((q4.toUInt64 >>> ((32 : Int32) &&& 0x3f).toInt64.toUInt64).toInt64).toInt32))])) _
      refine XS.lload X7.here hx rfl (hb hby at_145) rfl ?_
      show Steps p.tables e below (T7.setTop (mkF m 147 #[.val (.int p0), .val (.long q1), .second, .val (.long q2), .second, .val (.long q3), .second, .val (.long q4), .second, .val (.long r7), .second, .val (.int t1), .val (.int t2), .val (.int t3), .val (.int t4), .val (.int t5), .val (.int t6), .val (.int t7), .unset, .unset, .unset, .unset, .unset, .unset, .unset, .unset, .unset, .unset, .unset, .unset, .unset] [(.long r7), (.int (((q4.toUInt64 >>> ((32 : Int32) &&& 0x3f).toInt64.toUInt64).toInt64).toInt32))])) _
      refine st8 _ ?_
      show Steps p.tables e below (T8.setTop (mkF m 150 #[.val (.int p0), .val (.long q1), .second, .val (.long q2), .second, .val (.long q3), .second, .val (.long q4), .second, .val (.long r7), .second, .val (.int t1), .val (.int t2), .val (.int t3), .val (.int t4), .val (.int t5), .val (.int t6), .val (.int t7), .unset, .unset, .unset, .unset, .unset, .unset, .unset, .unset, .unset, .unset, .unset, .unset, .unset] [(.int (((((((q4.toUInt64 >>> ((32 : Int32) &&& 0x3f).toInt64.toUInt64).toInt64).toInt32).toInt64) &&& (2147483647 : Int64)) % (r7 + (1 : Int64))).toInt32))])) _
      rw [← h_t8]
      show Steps p.tables e below (T8.setTop (mkF m 150 #[.val (.int p0), .val (.long q1), .second, .val (.long q2), .second, .val (.long q3), .second, .val (.long q4), .second, .val (.long r7), .second, .val (.int t1), .val (.int t2), .val (.int t3), .val (.int t4), .val (.int t5), .val (.int t6), .val (.int t7), .unset, .unset, .unset, .unset, .unset, .unset, .unset, .unset, .unset, .unset, .unset, .unset, .unset] [(.int t8)])) _
      refine XS.istore X8.here hx rfl (hb hby at_150) rfl (l' := #[.val (.int p0), .val (.long q1), .second, .val (.long q2), .second, .val (.long q3), .second, .val (.long q4), .second, .val (.long r7), .second, .val (.int t1), .val (.int t2), .val (.int t3), .val (.int t4), .val (.int t5), .val (.int t6), .val (.int t7), .val (.int t8), .unset, .unset, .unset, .unset, .unset, .unset, .unset, .unset, .unset, .unset, .unset, .unset]) rfl ?_
      show Steps p.tables e below (T8.setTop (mkF m 152 #[.val (.int p0), .val (.long q1), .second, .val (.long q2), .second, .val (.long q3), .second, .val (.long q4), .second, .val (.long r7), .second, .val (.int t1), .val (.int t2), .val (.int t3), .val (.int t4), .val (.int t5), .val (.int t6), .val (.int t7), .val (.int t8), .unset, .unset, .unset, .unset, .unset, .unset, .unset, .unset, .unset, .unset, .unset, .unset] [])) _
      refine XS.lload X8.here hx rfl (hb hby at_152) rfl ?_
      show Steps p.tables e below (T8.setTop (mkF m 154 #[.val (.int p0), .val (.long q1), .second, .val (.long q2), .second, .val (.long q3), .second, .val (.long q4), .second, .val (.long r7), .second, .val (.int t1), .val (.int t2), .val (.int t3), .val (.int t4), .val (.int t5), .val (.int t6), .val (.int t7), .val (.int t8), .unset, .unset, .unset, .unset, .unset, .unset, .unset, .unset, .unset, .unset, .unset, .unset] [(.long q4)])) _
      refine XS.bipush X8.here hx rfl (hb hby at_154) ?_
      show Steps p.tables e below (T8.setTop (mkF m 156 #[.val (.int p0), .val (.long q1), .second, .val (.long q2), .second, .val (.long q3), .second, .val (.long q4), .second, .val (.long r7), .second, .val (.int t1), .val (.int t2), .val (.int t3), .val (.int t4), .val (.int t5), .val (.int t6), .val (.int t7), .val (.int t8), .unset, .unset, .unset, .unset, .unset, .unset, .unset, .unset, .unset, .unset, .unset, .unset] [(.int (63 : Int32)), (.long q4)])) _
      refine XS.lushr X8.here hx rfl (hb hby at_156) rfl ?_
      show Steps p.tables e below (T8.setTop (mkF m 157 #[.val (.int p0), .val (.long q1), .second, .val (.long q2), .second, .val (.long q3), .second, .val (.long q4), .second, .val (.long r7), .second, .val (.int t1), .val (.int t2), .val (.int t3), .val (.int t4), .val (.int t5), .val (.int t6), .val (.int t7), .val (.int t8), .unset, .unset, .unset, .unset, .unset, .unset, .unset, .unset, .unset, .unset, .unset, .unset] [(.long ((q4.toUInt64 >>> ((63 : Int32) &&& 0x3f).toInt64.toUInt64).toInt64))])) _
      refine XS.lconst X8.here hx rfl (hb hby at_157) ?_
      show Steps p.tables e below (T8.setTop (mkF m 158 #[.val (.int p0), .val (.long q1), .second, .val (.long q2), .second, .val (.long q3), .second, .val (.long q4), .second, .val (.long r7), .second, .val (.int t1), .val (.int t2), .val (.int t3), .val (.int t4), .val (.int t5), .val (.int t6), .val (.int t7), .val (.int t8), .unset, .unset, .unset, .unset, .unset, .unset, .unset, .unset, .unset, .unset, .unset, .unset] [(.long (1 : Int64)), (.long ((q4.toUInt64 >>> ((63 : Int32) &&& 0x3f).toInt64.toUInt64).toInt64))])) _
      refine XS.land X8.here hx rfl (hb hby at_158) rfl ?_
      show Steps p.tables e below (T8.setTop (mkF m 159 #[.val (.int p0), .val (.long q1), .second, .val (.long q2), .second, .val (.long q3), .second, .val (.long q4), .second, .val (.long r7), .second, .val (.int t1), .val (.int t2), .val (.int t3), .val (.int t4), .val (.int t5), .val (.int t6), .val (.int t7), .val (.int t8), .unset, .unset, .unset, .unset, .unset, .unset, .unset, .unset, .unset, .unset, .unset, .unset] [(.long (((q4.toUInt64 >>> ((63 : Int32) &&& 0x3f).toInt64.toUInt64).toInt64) &&& (1 : Int64)))])) _
      refine XS.lconst X8.here hx rfl (hb hby at_159) ?_
      show Steps p.tables e below (T8.setTop (mkF m 160 #[.val (.int p0), .val (.long q1), .second, .val (.long q2), .second, .val (.long q3), .second, .val (.long q4), .second, .val (.long r7), .second, .val (.int t1), .val (.int t2), .val (.int t3), .val (.int t4), .val (.int t5), .val (.int t6), .val (.int t7), .val (.int t8), .unset, .unset, .unset, .unset, .unset, .unset, .unset, .unset, .unset, .unset, .unset, .unset] [(.long (0 : Int64)), (.long (((q4.toUInt64 >>> ((63 : Int32) &&& 0x3f).toInt64.toUInt64).toInt64) &&& (1 : Int64)))])) _
      refine XS.lcmp X8.here hx rfl (hb hby at_160) rfl ?_
      show Steps p.tables e below (T8.setTop (mkF m 161 #[.val (.int p0), .val (.long q1), .second, .val (.long q2), .second, .val (.long q3), .second, .val (.long q4), .second, .val (.long r7), .second, .val (.int t1), .val (.int t2), .val (.int t3), .val (.int t4), .val (.int t5), .val (.int t6), .val (.int t7), .val (.int t8), .unset, .unset, .unset, .unset, .unset, .unset, .unset, .unset, .unset, .unset, .unset, .unset] [(.int (lcmpW (((q4.toUInt64 >>> ((63 : Int32) &&& 0x3f).toInt64.toUInt64).toInt64) &&& (1 : Int64)) (0 : Int64)))])) _
      refine XS.ifYes X8.here hx rfl (pc0 := 161) (pc' := 168) rfl (hb hby at_161) rfl ((if0 _ _).trans (teq ((lw_eq _ _).mpr hc161)).1) (by decide) (by decide) ?_
      show Steps p.tables e below (T8.setTop (mkF m 168 #[.val (.int p0), .val (.long q1), .second, .val (.long q2), .second, .val (.long q3), .second, .val (.long q4), .second, .val (.long r7), .second, .val (.int t1), .val (.int t2), .val (.int t3), .val (.int t4), .val (.int t5), .val (.int t6), .val (.int t7), .val (.int t8), .unset, .unset, .unset, .unset, .unset, .unset, .unset, .unset, .unset, .unset, .unset, .unset] [])) _
      refine XS.iconst X8.here hx rfl (hb hby at_168) ?_
      show Steps p.tables e below (T8.setTop (mkF m 169 #[.val (.int p0), .val (.long q1), .second, .val (.long q2), .second, .val (.long q3), .second, .val (.long q4), .second, .val (.long r7), .second, .val (.int t1), .val (.int t2), .val (.int t3), .val (.int t4), .val (.int t5), .val (.int t6), .val (.int t7), .val (.int t8), .unset, .unset, .unset, .unset, .unset, .unset, .unset, .unset, .unset, .unset, .unset, .unset] [(.int (0 : Int32))])) _
      refine XS.istore X8.here hx rfl (hb hby at_169) rfl (l' := #[.val (.int p0), .val (.long q1), .second, .val (.long q2), .second, .val (.long q3), .second, .val (.long q4), .second, .val (.long r7), .second, .val (.int t1), .val (.int t2), .val (.int t3), .val (.int t4), .val (.int t5), .val (.int t6), .val (.int t7), .val (.int t8), .val (.int (0 : Int32)), .unset, .unset, .unset, .unset, .unset, .unset, .unset, .unset, .unset, .unset, .unset]) rfl ?_
      show Steps p.tables e below (T8.setTop (mkF m 171 #[.val (.int p0), .val (.long q1), .second, .val (.long q2), .second, .val (.long q3), .second, .val (.long q4), .second, .val (.long r7), .second, .val (.int t1), .val (.int t2), .val (.int t3), .val (.int t4), .val (.int t5), .val (.int t6), .val (.int t7), .val (.int t8), .val (.int (0 : Int32)), .unset, .unset, .unset, .unset, .unset, .unset, .unset, .unset, .unset, .unset, .unset] [])) _
      refine st9 _ ?_
      show Steps p.tables e below (T9.setTop (mkF m 174 #[.val (.int p0), .val (.long q1), .second, .val (.long q2), .second, .val (.long q3), .second, .val (.long q4), .second, .val (.long r7), .second, .val (.int t1), .val (.int t2), .val (.int t3), .val (.int t4), .val (.int t5), .val (.int t6), .val (.int t7), .val (.int t8), .val (.int (0 : Int32)), .unset, .unset, .unset, .unset, .unset, .unset, .unset, .unset, .unset, .unset, .unset] [(.ref tx)])) _
      refine XS.dup X9.here hx rfl (hb hby at_174) rfl rfl ?_
      show Steps p.tables e below (T9.setTop (mkF m 175 #[.val (.int p0), .val (.long q1), .second, .val (.long q2), .second, .val (.long q3), .second, .val (.long q4), .second, .val (.long r7), .second, .val (.int t1), .val (.int t2), .val (.int t3), .val (.int t4), .val (.int t5), .val (.int t6), .val (.int t7), .val (.int t8), .val (.int (0 : Int32)), .unset, .unset, .unset, .unset, .unset, .unset, .unset, .unset, .unset, .unset, .unset] [(.ref tx), (.ref tx)])) _
      refine XS.iload X9.here hx rfl (hb hby at_175) rfl ?_
      show Steps p.tables e below (T9.setTop (mkF m 177 #[.val (.int p0), .val (.long q1), .second, .val (.long q2), .second, .val (.long q3), .second, .val (.long q4), .second, .val (.long r7), .second, .val (.int t1), .val (.int t2), .val (.int t3), .val (.int t4), .val (.int t5), .val (.int t6), .val (.int t7), .val (.int t8), .val (.int (0 : Int32)), .unset, .unset, .unset, .unset, .unset, .unset, .unset, .unset, .unset, .unset, .unset] [(.int t1), (.ref tx), (.ref tx)])) _
      refine XS.iload X9.here hx rfl (hb hby at_177) rfl ?_
      show Steps p.tables e below (T9.setTop (mkF m 179 #[.val (.int p0), .val (.long q1), .second, .val (.long q2), .second, .val (.long q3), .second, .val (.long q4), .second, .val (.long r7), .second, .val (.int t1), .val (.int t2), .val (.int t3), .val (.int t4), .val (.int t5), .val (.int t6), .val (.int t7), .val (.int t8), .val (.int (0 : Int32)), .unset, .unset, .unset, .unset, .unset, .unset, .unset, .unset, .unset, .unset, .unset] [(.int t2), (.int t1), (.ref tx), (.ref tx)])) _
      refine XS.iload X9.here hx rfl (hb hby at_179) rfl ?_
      show Steps p.tables e below (T9.setTop (mkF m 181 #[.val (.int p0), .val (.long q1), .second, .val (.long q2), .second, .val (.long q3), .second, .val (.long q4), .second, .val (.long r7), .second, .val (.int t1), .val (.int t2), .val (.int t3), .val (.int t4), .val (.int t5), .val (.int t6), .val (.int t7), .val (.int t8), .val (.int (0 : Int32)), .unset, .unset, .unset, .unset, .unset, .unset, .unset, .unset, .unset, .unset, .unset] [(.int t3), (.int t2), (.int t1), (.ref tx), (.ref tx)])) _
      refine XS.iload X9.here hx rfl (hb hby at_181) rfl ?_
      show Steps p.tables e below (T9.setTop (mkF m 183 #[.val (.int p0), .val (.long q1), .second, .val (.long q2), .second, .val (.long q3), .second, .val (.long q4), .second, .val (.long r7), .second, .val (.int t1), .val (.int t2), .val (.int t3), .val (.int t4), .val (.int t5), .val (.int t6), .val (.int t7), .val (.int t8), .val (.int (0 : Int32)), .unset, .unset, .unset, .unset, .unset, .unset, .unset, .unset, .unset, .unset, .unset] [(.int t4), (.int t3), (.int t2), (.int t1), (.ref tx), (.ref tx)])) _
      refine st10.trans ?_
      show Steps p.tables e below (T10.setTop (mkF m 186 #[.val (.int p0), .val (.long q1), .second, .val (.long q2), .second, .val (.long q3), .second, .val (.long q4), .second, .val (.long r7), .second, .val (.int t1), .val (.int t2), .val (.int t3), .val (.int t4), .val (.int t5), .val (.int t6), .val (.int t7), .val (.int t8), .val (.int (0 : Int32)), .unset, .unset, .unset, .unset, .unset, .unset, .unset, .unset, .unset, .unset, .unset] [(.ref tx)])) _
      refine XS.astore X10.here hx rfl (hb hby at_186) rfl rfl (l' := #[.val (.int p0), .val (.long q1), .second, .val (.long q2), .second, .val (.long q3), .second, .val (.long q4), .second, .val (.long r7), .second, .val (.int t1), .val (.int t2), .val (.int t3), .val (.int t4), .val (.int t5), .val (.int t6), .val (.int t7), .val (.int t8), .val (.int (0 : Int32)), .val (.ref tx), .unset, .unset, .unset, .unset, .unset, .unset, .unset, .unset, .unset, .unset]) rfl ?_
      show Steps p.tables e below (T10.setTop (mkF m 188 #[.val (.int p0), .val (.long q1), .second, .val (.long q2), .second, .val (.long q3), .second, .val (.long q4), .second, .val (.long r7), .second, .val (.int t1), .val (.int t2), .val (.int t3), .val (.int t4), .val (.int t5), .val (.int t6), .val (.int t7), .val (.int t8), .val (.int (0 : Int32)), .val (.ref tx), .unset, .unset, .unset, .unset, .unset, .unset, .unset, .unset, .unset, .unset] [])) _
      refine st11 _ ?_
      show Steps p.tables e below (T11.setTop (mkF m 191 #[.val (.int p0), .val (.long q1), .second, .val (.long q2), .second, .val (.long q3), .second, .val (.long q4), .second, .val (.long r7), .second, .val (.int t1), .val (.int t2), .val (.int t3), .val (.int t4), .val (.int t5), .val (.int t6), .val (.int t7), .val (.int t8), .val (.int (0 : Int32)), .val (.ref tx), .unset, .unset, .unset, .unset, .unset, .unset, .unset, .unset, .unset, .unset] [(.ref tz)])) _
      refine XS.dup X11.here hx rfl (hb hby at_191) rfl rfl ?_
      show Steps p.tables e below (T11.setTop (mkF m 192 #[.val (.int p0), .val (.long q1), .second, .val (.long q2), .second, .val (.long q3), .second, .val (.long q4), .second, .val (.long r7), .second, .val (.int t1), .val (.int t2), .val (.int t3), .val (.int t4), .val (.int t5), .val (.int t6), .val (.int t7), .val (.int t8), .val (.int (0 : Int32)), .val (.ref tx), .unset, .unset, .unset, .unset, .unset, .unset, .unset, .unset, .unset, .unset] [(.ref tz), (.ref tz)])) _
      refine XS.iload X11.here hx rfl (hb hby at_192) rfl ?_
      show Steps p.tables e below (T11.setTop (mkF m 194 #[.val (.int p0), .val (.long q1), .second, .val (.long q2), .second, .val (.long q3), .second, .val (.long q4), .second, .val (.long r7), .second, .val (.int t1), .val (.int t2), .val (.int t3), .val (.int t4), .val (.int t5), .val (.int t6), .val (.int t7), .val (.int t8), .val (.int (0 : Int32)), .val (.ref tx), .unset, .unset, .unset, .unset, .unset, .unset, .unset, .unset, .unset, .unset] [(.int t5), (.ref tz), (.ref tz)])) _
      refine XS.iload X11.here hx rfl (hb hby at_194) rfl ?_
      show Steps p.tables e below (T11.setTop (mkF m 196 #[.val (.int p0), .val (.long q1), .second, .val (.long q2), .second, .val (.long q3), .second, .val (.long q4), .second, .val (.long r7), .second, .val (.int t1), .val (.int t2), .val (.int t3), .val (.int t4), .val (.int t5), .val (.int t6), .val (.int t7), .val (.int t8), .val (.int (0 : Int32)), .val (.ref tx), .unset, .unset, .unset, .unset, .unset, .unset, .unset, .unset, .unset, .unset] [(.int t6), (.int t5), (.ref tz), (.ref tz)])) _
      refine XS.iload X11.here hx rfl (hb hby at_196) rfl ?_
      show Steps p.tables e below (T11.setTop (mkF m 198 #[.val (.int p0), .val (.long q1), .second, .val (.long q2), .second, .val (.long q3), .second, .val (.long q4), .second, .val (.long r7), .second, .val (.int t1), .val (.int t2), .val (.int t3), .val (.int t4), .val (.int t5), .val (.int t6), .val (.int t7), .val (.int t8), .val (.int (0 : Int32)), .val (.ref tx), .unset, .unset, .unset, .unset, .unset, .unset, .unset, .unset, .unset, .unset] [(.int t7), (.int t6), (.int t5), (.ref tz), (.ref tz)])) _
      refine XS.iload X11.here hx rfl (hb hby at_198) rfl ?_
      show Steps p.tables e below (T11.setTop (mkF m 200 #[.val (.int p0), .val (.long q1), .second, .val (.long q2), .second, .val (.long q3), .second, .val (.long q4), .second, .val (.long r7), .second, .val (.int t1), .val (.int t2), .val (.int t3), .val (.int t4), .val (.int t5), .val (.int t6), .val (.int t7), .val (.int t8), .val (.int (0 : Int32)), .val (.ref tx), .unset, .unset, .unset, .unset, .unset, .unset, .unset, .unset, .unset, .unset] [(.int t8), (.int t7), (.int t6), (.int t5), (.ref tz), (.ref tz)])) _
      refine st12.trans ?_
      show Steps p.tables e below (T12.setTop (mkF m 203 #[.val (.int p0), .val (.long q1), .second, .val (.long q2), .second, .val (.long q3), .second, .val (.long q4), .second, .val (.long r7), .second, .val (.int t1), .val (.int t2), .val (.int t3), .val (.int t4), .val (.int t5), .val (.int t6), .val (.int t7), .val (.int t8), .val (.int (0 : Int32)), .val (.ref tx), .unset, .unset, .unset, .unset, .unset, .unset, .unset, .unset, .unset, .unset] [(.ref tz)])) _
      refine XS.astore X12.here hx rfl (hb hby at_203) rfl rfl (l' := #[.val (.int p0), .val (.long q1), .second, .val (.long q2), .second, .val (.long q3), .second, .val (.long q4), .second, .val (.long r7), .second, .val (.int t1), .val (.int t2), .val (.int t3), .val (.int t4), .val (.int t5), .val (.int t6), .val (.int t7), .val (.int t8), .val (.int (0 : Int32)), .val (.ref tx), .val (.ref tz), .unset, .unset, .unset, .unset, .unset, .unset, .unset, .unset, .unset]) rfl ?_
      show Steps p.tables e below (T12.setTop (mkF m 205 #[.val (.int p0), .val (.long q1), .second, .val (.long q2), .second, .val (.long q3), .second, .val (.long q4), .second, .val (.long r7), .second, .val (.int t1), .val (.int t2), .val (.int t3), .val (.int t4), .val (.int t5), .val (.int t6), .val (.int t7), .val (.int t8), .val (.int (0 : Int32)), .val (.ref tx), .val (.ref tz), .unset, .unset, .unset, .unset, .unset, .unset, .unset, .unset, .unset] [])) _
      refine XS.iload X12.here hx rfl (hb hby at_205) rfl ?_
      show Steps p.tables e below (T12.setTop (mkF m 207 #[.val (.int p0), .val (.long q1), .second, .val (.long q2), .second, .val (.long q3), .second, .val (.long q4), .second, .val (.long r7), .second, .val (.int t1), .val (.int t2), .val (.int t3), .val (.int t4), .val (.int t5), .val (.int t6), .val (.int t7), .val (.int t8), .val (.int (0 : Int32)), .val (.ref tx), .val (.ref tz), .unset, .unset, .unset, .unset, .unset, .unset, .unset, .unset, .unset] [(.int (0 : Int32))])) _
      refine XS.ifYes X12.here hx rfl (pc0 := 207) (pc' := 222) rfl (hb hby at_207) rfl ((if0 _ _).trans (teq (rfl : (0 : Int32) = (0 : Int32))).1) (by decide) (by decide) ?_
      show Steps p.tables e below (T12.setTop (mkF m 222 #[.val (.int p0), .val (.long q1), .second, .val (.long q2), .second, .val (.long q3), .second, .val (.long q4), .second, .val (.long r7), .second, .val (.int t1), .val (.int t2), .val (.int t3), .val (.int t4), .val (.int t5), .val (.int t6), .val (.int t7), .val (.int t8), .val (.int (0 : Int32)), .val (.ref tx), .val (.ref tz), .unset, .unset, .unset, .unset, .unset, .unset, .unset, .unset, .unset] [])) _
      refine XS.aload X12.here hx rfl (hb hby at_222) rfl rfl ?_
      show Steps p.tables e below (T12.setTop (mkF m 224 #[.val (.int p0), .val (.long q1), .second, .val (.long q2), .second, .val (.long q3), .second, .val (.long q4), .second, .val (.long r7), .second, .val (.int t1), .val (.int t2), .val (.int t3), .val (.int t4), .val (.int t5), .val (.int t6), .val (.int t7), .val (.int t8), .val (.int (0 : Int32)), .val (.ref tx), .val (.ref tz), .unset, .unset, .unset, .unset, .unset, .unset, .unset, .unset, .unset] [(.ref tx)])) _
      refine XS.aload X12.here hx rfl (hb hby at_224) rfl rfl ?_
      show Steps p.tables e below (T12.setTop (mkF m 226 #[.val (.int p0), .val (.long q1), .second, .val (.long q2), .second, .val (.long q3), .second, .val (.long q4), .second, .val (.long r7), .second, .val (.int t1), .val (.int t2), .val (.int t3), .val (.int t4), .val (.int t5), .val (.int t6), .val (.int t7), .val (.int t8), .val (.int (0 : Int32)), .val (.ref tx), .val (.ref tz), .unset, .unset, .unset, .unset, .unset, .unset, .unset, .unset, .unset] [(.ref tz), (.ref tx)])) _
      refine st13.trans ?_
      show Steps p.tables e below (T13.setTop (mkF m 229 #[.val (.int p0), .val (.long q1), .second, .val (.long q2), .second, .val (.long q3), .second, .val (.long q4), .second, .val (.long r7), .second, .val (.int t1), .val (.int t2), .val (.int t3), .val (.int t4), .val (.int t5), .val (.int t6), .val (.int t7), .val (.int t8), .val (.int (0 : Int32)), .val (.ref tx), .val (.ref tz), .unset, .unset, .unset, .unset, .unset, .unset, .unset, .unset, .unset] [(.ref b13)])) _
      refine XS.astore X13.here hx rfl (hb hby at_229) rfl rfl (l' := #[.val (.int p0), .val (.long q1), .second, .val (.long q2), .second, .val (.long q3), .second, .val (.long q4), .second, .val (.long r7), .second, .val (.int t1), .val (.int t2), .val (.int t3), .val (.int t4), .val (.int t5), .val (.int t6), .val (.int t7), .val (.int t8), .val (.int (0 : Int32)), .val (.ref tx), .val (.ref tz), .val (.ref b13), .unset, .unset, .unset, .unset, .unset, .unset, .unset, .unset]) rfl ?_
      show Steps p.tables e below (T13.setTop (mkF m 231 #[.val (.int p0), .val (.long q1), .second, .val (.long q2), .second, .val (.long q3), .second, .val (.long q4), .second, .val (.long r7), .second, .val (.int t1), .val (.int t2), .val (.int t3), .val (.int t4), .val (.int t5), .val (.int t6), .val (.int t7), .val (.int t8), .val (.int (0 : Int32)), .val (.ref tx), .val (.ref tz), .val (.ref b13), .unset, .unset, .unset, .unset, .unset, .unset, .unset, .unset] [])) _
      refine XS.iload X13.here hx rfl (hb hby at_231) rfl ?_
      show Steps p.tables e below (T13.setTop (mkF m 233 #[.val (.int p0), .val (.long q1), .second, .val (.long q2), .second, .val (.long q3), .second, .val (.long q4), .second, .val (.long r7), .second, .val (.int t1), .val (.int t2), .val (.int t3), .val (.int t4), .val (.int t5), .val (.int t6), .val (.int t7), .val (.int t8), .val (.int (0 : Int32)), .val (.ref tx), .val (.ref tz), .val (.ref b13), .unset, .unset, .unset, .unset, .unset, .unset, .unset, .unset] [(.int t1)])) _
      refine XS.i2l X13.here hx rfl (hb hby at_233) rfl ?_
      show Steps p.tables e below (T13.setTop (mkF m 234 #[.val (.int p0), .val (.long q1), .second, .val (.long q2), .second, .val (.long q3), .second, .val (.long q4), .second, .val (.long r7), .second, .val (.int t1), .val (.int t2), .val (.int t3), .val (.int t4), .val (.int t5), .val (.int t6), .val (.int t7), .val (.int t8), .val (.int (0 : Int32)), .val (.ref tx), .val (.ref tz), .val (.ref b13), .unset, .unset, .unset, .unset, .unset, .unset, .unset, .unset] [(.long (t1.toInt64))])) _
      refine XS.iload X13.here hx rfl (hb hby at_234) rfl ?_
      show Steps p.tables e below (T13.setTop (mkF m 236 #[.val (.int p0), .val (.long q1), .second, .val (.long q2), .second, .val (.long q3), .second, .val (.long q4), .second, .val (.long r7), .second, .val (.int t1), .val (.int t2), .val (.int t3), .val (.int t4), .val (.int t5), .val (.int t6), .val (.int t7), .val (.int t8), .val (.int (0 : Int32)), .val (.ref tx), .val (.ref tz), .val (.ref b13), .unset, .unset, .unset, .unset, .unset, .unset, .unset, .unset] [(.int t5), (.long (t1.toInt64))])) _
      refine XS.i2l X13.here hx rfl (hb hby at_236) rfl ?_
      show Steps p.tables e below (T13.setTop (mkF m 237 #[.val (.int p0), .val (.long q1), .second, .val (.long q2), .second, .val (.long q3), .second, .val (.long q4), .second, .val (.long r7), .second, .val (.int t1), .val (.int t2), .val (.int t3), .val (.int t4), .val (.int t5), .val (.int t6), .val (.int t7), .val (.int t8), .val (.int (0 : Int32)), .val (.ref tx), .val (.ref tz), .val (.ref b13), .unset, .unset, .unset, .unset, .unset, .unset, .unset, .unset] [(.long (t5.toInt64)), (.long (t1.toInt64))])) _
      refine XS.ladd X13.here hx rfl (hb hby at_237) rfl ?_
      show Steps p.tables e below (T13.setTop (mkF m 238 #[.val (.int p0), .val (.long q1), .second, .val (.long q2), .second, .val (.long q3), .second, .val (.long q4), .second, .val (.long r7), .second, .val (.int t1), .val (.int t2), .val (.int t3), .val (.int t4), .val (.int t5), .val (.int t6), .val (.int t7), .val (.int t8), .val (.int (0 : Int32)), .val (.ref tx), .val (.ref tz), .val (.ref b13), .unset, .unset, .unset, .unset, .unset, .unset, .unset, .unset] [(.long ((t1.toInt64) + (t5.toInt64)))])) _
      refine XS.lstore X13.here hx rfl (hb hby at_238) rfl (l' := #[.val (.int p0), .val (.long q1), .second, .val (.long q2), .second, .val (.long q3), .second, .val (.long q4), .second, .val (.long r7), .second, .val (.int t1), .val (.int t2), .val (.int t3), .val (.int t4), .val (.int t5), .val (.int t6), .val (.int t7), .val (.int t8), .val (.int (0 : Int32)), .val (.ref tx), .val (.ref tz), .val (.ref b13), .val (.long ((t1.toInt64) + (t5.toInt64))), .second, .unset, .unset, .unset, .unset, .unset, .unset]) rfl ?_
      show Steps p.tables e below (T13.setTop (mkF m 240 #[.val (.int p0), .val (.long q1), .second, .val (.long q2), .second, .val (.long q3), .second, .val (.long q4), .second, .val (.long r7), .second, .val (.int t1), .val (.int t2), .val (.int t3), .val (.int t4), .val (.int t5), .val (.int t6), .val (.int t7), .val (.int t8), .val (.int (0 : Int32)), .val (.ref tx), .val (.ref tz), .val (.ref b13), .val (.long ((t1.toInt64) + (t5.toInt64))), .second, .unset, .unset, .unset, .unset, .unset, .unset] [])) _
      refine XS.iload X13.here hx rfl (hb hby at_240) rfl ?_
      show Steps p.tables e below (T13.setTop (mkF m 242 #[.val (.int p0), .val (.long q1), .second, .val (.long q2), .second, .val (.long q3), .second, .val (.long q4), .second, .val (.long r7), .second, .val (.int t1), .val (.int t2), .val (.int t3), .val (.int t4), .val (.int t5), .val (.int t6), .val (.int t7), .val (.int t8), .val (.int (0 : Int32)), .val (.ref tx), .val (.ref tz), .val (.ref b13), .val (.long ((t1.toInt64) + (t5.toInt64))), .second, .unset, .unset, .unset, .unset, .unset, .unset] [(.int t2)])) _
      refine XS.i2l X13.here hx rfl (hb hby at_242) rfl ?_
      show Steps p.tables e below (T13.setTop (mkF m 243 #[.val (.int p0), .val (.long q1), .second, .val (.long q2), .second, .val (.long q3), .second, .val (.long q4), .second, .val (.long r7), .second, .val (.int t1), .val (.int t2), .val (.int t3), .val (.int t4), .val (.int t5), .val (.int t6), .val (.int t7), .val (.int t8), .val (.int (0 : Int32)), .val (.ref tx), .val (.ref tz), .val (.ref b13), .val (.long ((t1.toInt64) + (t5.toInt64))), .second, .unset, .unset, .unset, .unset, .unset, .unset] [(.long (t2.toInt64))])) _
      refine XS.iload X13.here hx rfl (hb hby at_243) rfl ?_
      show Steps p.tables e below (T13.setTop (mkF m 245 #[.val (.int p0), .val (.long q1), .second, .val (.long q2), .second, .val (.long q3), .second, .val (.long q4), .second, .val (.long r7), .second, .val (.int t1), .val (.int t2), .val (.int t3), .val (.int t4), .val (.int t5), .val (.int t6), .val (.int t7), .val (.int t8), .val (.int (0 : Int32)), .val (.ref tx), .val (.ref tz), .val (.ref b13), .val (.long ((t1.toInt64) + (t5.toInt64))), .second, .unset, .unset, .unset, .unset, .unset, .unset] [(.int t6), (.long (t2.toInt64))])) _
      refine XS.i2l X13.here hx rfl (hb hby at_245) rfl ?_
      show Steps p.tables e below (T13.setTop (mkF m 246 #[.val (.int p0), .val (.long q1), .second, .val (.long q2), .second, .val (.long q3), .second, .val (.long q4), .second, .val (.long r7), .second, .val (.int t1), .val (.int t2), .val (.int t3), .val (.int t4), .val (.int t5), .val (.int t6), .val (.int t7), .val (.int t8), .val (.int (0 : Int32)), .val (.ref tx), .val (.ref tz), .val (.ref b13), .val (.long ((t1.toInt64) + (t5.toInt64))), .second, .unset, .unset, .unset, .unset, .unset, .unset] [(.long (t6.toInt64)), (.long (t2.toInt64))])) _
      refine XS.ladd X13.here hx rfl (hb hby at_246) rfl ?_
      show Steps p.tables e below (T13.setTop (mkF m 247 #[.val (.int p0), .val (.long q1), .second, .val (.long q2), .second, .val (.long q3), .second, .val (.long q4), .second, .val (.long r7), .second, .val (.int t1), .val (.int t2), .val (.int t3), .val (.int t4), .val (.int t5), .val (.int t6), .val (.int t7), .val (.int t8), .val (.int (0 : Int32)), .val (.ref tx), .val (.ref tz), .val (.ref b13), .val (.long ((t1.toInt64) + (t5.toInt64))), .second, .unset, .unset, .unset, .unset, .unset, .unset] [(.long ((t2.toInt64) + (t6.toInt64)))])) _
      refine XS.lstore X13.here hx rfl (hb hby at_247) rfl (l' := #[.val (.int p0), .val (.long q1), .second, .val (.long q2), .second, .val (.long q3), .second, .val (.long q4), .second, .val (.long r7), .second, .val (.int t1), .val (.int t2), .val (.int t3), .val (.int t4), .val (.int t5), .val (.int t6), .val (.int t7), .val (.int t8), .val (.int (0 : Int32)), .val (.ref tx), .val (.ref tz), .val (.ref b13), .val (.long ((t1.toInt64) + (t5.toInt64))), .second, .val (.long ((t2.toInt64) + (t6.toInt64))), .second, .unset, .unset, .unset, .unset]) rfl ?_
      show Steps p.tables e below (T13.setTop (mkF m 249 #[.val (.int p0), .val (.long q1), .second, .val (.long q2), .second, .val (.long q3), .second, .val (.long q4), .second, .val (.long r7), .second, .val (.int t1), .val (.int t2), .val (.int t3), .val (.int t4), .val (.int t5), .val (.int t6), .val (.int t7), .val (.int t8), .val (.int (0 : Int32)), .val (.ref tx), .val (.ref tz), .val (.ref b13), .val (.long ((t1.toInt64) + (t5.toInt64))), .second, .val (.long ((t2.toInt64) + (t6.toInt64))), .second, .unset, .unset, .unset, .unset] [])) _
      refine XS.iload X13.here hx rfl (hb hby at_249) rfl ?_
      show Steps p.tables e below (T13.setTop (mkF m 251 #[.val (.int p0), .val (.long q1), .second, .val (.long q2), .second, .val (.long q3), .second, .val (.long q4), .second, .val (.long r7), .second, .val (.int t1), .val (.int t2), .val (.int t3), .val (.int t4), .val (.int t5), .val (.int t6), .val (.int t7), .val (.int t8), .val (.int (0 : Int32)), .val (.ref tx), .val (.ref tz), .val (.ref b13), .val (.long ((t1.toInt64) + (t5.toInt64))), .second, .val (.long ((t2.toInt64) + (t6.toInt64))), .second, .unset, .unset, .unset, .unset] [(.int t3)])) _
      refine XS.i2l X13.here hx rfl (hb hby at_251) rfl ?_
      show Steps p.tables e below (T13.setTop (mkF m 252 #[.val (.int p0), .val (.long q1), .second, .val (.long q2), .second, .val (.long q3), .second, .val (.long q4), .second, .val (.long r7), .second, .val (.int t1), .val (.int t2), .val (.int t3), .val (.int t4), .val (.int t5), .val (.int t6), .val (.int t7), .val (.int t8), .val (.int (0 : Int32)), .val (.ref tx), .val (.ref tz), .val (.ref b13), .val (.long ((t1.toInt64) + (t5.toInt64))), .second, .val (.long ((t2.toInt64) + (t6.toInt64))), .second, .unset, .unset, .unset, .unset] [(.long (t3.toInt64))])) _
      refine XS.iload X13.here hx rfl (hb hby at_252) rfl ?_
      show Steps p.tables e below (T13.setTop (mkF m 254 #[.val (.int p0), .val (.long q1), .second, .val (.long q2), .second, .val (.long q3), .second, .val (.long q4), .second, .val (.long r7), .second, .val (.int t1), .val (.int t2), .val (.int t3), .val (.int t4), .val (.int t5), .val (.int t6), .val (.int t7), .val (.int t8), .val (.int (0 : Int32)), .val (.ref tx), .val (.ref tz), .val (.ref b13), .val (.long ((t1.toInt64) + (t5.toInt64))), .second, .val (.long ((t2.toInt64) + (t6.toInt64))), .second, .unset, .unset, .unset, .unset] [(.int t7), (.long (t3.toInt64))])) _
      refine XS.i2l X13.here hx rfl (hb hby at_254) rfl ?_
      show Steps p.tables e below (T13.setTop (mkF m 255 #[.val (.int p0), .val (.long q1), .second, .val (.long q2), .second, .val (.long q3), .second, .val (.long q4), .second, .val (.long r7), .second, .val (.int t1), .val (.int t2), .val (.int t3), .val (.int t4), .val (.int t5), .val (.int t6), .val (.int t7), .val (.int t8), .val (.int (0 : Int32)), .val (.ref tx), .val (.ref tz), .val (.ref b13), .val (.long ((t1.toInt64) + (t5.toInt64))), .second, .val (.long ((t2.toInt64) + (t6.toInt64))), .second, .unset, .unset, .unset, .unset] [(.long (t7.toInt64)), (.long (t3.toInt64))])) _
      refine XS.ladd X13.here hx rfl (hb hby at_255) rfl ?_
      show Steps p.tables e below (T13.setTop (mkF m 256 #[.val (.int p0), .val (.long q1), .second, .val (.long q2), .second, .val (.long q3), .second, .val (.long q4), .second, .val (.long r7), .second, .val (.int t1), .val (.int t2), .val (.int t3), .val (.int t4), .val (.int t5), .val (.int t6), .val (.int t7), .val (.int t8), .val (.int (0 : Int32)), .val (.ref tx), .val (.ref tz), .val (.ref b13), .val (.long ((t1.toInt64) + (t5.toInt64))), .second, .val (.long ((t2.toInt64) + (t6.toInt64))), .second, .unset, .unset, .unset, .unset] [(.long ((t3.toInt64) + (t7.toInt64)))])) _
      refine XS.lstore X13.here hx rfl (hb hby at_256) rfl (l' := #[.val (.int p0), .val (.long q1), .second, .val (.long q2), .second, .val (.long q3), .second, .val (.long q4), .second, .val (.long r7), .second, .val (.int t1), .val (.int t2), .val (.int t3), .val (.int t4), .val (.int t5), .val (.int t6), .val (.int t7), .val (.int t8), .val (.int (0 : Int32)), .val (.ref tx), .val (.ref tz), .val (.ref b13), .val (.long ((t1.toInt64) + (t5.toInt64))), .second, .val (.long ((t2.toInt64) + (t6.toInt64))), .second, .val (.long ((t3.toInt64) + (t7.toInt64))), .second, .unset, .unset]) rfl ?_
      show Steps p.tables e below (T13.setTop (mkF m 258 #[.val (.int p0), .val (.long q1), .second, .val (.long q2), .second, .val (.long q3), .second, .val (.long q4), .second, .val (.long r7), .second, .val (.int t1), .val (.int t2), .val (.int t3), .val (.int t4), .val (.int t5), .val (.int t6), .val (.int t7), .val (.int t8), .val (.int (0 : Int32)), .val (.ref tx), .val (.ref tz), .val (.ref b13), .val (.long ((t1.toInt64) + (t5.toInt64))), .second, .val (.long ((t2.toInt64) + (t6.toInt64))), .second, .val (.long ((t3.toInt64) + (t7.toInt64))), .second, .unset, .unset] [])) _
      refine XS.iload X13.here hx rfl (hb hby at_258) rfl ?_
      show Steps p.tables e below (T13.setTop (mkF m 260 #[.val (.int p0), .val (.long q1), .second, .val (.long q2), .second, .val (.long q3), .second, .val (.long q4), .second, .val (.long r7), .second, .val (.int t1), .val (.int t2), .val (.int t3), .val (.int t4), .val (.int t5), .val (.int t6), .val (.int t7), .val (.int t8), .val (.int (0 : Int32)), .val (.ref tx), .val (.ref tz), .val (.ref b13), .val (.long ((t1.toInt64) + (t5.toInt64))), .second, .val (.long ((t2.toInt64) + (t6.toInt64))), .second, .val (.long ((t3.toInt64) + (t7.toInt64))), .second, .unset, .unset] [(.int t4)])) _
      refine XS.i2l X13.here hx rfl (hb hby at_260) rfl ?_
      show Steps p.tables e below (T13.setTop (mkF m 261 #[.val (.int p0), .val (.long q1), .second, .val (.long q2), .second, .val (.long q3), .second, .val (.long q4), .second, .val (.long r7), .second, .val (.int t1), .val (.int t2), .val (.int t3), .val (.int t4), .val (.int t5), .val (.int t6), .val (.int t7), .val (.int t8), .val (.int (0 : Int32)), .val (.ref tx), .val (.ref tz), .val (.ref b13), .val (.long ((t1.toInt64) + (t5.toInt64))), .second, .val (.long ((t2.toInt64) + (t6.toInt64))), .second, .val (.long ((t3.toInt64) + (t7.toInt64))), .second, .unset, .unset] [(.long (t4.toInt64))])) _
      refine XS.iload X13.here hx rfl (hb hby at_261) rfl ?_
      show Steps p.tables e below (T13.setTop (mkF m 263 #[.val (.int p0), .val (.long q1), .second, .val (.long q2), .second, .val (.long q3), .second, .val (.long q4), .second, .val (.long r7), .second, .val (.int t1), .val (.int t2), .val (.int t3), .val (.int t4), .val (.int t5), .val (.int t6), .val (.int t7), .val (.int t8), .val (.int (0 : Int32)), .val (.ref tx), .val (.ref tz), .val (.ref b13), .val (.long ((t1.toInt64) + (t5.toInt64))), .second, .val (.long ((t2.toInt64) + (t6.toInt64))), .second, .val (.long ((t3.toInt64) + (t7.toInt64))), .second, .unset, .unset] [(.int t8), (.long (t4.toInt64))])) _
      refine XS.i2l X13.here hx rfl (hb hby at_263) rfl ?_
      show Steps p.tables e below (T13.setTop (mkF m 264 #[.val (.int p0), .val (.long q1), .second, .val (.long q2), .second, .val (.long q3), .second, .val (.long q4), .second, .val (.long r7), .second, .val (.int t1), .val (.int t2), .val (.int t3), .val (.int t4), .val (.int t5), .val (.int t6), .val (.int t7), .val (.int t8), .val (.int (0 : Int32)), .val (.ref tx), .val (.ref tz), .val (.ref b13), .val (.long ((t1.toInt64) + (t5.toInt64))), .second, .val (.long ((t2.toInt64) + (t6.toInt64))), .second, .val (.long ((t3.toInt64) + (t7.toInt64))), .second, .unset, .unset] [(.long (t8.toInt64)), (.long (t4.toInt64))])) _
      refine XS.ladd X13.here hx rfl (hb hby at_264) rfl ?_
      show Steps p.tables e below (T13.setTop (mkF m 265 #[.val (.int p0), .val (.long q1), .second, .val (.long q2), .second, .val (.long q3), .second, .val (.long q4), .second, .val (.long r7), .second, .val (.int t1), .val (.int t2), .val (.int t3), .val (.int t4), .val (.int t5), .val (.int t6), .val (.int t7), .val (.int t8), .val (.int (0 : Int32)), .val (.ref tx), .val (.ref tz), .val (.ref b13), .val (.long ((t1.toInt64) + (t5.toInt64))), .second, .val (.long ((t2.toInt64) + (t6.toInt64))), .second, .val (.long ((t3.toInt64) + (t7.toInt64))), .second, .unset, .unset] [(.long ((t4.toInt64) + (t8.toInt64)))])) _
      refine XS.lstore X13.here hx rfl (hb hby at_265) rfl (l' := #[.val (.int p0), .val (.long q1), .second, .val (.long q2), .second, .val (.long q3), .second, .val (.long q4), .second, .val (.long r7), .second, .val (.int t1), .val (.int t2), .val (.int t3), .val (.int t4), .val (.int t5), .val (.int t6), .val (.int t7), .val (.int t8), .val (.int (0 : Int32)), .val (.ref tx), .val (.ref tz), .val (.ref b13), .val (.long ((t1.toInt64) + (t5.toInt64))), .second, .val (.long ((t2.toInt64) + (t6.toInt64))), .second, .val (.long ((t3.toInt64) + (t7.toInt64))), .second, .val (.long ((t4.toInt64) + (t8.toInt64))), .second]) rfl ?_
      show Steps p.tables e below (T13.setTop (mkF m 267 #[.val (.int p0), .val (.long q1), .second, .val (.long q2), .second, .val (.long q3), .second, .val (.long q4), .second, .val (.long r7), .second, .val (.int t1), .val (.int t2), .val (.int t3), .val (.int t4), .val (.int t5), .val (.int t6), .val (.int t7), .val (.int t8), .val (.int (0 : Int32)), .val (.ref tx), .val (.ref tz), .val (.ref b13), .val (.long ((t1.toInt64) + (t5.toInt64))), .second, .val (.long ((t2.toInt64) + (t6.toInt64))), .second, .val (.long ((t3.toInt64) + (t7.toInt64))), .second, .val (.long ((t4.toInt64) + (t8.toInt64))), .second] [])) _
      refine XS.aload X13.here hx rfl (hb hby at_267) rfl rfl ?_
      show Steps p.tables e below (T13.setTop (mkF m 269 #[.val (.int p0), .val (.long q1), .second, .val (.long q2), .second, .val (.long q3), .second, .val (.long q4), .second, .val (.long r7), .second, .val (.int t1), .val (.int t2), .val (.int t3), .val (.int t4), .val (.int t5), .val (.int t6), .val (.int t7), .val (.int t8), .val (.int (0 : Int32)), .val (.ref tx), .val (.ref tz), .val (.ref b13), .val (.long ((t1.toInt64) + (t5.toInt64))), .second, .val (.long ((t2.toInt64) + (t6.toInt64))), .second, .val (.long ((t3.toInt64) + (t7.toInt64))), .second, .val (.long ((t4.toInt64) + (t8.toInt64))), .second] [(.ref b13)])) _
      refine st14.trans ?_
      show Steps p.tables e below (T14.setTop (mkF m 272 #[.val (.int p0), .val (.long q1), .second, .val (.long q2), .second, .val (.long q3), .second, .val (.long q4), .second, .val (.long r7), .second, .val (.int t1), .val (.int t2), .val (.int t3), .val (.int t4), .val (.int t5), .val (.int t6), .val (.int t7), .val (.int t8), .val (.int (0 : Int32)), .val (.ref tx), .val (.ref tz), .val (.ref b13), .val (.long ((t1.toInt64) + (t5.toInt64))), .second, .val (.long ((t2.toInt64) + (t6.toInt64))), .second, .val (.long ((t3.toInt64) + (t7.toInt64))), .second, .val (.long ((t4.toInt64) + (t8.toInt64))), .second] [(.int (t1 + t5))])) _
      refine XS.i2l X14.here hx rfl (hb hby at_272) rfl ?_
      show Steps p.tables e below (T14.setTop (mkF m 273 #[.val (.int p0), .val (.long q1), .second, .val (.long q2), .second, .val (.long q3), .second, .val (.long q4), .second, .val (.long r7), .second, .val (.int t1), .val (.int t2), .val (.int t3), .val (.int t4), .val (.int t5), .val (.int t6), .val (.int t7), .val (.int t8), .val (.int (0 : Int32)), .val (.ref tx), .val (.ref tz), .val (.ref b13), .val (.long ((t1.toInt64) + (t5.toInt64))), .second, .val (.long ((t2.toInt64) + (t6.toInt64))), .second, .val (.long ((t3.toInt64) + (t7.toInt64))), .second, .val (.long ((t4.toInt64) + (t8.toInt64))), .second] [(.long ((t1 + t5).toInt64))])) _
      refine XS.lload X14.here hx rfl (hb hby at_273) rfl ?_
      show Steps p.tables e below (T14.setTop (mkF m 275 #[.val (.int p0), .val (.long q1), .second, .val (.long q2), .second, .val (.long q3), .second, .val (.long q4), .second, .val (.long r7), .second, .val (.int t1), .val (.int t2), .val (.int t3), .val (.int t4), .val (.int t5), .val (.int t6), .val (.int t7), .val (.int t8), .val (.int (0 : Int32)), .val (.ref tx), .val (.ref tz), .val (.ref b13), .val (.long ((t1.toInt64) + (t5.toInt64))), .second, .val (.long ((t2.toInt64) + (t6.toInt64))), .second, .val (.long ((t3.toInt64) + (t7.toInt64))), .second, .val (.long ((t4.toInt64) + (t8.toInt64))), .second] [(.long ((t1.toInt64) + (t5.toInt64))), (.long ((t1 + t5).toInt64))])) _
      refine XS.lcmp X14.here hx rfl (hb hby at_275) rfl ?_
      show Steps p.tables e below (T14.setTop (mkF m 276 #[.val (.int p0), .val (.long q1), .second, .val (.long q2), .second, .val (.long q3), .second, .val (.long q4), .second, .val (.long r7), .second, .val (.int t1), .val (.int t2), .val (.int t3), .val (.int t4), .val (.int t5), .val (.int t6), .val (.int t7), .val (.int t8), .val (.int (0 : Int32)), .val (.ref tx), .val (.ref tz), .val (.ref b13), .val (.long ((t1.toInt64) + (t5.toInt64))), .second, .val (.long ((t2.toInt64) + (t6.toInt64))), .second, .val (.long ((t3.toInt64) + (t7.toInt64))), .second, .val (.long ((t4.toInt64) + (t8.toInt64))), .second] [(.int (lcmpW ((t1 + t5).toInt64) ((t1.toInt64) + (t5.toInt64))))])) _
      refine XS.ifNo X14.here hx rfl (hb hby at_276) rfl ((if0 _ _).trans (teq ((lw_eq _ _).mpr (own_two (a := t1) (b := t5) (by omega) : ((t1 + t5).toInt64) = ((t1.toInt64) + (t5.toInt64))))).2) ?_
      show Steps p.tables e below (T14.setTop (mkF m 279 #[.val (.int p0), .val (.long q1), .second, .val (.long q2), .second, .val (.long q3), .second, .val (.long q4), .second, .val (.long r7), .second, .val (.int t1), .val (.int t2), .val (.int t3), .val (.int t4), .val (.int t5), .val (.int t6), .val (.int t7), .val (.int t8), .val (.int (0 : Int32)), .val (.ref tx), .val (.ref tz), .val (.ref b13), .val (.long ((t1.toInt64) + (t5.toInt64))), .second, .val (.long ((t2.toInt64) + (t6.toInt64))), .second, .val (.long ((t3.toInt64) + (t7.toInt64))), .second, .val (.long ((t4.toInt64) + (t8.toInt64))), .second] [])) _
      refine XS.aload X14.here hx rfl (hb hby at_279) rfl rfl ?_
      show Steps p.tables e below (T14.setTop (mkF m 281 #[.val (.int p0), .val (.long q1), .second, .val (.long q2), .second, .val (.long q3), .second, .val (.long q4), .second, .val (.long r7), .second, .val (.int t1), .val (.int t2), .val (.int t3), .val (.int t4), .val (.int t5), .val (.int t6), .val (.int t7), .val (.int t8), .val (.int (0 : Int32)), .val (.ref tx), .val (.ref tz), .val (.ref b13), .val (.long ((t1.toInt64) + (t5.toInt64))), .second, .val (.long ((t2.toInt64) + (t6.toInt64))), .second, .val (.long ((t3.toInt64) + (t7.toInt64))), .second, .val (.long ((t4.toInt64) + (t8.toInt64))), .second] [(.ref b13)])) _
      refine st15.trans ?_
      show Steps p.tables e below (T15.setTop (mkF m 284 #[.val (.int p0), .val (.long q1), .second, .val (.long q2), .second, .val (.long q3), .second, .val (.long q4), .second, .val (.long r7), .second, .val (.int t1), .val (.int t2), .val (.int t3), .val (.int t4), .val (.int t5), .val (.int t6), .val (.int t7), .val (.int t8), .val (.int (0 : Int32)), .val (.ref tx), .val (.ref tz), .val (.ref b13), .val (.long ((t1.toInt64) + (t5.toInt64))), .second, .val (.long ((t2.toInt64) + (t6.toInt64))), .second, .val (.long ((t3.toInt64) + (t7.toInt64))), .second, .val (.long ((t4.toInt64) + (t8.toInt64))), .second] [(.int (t2 + t6))])) _
      refine XS.i2l X15.here hx rfl (hb hby at_284) rfl ?_
      show Steps p.tables e below (T15.setTop (mkF m 285 #[.val (.int p0), .val (.long q1), .second, .val (.long q2), .second, .val (.long q3), .second, .val (.long q4), .second, .val (.long r7), .second, .val (.int t1), .val (.int t2), .val (.int t3), .val (.int t4), .val (.int t5), .val (.int t6), .val (.int t7), .val (.int t8), .val (.int (0 : Int32)), .val (.ref tx), .val (.ref tz), .val (.ref b13), .val (.long ((t1.toInt64) + (t5.toInt64))), .second, .val (.long ((t2.toInt64) + (t6.toInt64))), .second, .val (.long ((t3.toInt64) + (t7.toInt64))), .second, .val (.long ((t4.toInt64) + (t8.toInt64))), .second] [(.long ((t2 + t6).toInt64))])) _
      refine XS.lload X15.here hx rfl (hb hby at_285) rfl ?_
      show Steps p.tables e below (T15.setTop (mkF m 287 #[.val (.int p0), .val (.long q1), .second, .val (.long q2), .second, .val (.long q3), .second, .val (.long q4), .second, .val (.long r7), .second, .val (.int t1), .val (.int t2), .val (.int t3), .val (.int t4), .val (.int t5), .val (.int t6), .val (.int t7), .val (.int t8), .val (.int (0 : Int32)), .val (.ref tx), .val (.ref tz), .val (.ref b13), .val (.long ((t1.toInt64) + (t5.toInt64))), .second, .val (.long ((t2.toInt64) + (t6.toInt64))), .second, .val (.long ((t3.toInt64) + (t7.toInt64))), .second, .val (.long ((t4.toInt64) + (t8.toInt64))), .second] [(.long ((t2.toInt64) + (t6.toInt64))), (.long ((t2 + t6).toInt64))])) _
      refine XS.lcmp X15.here hx rfl (hb hby at_287) rfl ?_
      show Steps p.tables e below (T15.setTop (mkF m 288 #[.val (.int p0), .val (.long q1), .second, .val (.long q2), .second, .val (.long q3), .second, .val (.long q4), .second, .val (.long r7), .second, .val (.int t1), .val (.int t2), .val (.int t3), .val (.int t4), .val (.int t5), .val (.int t6), .val (.int t7), .val (.int t8), .val (.int (0 : Int32)), .val (.ref tx), .val (.ref tz), .val (.ref b13), .val (.long ((t1.toInt64) + (t5.toInt64))), .second, .val (.long ((t2.toInt64) + (t6.toInt64))), .second, .val (.long ((t3.toInt64) + (t7.toInt64))), .second, .val (.long ((t4.toInt64) + (t8.toInt64))), .second] [(.int (lcmpW ((t2 + t6).toInt64) ((t2.toInt64) + (t6.toInt64))))])) _
      refine XS.ifNo X15.here hx rfl (hb hby at_288) rfl ((if0 _ _).trans (teq ((lw_eq _ _).mpr (own_two (a := t2) (b := t6) (by omega) : ((t2 + t6).toInt64) = ((t2.toInt64) + (t6.toInt64))))).2) ?_
      show Steps p.tables e below (T15.setTop (mkF m 291 #[.val (.int p0), .val (.long q1), .second, .val (.long q2), .second, .val (.long q3), .second, .val (.long q4), .second, .val (.long r7), .second, .val (.int t1), .val (.int t2), .val (.int t3), .val (.int t4), .val (.int t5), .val (.int t6), .val (.int t7), .val (.int t8), .val (.int (0 : Int32)), .val (.ref tx), .val (.ref tz), .val (.ref b13), .val (.long ((t1.toInt64) + (t5.toInt64))), .second, .val (.long ((t2.toInt64) + (t6.toInt64))), .second, .val (.long ((t3.toInt64) + (t7.toInt64))), .second, .val (.long ((t4.toInt64) + (t8.toInt64))), .second] [])) _
      refine XS.aload X15.here hx rfl (hb hby at_291) rfl rfl ?_
      show Steps p.tables e below (T15.setTop (mkF m 293 #[.val (.int p0), .val (.long q1), .second, .val (.long q2), .second, .val (.long q3), .second, .val (.long q4), .second, .val (.long r7), .second, .val (.int t1), .val (.int t2), .val (.int t3), .val (.int t4), .val (.int t5), .val (.int t6), .val (.int t7), .val (.int t8), .val (.int (0 : Int32)), .val (.ref tx), .val (.ref tz), .val (.ref b13), .val (.long ((t1.toInt64) + (t5.toInt64))), .second, .val (.long ((t2.toInt64) + (t6.toInt64))), .second, .val (.long ((t3.toInt64) + (t7.toInt64))), .second, .val (.long ((t4.toInt64) + (t8.toInt64))), .second] [(.ref b13)])) _
      refine st16.trans ?_
      show Steps p.tables e below (T16.setTop (mkF m 296 #[.val (.int p0), .val (.long q1), .second, .val (.long q2), .second, .val (.long q3), .second, .val (.long q4), .second, .val (.long r7), .second, .val (.int t1), .val (.int t2), .val (.int t3), .val (.int t4), .val (.int t5), .val (.int t6), .val (.int t7), .val (.int t8), .val (.int (0 : Int32)), .val (.ref tx), .val (.ref tz), .val (.ref b13), .val (.long ((t1.toInt64) + (t5.toInt64))), .second, .val (.long ((t2.toInt64) + (t6.toInt64))), .second, .val (.long ((t3.toInt64) + (t7.toInt64))), .second, .val (.long ((t4.toInt64) + (t8.toInt64))), .second] [(.int (t3 + t7))])) _
      refine XS.i2l X16.here hx rfl (hb hby at_296) rfl ?_
      show Steps p.tables e below (T16.setTop (mkF m 297 #[.val (.int p0), .val (.long q1), .second, .val (.long q2), .second, .val (.long q3), .second, .val (.long q4), .second, .val (.long r7), .second, .val (.int t1), .val (.int t2), .val (.int t3), .val (.int t4), .val (.int t5), .val (.int t6), .val (.int t7), .val (.int t8), .val (.int (0 : Int32)), .val (.ref tx), .val (.ref tz), .val (.ref b13), .val (.long ((t1.toInt64) + (t5.toInt64))), .second, .val (.long ((t2.toInt64) + (t6.toInt64))), .second, .val (.long ((t3.toInt64) + (t7.toInt64))), .second, .val (.long ((t4.toInt64) + (t8.toInt64))), .second] [(.long ((t3 + t7).toInt64))])) _
      refine XS.lload X16.here hx rfl (hb hby at_297) rfl ?_
      show Steps p.tables e below (T16.setTop (mkF m 299 #[.val (.int p0), .val (.long q1), .second, .val (.long q2), .second, .val (.long q3), .second, .val (.long q4), .second, .val (.long r7), .second, .val (.int t1), .val (.int t2), .val (.int t3), .val (.int t4), .val (.int t5), .val (.int t6), .val (.int t7), .val (.int t8), .val (.int (0 : Int32)), .val (.ref tx), .val (.ref tz), .val (.ref b13), .val (.long ((t1.toInt64) + (t5.toInt64))), .second, .val (.long ((t2.toInt64) + (t6.toInt64))), .second, .val (.long ((t3.toInt64) + (t7.toInt64))), .second, .val (.long ((t4.toInt64) + (t8.toInt64))), .second] [(.long ((t3.toInt64) + (t7.toInt64))), (.long ((t3 + t7).toInt64))])) _
      refine XS.lcmp X16.here hx rfl (hb hby at_299) rfl ?_
      show Steps p.tables e below (T16.setTop (mkF m 300 #[.val (.int p0), .val (.long q1), .second, .val (.long q2), .second, .val (.long q3), .second, .val (.long q4), .second, .val (.long r7), .second, .val (.int t1), .val (.int t2), .val (.int t3), .val (.int t4), .val (.int t5), .val (.int t6), .val (.int t7), .val (.int t8), .val (.int (0 : Int32)), .val (.ref tx), .val (.ref tz), .val (.ref b13), .val (.long ((t1.toInt64) + (t5.toInt64))), .second, .val (.long ((t2.toInt64) + (t6.toInt64))), .second, .val (.long ((t3.toInt64) + (t7.toInt64))), .second, .val (.long ((t4.toInt64) + (t8.toInt64))), .second] [(.int (lcmpW ((t3 + t7).toInt64) ((t3.toInt64) + (t7.toInt64))))])) _
      refine XS.ifNo X16.here hx rfl (hb hby at_300) rfl ((if0 _ _).trans (teq ((lw_eq _ _).mpr (own_two (a := t3) (b := t7) (by omega) : ((t3 + t7).toInt64) = ((t3.toInt64) + (t7.toInt64))))).2) ?_
      show Steps p.tables e below (T16.setTop (mkF m 303 #[.val (.int p0), .val (.long q1), .second, .val (.long q2), .second, .val (.long q3), .second, .val (.long q4), .second, .val (.long r7), .second, .val (.int t1), .val (.int t2), .val (.int t3), .val (.int t4), .val (.int t5), .val (.int t6), .val (.int t7), .val (.int t8), .val (.int (0 : Int32)), .val (.ref tx), .val (.ref tz), .val (.ref b13), .val (.long ((t1.toInt64) + (t5.toInt64))), .second, .val (.long ((t2.toInt64) + (t6.toInt64))), .second, .val (.long ((t3.toInt64) + (t7.toInt64))), .second, .val (.long ((t4.toInt64) + (t8.toInt64))), .second] [])) _
      refine XS.aload X16.here hx rfl (hb hby at_303) rfl rfl ?_
      show Steps p.tables e below (T16.setTop (mkF m 305 #[.val (.int p0), .val (.long q1), .second, .val (.long q2), .second, .val (.long q3), .second, .val (.long q4), .second, .val (.long r7), .second, .val (.int t1), .val (.int t2), .val (.int t3), .val (.int t4), .val (.int t5), .val (.int t6), .val (.int t7), .val (.int t8), .val (.int (0 : Int32)), .val (.ref tx), .val (.ref tz), .val (.ref b13), .val (.long ((t1.toInt64) + (t5.toInt64))), .second, .val (.long ((t2.toInt64) + (t6.toInt64))), .second, .val (.long ((t3.toInt64) + (t7.toInt64))), .second, .val (.long ((t4.toInt64) + (t8.toInt64))), .second] [(.ref b13)])) _
      refine st17.trans ?_
      show Steps p.tables e below (T17.setTop (mkF m 308 #[.val (.int p0), .val (.long q1), .second, .val (.long q2), .second, .val (.long q3), .second, .val (.long q4), .second, .val (.long r7), .second, .val (.int t1), .val (.int t2), .val (.int t3), .val (.int t4), .val (.int t5), .val (.int t6), .val (.int t7), .val (.int t8), .val (.int (0 : Int32)), .val (.ref tx), .val (.ref tz), .val (.ref b13), .val (.long ((t1.toInt64) + (t5.toInt64))), .second, .val (.long ((t2.toInt64) + (t6.toInt64))), .second, .val (.long ((t3.toInt64) + (t7.toInt64))), .second, .val (.long ((t4.toInt64) + (t8.toInt64))), .second] [(.int (t4 + t8))])) _
      refine XS.i2l X17.here hx rfl (hb hby at_308) rfl ?_
      show Steps p.tables e below (T17.setTop (mkF m 309 #[.val (.int p0), .val (.long q1), .second, .val (.long q2), .second, .val (.long q3), .second, .val (.long q4), .second, .val (.long r7), .second, .val (.int t1), .val (.int t2), .val (.int t3), .val (.int t4), .val (.int t5), .val (.int t6), .val (.int t7), .val (.int t8), .val (.int (0 : Int32)), .val (.ref tx), .val (.ref tz), .val (.ref b13), .val (.long ((t1.toInt64) + (t5.toInt64))), .second, .val (.long ((t2.toInt64) + (t6.toInt64))), .second, .val (.long ((t3.toInt64) + (t7.toInt64))), .second, .val (.long ((t4.toInt64) + (t8.toInt64))), .second] [(.long ((t4 + t8).toInt64))])) _
      refine XS.lload X17.here hx rfl (hb hby at_309) rfl ?_
      show Steps p.tables e below (T17.setTop (mkF m 311 #[.val (.int p0), .val (.long q1), .second, .val (.long q2), .second, .val (.long q3), .second, .val (.long q4), .second, .val (.long r7), .second, .val (.int t1), .val (.int t2), .val (.int t3), .val (.int t4), .val (.int t5), .val (.int t6), .val (.int t7), .val (.int t8), .val (.int (0 : Int32)), .val (.ref tx), .val (.ref tz), .val (.ref b13), .val (.long ((t1.toInt64) + (t5.toInt64))), .second, .val (.long ((t2.toInt64) + (t6.toInt64))), .second, .val (.long ((t3.toInt64) + (t7.toInt64))), .second, .val (.long ((t4.toInt64) + (t8.toInt64))), .second] [(.long ((t4.toInt64) + (t8.toInt64))), (.long ((t4 + t8).toInt64))])) _
      refine XS.lcmp X17.here hx rfl (hb hby at_311) rfl ?_
      show Steps p.tables e below (T17.setTop (mkF m 312 #[.val (.int p0), .val (.long q1), .second, .val (.long q2), .second, .val (.long q3), .second, .val (.long q4), .second, .val (.long r7), .second, .val (.int t1), .val (.int t2), .val (.int t3), .val (.int t4), .val (.int t5), .val (.int t6), .val (.int t7), .val (.int t8), .val (.int (0 : Int32)), .val (.ref tx), .val (.ref tz), .val (.ref b13), .val (.long ((t1.toInt64) + (t5.toInt64))), .second, .val (.long ((t2.toInt64) + (t6.toInt64))), .second, .val (.long ((t3.toInt64) + (t7.toInt64))), .second, .val (.long ((t4.toInt64) + (t8.toInt64))), .second] [(.int (lcmpW ((t4 + t8).toInt64) ((t4.toInt64) + (t8.toInt64))))])) _
      refine XS.ifNo X17.here hx rfl (hb hby at_312) rfl ((if0 _ _).trans (teq ((lw_eq _ _).mpr (own_two (a := t4) (b := t8) (by omega) : ((t4 + t8).toInt64) = ((t4.toInt64) + (t8.toInt64))))).2) ?_
      show Steps p.tables e below (T17.setTop (mkF m 315 #[.val (.int p0), .val (.long q1), .second, .val (.long q2), .second, .val (.long q3), .second, .val (.long q4), .second, .val (.long r7), .second, .val (.int t1), .val (.int t2), .val (.int t3), .val (.int t4), .val (.int t5), .val (.int t6), .val (.int t7), .val (.int t8), .val (.int (0 : Int32)), .val (.ref tx), .val (.ref tz), .val (.ref b13), .val (.long ((t1.toInt64) + (t5.toInt64))), .second, .val (.long ((t2.toInt64) + (t6.toInt64))), .second, .val (.long ((t3.toInt64) + (t7.toInt64))), .second, .val (.long ((t4.toInt64) + (t8.toInt64))), .second] [])) _
      refine XS.iconst X17.here hx rfl (hb hby at_315) ?_
      show Steps p.tables e below (T17.setTop (mkF m 316 #[.val (.int p0), .val (.long q1), .second, .val (.long q2), .second, .val (.long q3), .second, .val (.long q4), .second, .val (.long r7), .second, .val (.int t1), .val (.int t2), .val (.int t3), .val (.int t4), .val (.int t5), .val (.int t6), .val (.int t7), .val (.int t8), .val (.int (0 : Int32)), .val (.ref tx), .val (.ref tz), .val (.ref b13), .val (.long ((t1.toInt64) + (t5.toInt64))), .second, .val (.long ((t2.toInt64) + (t6.toInt64))), .second, .val (.long ((t3.toInt64) + (t7.toInt64))), .second, .val (.long ((t4.toInt64) + (t8.toInt64))), .second] [(.int (1 : Int32))])) _
      refine XS.goto X17.here hx rfl (pc0 := 316) (pc' := 320) rfl (hb hby at_316) (by decide) (by decide) ?_
      show Steps p.tables e below (T17.setTop (mkF m 320 #[.val (.int p0), .val (.long q1), .second, .val (.long q2), .second, .val (.long q3), .second, .val (.long q4), .second, .val (.long r7), .second, .val (.int t1), .val (.int t2), .val (.int t3), .val (.int t4), .val (.int t5), .val (.int t6), .val (.int t7), .val (.int t8), .val (.int (0 : Int32)), .val (.ref tx), .val (.ref tz), .val (.ref b13), .val (.long ((t1.toInt64) + (t5.toInt64))), .second, .val (.long ((t2.toInt64) + (t6.toInt64))), .second, .val (.long ((t3.toInt64) + (t7.toInt64))), .second, .val (.long ((t4.toInt64) + (t8.toInt64))), .second] [(.int (1 : Int32))])) _
      exact retN X17 hx (t := .boolean) Bd.returns (by simp) (hb hby at_320) hr
    · show Qrm0 Z p0 q1 q2 q3 q4 h0 n0 _ T17.heap _
      rw [eh17]
      exact ⟨rfl, N17⟩
  · obtain ⟨T18, h18, X18, e18, E18, A18, D18, -, st18⟩ := newO X8 hx hZ hown (hw _ (List.mem_of_getElem? (i := 5) rfl)) (hw _ (List.mem_of_getElem? (i := 6) rfl)) (hw _ (List.mem_of_getElem? (i := 7) rfl)) eh8 (g := (mkF m 171 #[.val (.int p0), .val (.long q1), .second, .val (.long q2), .second, .val (.long q3), .second, .val (.long q4), .second, .val (.long r7), .second, .val (.int t1), .val (.int t2), .val (.int t3), .val (.int t4), .val (.int t5), .val (.int t6), .val (.int t7), .val (.int t8), .val (.int (1 : Int32)), .unset, .unset, .unset, .unset, .unset, .unset, .unset, .unset, .unset, .unset, .unset] [])) rfl (hb hby at_171) (by decide) (by decide)
    obtain ⟨tx, g18⟩ : ∃ z, z = h0.size := ⟨_, rfl⟩
    rw [← g18] at A18 D18 st18
    have g_tx : n0 ≤ tx := Nat.le_trans Z0 (Nat.le_of_eq g18.symm)
    have sz_tx : h0.size ≤ tx := Nat.le_trans K0.1 (Nat.le_of_eq g18.symm)
    have Zh18 : n0 ≤ h18.size := Nat.le_trans Z0 E18.1
    have Kh18 : Keep h0 h18 [] := K0.ext E18
    have E_tx : Exa Z h18 tx "com/example/forkline/forkline/Tally" := A18
    have F_passed_tx : Fld Z h18 tx "com/example/forkline/forkline/Tally" "passed" "I" (.int (0 : Int32)) := D18 (Or.inr (hw _ (List.mem_of_getElem? (i := 21) rfl))) (ty := .int) (by decide)
    have F_failed_tx : Fld Z h18 tx "com/example/forkline/forkline/Tally" "failed" "I" (.int (0 : Int32)) := D18 (Or.inr (hw _ (List.mem_of_getElem? (i := 23) rfl))) (ty := .int) (by decide)
    have F_errors_tx : Fld Z h18 tx "com/example/forkline/forkline/Tally" "errors" "I" (.int (0 : Int32)) := D18 (Or.inr (hw _ (List.mem_of_getElem? (i := 25) rfl))) (ty := .int) (by decide)
    have F_skipped_tx : Fld Z h18 tx "com/example/forkline/forkline/Tally" "skipped" "I" (.int (0 : Int32)) := D18 (Or.inr (hw _ (List.mem_of_getElem? (i := 27) rfl))) (ty := .int) (by decide)
    obtain ⟨_, _, ⟨T19, L19, k19, n19⟩, -, X19, ⟨Lc19, hQ19, l19, y19, z19⟩, st19⟩ := X18.specialBack hx (y := (⟨"com/example/forkline/forkline/Tally", "<init>", "(IIII)V"⟩ : MethodName)) rfl hown (mvT hZ (hw _ (List.mem_of_getElem? (i := 8) rfl))) (mvT hZ (hw _ (List.mem_of_getElem? (i := 9) rfl))) (mvT hZ (hw _ (List.mem_of_getElem? (i := 10) rfl))) (by decide) (backOf (W := 1) (rm2 l Z A0 hw [] tx t1 t2 t3 t4 (.int (0 : Int32)) (.int (0 : Int32)) (.int (0 : Int32)) (.int (0 : Int32)) h18 n0 Zh18 E_tx F_passed_tx F_failed_tx F_errors_tx F_skipped_tx g_tx (by omega)) hZ (hw _ (List.mem_of_getElem? (i := 10) rfl)) (hw _ (List.mem_of_getElem? (i := 7) rfl)) (by decide) (by decide)) (g := (mkF m 183 #[.val (.int p0), .val (.long q1), .second, .val (.long q2), .second, .val (.long q3), .second, .val (.long q4), .second, .val (.long r7), .second, .val (.int t1), .val (.int t2), .val (.int t3), .val (.int t4), .val (.int t5), .val (.int t6), .val (.int t7), .val (.int t8), .val (.int (1 : Int32)), .unset, .unset, .unset, .unset, .unset, .unset, .unset, .unset, .unset, .unset, .unset] [(.int t4), (.int t3), (.int t2), (.int t1), (.ref tx), (.ref tx)])) rfl (by rw [hml]; rfl) (Steps.refl _) (a := tx) (argsL := [(.int t1), (.int t2), (.int t3), (.int t4)]) (rest := [(.ref tx)]) (lenOf pd_2 rfl) rfl (by show 2 * 0 + _ ≤ _; exact Nat.le_of_eq rfl) (hb hby at_183) (fun _ _ => ⟨rfl, e18, (by decide : 1 + 0 ≤ _), (by decide : 4 + 0 ≤ _)⟩)
    dsimp only [Pt.U, Pt.locs, Pt.cells, Pt.slots] at X19 l19 y19 z19 st19 hQ19
    subst l19 y19 z19
    obtain ⟨rfl, N19q, Kc19, P19_0, P19_1, P19_2, P19_3, P19_4⟩ := hQ19
    have N19 := Fr.app N8 N19q
    have E_tx : Exa Z T19.heap tx "com/example/forkline/forkline/Tally" := E_tx.keep Kc19
    have ZT19_heap : n0 ≤ T19.heap.size := Nat.le_trans Zh18 Kc19.1
    have KT19_heap : Keep h0 T19.heap [] := Kh18.trans Kc19 (allS (Or.inr sz_tx) all0)
    have E_tx : Exa Z T19.heap tx "com/example/forkline/forkline/Tally" := P19_0
    have F_passed_tx : Fld Z T19.heap tx "com/example/forkline/forkline/Tally" "passed" "I" (.int t1) := P19_1
    have F_failed_tx : Fld Z T19.heap tx "com/example/forkline/forkline/Tally" "failed" "I" (.int t2) := P19_2
    have F_errors_tx : Fld Z T19.heap tx "com/example/forkline/forkline/Tally" "errors" "I" (.int t3) := P19_3
    have F_skipped_tx : Fld Z T19.heap tx "com/example/forkline/forkline/Tally" "skipped" "I" (.int t4) := P19_4
    obtain ⟨T20, h20, X20, e20, E20, A20, D20, -, st20⟩ := newO X19 hx hZ hown (hw _ (List.mem_of_getElem? (i := 5) rfl)) (hw _ (List.mem_of_getElem? (i := 6) rfl)) (hw _ (List.mem_of_getElem? (i := 7) rfl)) rfl (g := (mkF m 188 #[.val (.int p0), .val (.long q1), .second, .val (.long q2), .second, .val (.long q3), .second, .val (.long q4), .second, .val (.long r7), .second, .val (.int t1), .val (.int t2), .val (.int t3), .val (.int t4), .val (.int t5), .val (.int t6), .val (.int t7), .val (.int t8), .val (.int (1 : Int32)), .val (.ref tx), .unset, .unset, .unset, .unset, .unset, .unset, .unset, .unset, .unset, .unset] [])) rfl (hb hby at_188) (by decide) (by decide)
    obtain ⟨tz, g20⟩ : ∃ z, z = T19.heap.size := ⟨_, rfl⟩
    rw [← g20] at A20 D20 st20
    have ne_tx_tz : tx ≠ tz := Nat.ne_of_lt (Nat.lt_of_lt_of_le E_tx.lt (Nat.le_of_eq g20.symm))
    have g_tz : n0 ≤ tz := Nat.le_trans ZT19_heap (Nat.le_of_eq g20.symm)
    have sz_tz : h0.size ≤ tz := Nat.le_trans KT19_heap.1 (Nat.le_of_eq g20.symm)
    have E_tx : Exa Z h20 tx "com/example/forkline/forkline/Tally" := E_tx.ext E20
    have F_passed_tx : Fld Z h20 tx "com/example/forkline/forkline/Tally" "passed" "I" (.int t1) := F_passed_tx.ext E20
    have F_failed_tx : Fld Z h20 tx "com/example/forkline/forkline/Tally" "failed" "I" (.int t2) := F_failed_tx.ext E20
    have F_errors_tx : Fld Z h20 tx "com/example/forkline/forkline/Tally" "errors" "I" (.int t3) := F_errors_tx.ext E20
    have F_skipped_tx : Fld Z h20 tx "com/example/forkline/forkline/Tally" "skipped" "I" (.int t4) := F_skipped_tx.ext E20
    have Zh20 : n0 ≤ h20.size := Nat.le_trans ZT19_heap E20.1
    have Kh20 : Keep h0 h20 [] := KT19_heap.ext E20
    have E_tz : Exa Z h20 tz "com/example/forkline/forkline/Tally" := A20
    have F_passed_tz : Fld Z h20 tz "com/example/forkline/forkline/Tally" "passed" "I" (.int (0 : Int32)) := D20 (Or.inr (hw _ (List.mem_of_getElem? (i := 21) rfl))) (ty := .int) (by decide)
    have F_failed_tz : Fld Z h20 tz "com/example/forkline/forkline/Tally" "failed" "I" (.int (0 : Int32)) := D20 (Or.inr (hw _ (List.mem_of_getElem? (i := 23) rfl))) (ty := .int) (by decide)
    have F_errors_tz : Fld Z h20 tz "com/example/forkline/forkline/Tally" "errors" "I" (.int (0 : Int32)) := D20 (Or.inr (hw _ (List.mem_of_getElem? (i := 25) rfl))) (ty := .int) (by decide)
    have F_skipped_tz : Fld Z h20 tz "com/example/forkline/forkline/Tally" "skipped" "I" (.int (0 : Int32)) := D20 (Or.inr (hw _ (List.mem_of_getElem? (i := 27) rfl))) (ty := .int) (by decide)
    obtain ⟨_, _, ⟨T21, L21, k21, n21⟩, -, X21, ⟨Lc21, hQ21, l21, y21, z21⟩, st21⟩ := X20.specialBack hx (y := (⟨"com/example/forkline/forkline/Tally", "<init>", "(IIII)V"⟩ : MethodName)) rfl hown (mvT hZ (hw _ (List.mem_of_getElem? (i := 8) rfl))) (mvT hZ (hw _ (List.mem_of_getElem? (i := 9) rfl))) (mvT hZ (hw _ (List.mem_of_getElem? (i := 10) rfl))) (by decide) (backOf (W := 1) (rm2 l Z A0 hw [] tz t5 t6 t7 t8 (.int (0 : Int32)) (.int (0 : Int32)) (.int (0 : Int32)) (.int (0 : Int32)) h20 n0 Zh20 E_tz F_passed_tz F_failed_tz F_errors_tz F_skipped_tz g_tz (by omega)) hZ (hw _ (List.mem_of_getElem? (i := 10) rfl)) (hw _ (List.mem_of_getElem? (i := 7) rfl)) (by decide) (by decide)) (g := (mkF m 200 #[.val (.int p0), .val (.long q1), .second, .val (.long q2), .second, .val (.long q3), .second, .val (.long q4), .second, .val (.long r7), .second, .val (.int t1), .val (.int t2), .val (.int t3), .val (.int t4), .val (.int t5), .val (.int t6), .val (.int t7), .val (.int t8), .val (.int (1 : Int32)), .val (.ref tx), .unset, .unset, .unset, .unset, .unset, .unset, .unset, .unset, .unset, .unset] [(.int t8), (.int t7), (.int t6), (.int t5), (.ref tz), (.ref tz)])) rfl (by rw [hml]; rfl) (Steps.refl _) (a := tz) (argsL := [(.int t5), (.int t6), (.int t7), (.int t8)]) (rest := [(.ref tz)]) (lenOf pd_2 rfl) rfl (by show 2 * 0 + _ ≤ _; exact Nat.le_of_eq rfl) (hb hby at_200) (fun _ _ => ⟨rfl, e20, (by decide : 2 + 0 ≤ _), (by decide : 8 + 0 ≤ _)⟩)
    dsimp only [Pt.U, Pt.locs, Pt.cells, Pt.slots] at X21 l21 y21 z21 st21 hQ21
    subst l21 y21 z21
    obtain ⟨rfl, N21q, Kc21, P21_0, P21_1, P21_2, P21_3, P21_4⟩ := hQ21
    have N21 := Fr.app N19 N21q
    have E_tx : Exa Z T21.heap tx "com/example/forkline/forkline/Tally" := E_tx.keep Kc21
    have F_passed_tx : Fld Z T21.heap tx "com/example/forkline/forkline/Tally" "passed" "I" (.int t1) := F_passed_tx.keep Kc21 (ninS ne_tx_tz nin0)
    have F_failed_tx : Fld Z T21.heap tx "com/example/forkline/forkline/Tally" "failed" "I" (.int t2) := F_failed_tx.keep Kc21 (ninS ne_tx_tz nin0)
    have F_errors_tx : Fld Z T21.heap tx "com/example/forkline/forkline/Tally" "errors" "I" (.int t3) := F_errors_tx.keep Kc21 (ninS ne_tx_tz nin0)
    have F_skipped_tx : Fld Z T21.heap tx "com/example/forkline/forkline/Tally" "skipped" "I" (.int t4) := F_skipped_tx.keep Kc21 (ninS ne_tx_tz nin0)
    have E_tz : Exa Z T21.heap tz "com/example/forkline/forkline/Tally" := E_tz.keep Kc21
    have ZT21_heap : n0 ≤ T21.heap.size := Nat.le_trans Zh20 Kc21.1
    have KT21_heap : Keep h0 T21.heap [] := Kh20.trans Kc21 (allS (Or.inr sz_tz) all0)
    have E_tz : Exa Z T21.heap tz "com/example/forkline/forkline/Tally" := P21_0
    have F_passed_tz : Fld Z T21.heap tz "com/example/forkline/forkline/Tally" "passed" "I" (.int t5) := P21_1
    have F_failed_tz : Fld Z T21.heap tz "com/example/forkline/forkline/Tally" "failed" "I" (.int t6) := P21_2
    have F_errors_tz : Fld Z T21.heap tz "com/example/forkline/forkline/Tally" "errors" "I" (.int t7) := P21_3
    have F_skipped_tz : Fld Z T21.heap tz "com/example/forkline/forkline/Tally" "skipped" "I" (.int t8) := P21_4
    obtain ⟨cq22, kq22, q22a, q22b, q22c⟩ := isOf hZ rfl E_tz
    obtain ⟨_, _, ⟨T22, L22, k22, n22⟩, -, X22, ⟨Lc22, hQ22, l22, y22, z22⟩, st22⟩ := X21.virtualBack hx (y := (⟨"com/example/forkline/forkline/Tally", "plus", "(Lcom/example/forkline/forkline/Tally;)Lcom/example/forkline/forkline/Tally;"⟩ : MethodName)) (z := (⟨"com/example/forkline/forkline/Tally", "plus", "(Lcom/example/forkline/forkline/Tally;)Lcom/example/forkline/forkline/Tally;"⟩ : MethodName)) hown (mvT hZ (hw _ (List.mem_of_getElem? (i := 28) rfl))) (mvT hZ (hw _ (List.mem_of_getElem? (i := 29) rfl))) (notFace_of_selects (args := #[]) (mvT hZ (hw _ (List.mem_of_getElem? (i := 31) rfl)))) (mvT hZ (hw _ (List.mem_of_getElem? (i := 31) rfl))) (mvT hZ (hw _ (List.mem_of_getElem? (i := 30) rfl))) (by decide) (backOf (W := 0) (rm5 l Z A0 hw [] tz tx t5 t6 t7 t8 t1 t2 t3 t4 T21.heap n0 ZT21_heap F_passed_tz F_failed_tz F_errors_tz F_skipped_tz F_passed_tx F_failed_tx F_errors_tx F_skipped_tx (by omega)) hZ (hw _ (List.mem_of_getElem? (i := 32) rfl)) (hw _ (List.mem_of_getElem? (i := 7) rfl)) (by decide) (by decide)) q22a q22c (g := (mkF m 214 #[.val (.int p0), .val (.long q1), .second, .val (.long q2), .second, .val (.long q3), .second, .val (.long q4), .second, .val (.long r7), .second, .val (.int t1), .val (.int t2), .val (.int t3), .val (.int t4), .val (.int t5), .val (.int t6), .val (.int t7), .val (.int t8), .val (.int (1 : Int32)), .val (.ref tx), .val (.ref tz), .unset, .unset, .unset, .unset, .unset, .unset, .unset, .unset, .unset] [(.ref tx), (.ref tz)])) rfl (by rw [hml]; rfl) (Steps.refl _) (argsL := [(.ref tx)]) (rest := []) (lenOf pd_4 rfl) rfl (by show 2 * 0 + _ ≤ _; exact Nat.le_of_eq rfl) (hb hby at_214) (fun _ _ => ⟨rfl, rfl, (by decide : 2 + 1 ≤ _), (by decide : 8 + 4 ≤ _)⟩)
    dsimp only [Pt.U, Pt.locs, Pt.cells, Pt.slots] at X22 l22 y22 z22 st22 hQ22
    subst l22 y22 z22
    obtain ⟨b22, rfl, N22q, gb22, sb22, Kc22, P22_0, P22_1, P22_2, P22_3, P22_4⟩ := hQ22
    have N22 := Fr.app N21 N22q
    have ne_tx_b22 : tx ≠ b22 := Nat.ne_of_lt (Nat.lt_of_lt_of_le E_tx.lt sb22)
    have ne_tz_b22 : tz ≠ b22 := Nat.ne_of_lt (Nat.lt_of_lt_of_le E_tz.lt sb22)
    have sz_b22 : h0.size ≤ b22 := Nat.le_trans KT21_heap.1 sb22
    have E_tx : Exa Z T22.heap tx "com/example/forkline/forkline/Tally" := E_tx.keep Kc22
    have F_passed_tx : Fld Z T22.heap tx "com/example/forkline/forkline/Tally" "passed" "I" (.int t1) := F_passed_tx.keep Kc22 nin0
    have F_failed_tx : Fld Z T22.heap tx "com/example/forkline/forkline/Tally" "failed" "I" (.int t2) := F_failed_tx.keep Kc22 nin0
    have F_errors_tx : Fld Z T22.heap tx "com/example/forkline/forkline/Tally" "errors" "I" (.int t3) := F_errors_tx.keep Kc22 nin0
    have F_skipped_tx : Fld Z T22.heap tx "com/example/forkline/forkline/Tally" "skipped" "I" (.int t4) := F_skipped_tx.keep Kc22 nin0
    have E_tz : Exa Z T22.heap tz "com/example/forkline/forkline/Tally" := E_tz.keep Kc22
    have F_passed_tz : Fld Z T22.heap tz "com/example/forkline/forkline/Tally" "passed" "I" (.int t5) := F_passed_tz.keep Kc22 nin0
    have F_failed_tz : Fld Z T22.heap tz "com/example/forkline/forkline/Tally" "failed" "I" (.int t6) := F_failed_tz.keep Kc22 nin0
    have F_errors_tz : Fld Z T22.heap tz "com/example/forkline/forkline/Tally" "errors" "I" (.int t7) := F_errors_tz.keep Kc22 nin0
    have F_skipped_tz : Fld Z T22.heap tz "com/example/forkline/forkline/Tally" "skipped" "I" (.int t8) := F_skipped_tz.keep Kc22 nin0
    have ZT22_heap : n0 ≤ T22.heap.size := Nat.le_trans ZT21_heap Kc22.1
    have KT22_heap : Keep h0 T22.heap [] := KT21_heap.trans Kc22 all0
    have E_b22 : Exa Z T22.heap b22 "com/example/forkline/forkline/Tally" := P22_0
    have F_passed_b22 : Fld Z T22.heap b22 "com/example/forkline/forkline/Tally" "passed" "I" (.int (t5 + t1)) := P22_1
    have F_failed_b22 : Fld Z T22.heap b22 "com/example/forkline/forkline/Tally" "failed" "I" (.int (t6 + t2)) := P22_2
    have F_errors_b22 : Fld Z T22.heap b22 "com/example/forkline/forkline/Tally" "errors" "I" (.int (t7 + t3)) := P22_3
    have F_skipped_b22 : Fld Z T22.heap b22 "com/example/forkline/forkline/Tally" "skipped" "I" (.int (t8 + t4)) := P22_4
    obtain ⟨cq23, kq23, q23a, q23b, q23c⟩ := isOf hZ rfl E_b22
    obtain ⟨_, _, ⟨T23, L23, k23, n23⟩, -, X23, ⟨Lc23, hQ23, l23, y23, z23⟩, st23⟩ := X22.virtualBack hx (y := (⟨"com/example/forkline/forkline/Tally", "passed", "()I"⟩ : MethodName)) (z := (⟨"com/example/forkline/forkline/Tally", "passed", "()I"⟩ : MethodName)) hown (mvT hZ (hw _ (List.mem_of_getElem? (i := 39) rfl))) (mvT hZ (hw _ (List.mem_of_getElem? (i := 40) rfl))) (notFace_of_selects (args := #[]) (mvT hZ (hw _ (List.mem_of_getElem? (i := 42) rfl)))) (mvT hZ (hw _ (List.mem_of_getElem? (i := 42) rfl))) (mvT hZ (hw _ (List.mem_of_getElem? (i := 41) rfl))) (by decide) (backOf (W := 0) (rm7 l Z A0 hw [] b22 (t5 + t1) T22.heap n0 ZT22_heap F_passed_b22) hZ (hw _ (List.mem_of_getElem? (i := 43) rfl)) (hw _ (List.mem_of_getElem? (i := 7) rfl)) (by decide) (by decide)) q23a q23c (g := (mkF m 269 #[.val (.int p0), .val (.long q1), .second, .val (.long q2), .second, .val (.long q3), .second, .val (.long q4), .second, .val (.long r7), .second, .val (.int t1), .val (.int t2), .val (.int t3), .val (.int t4), .val (.int t5), .val (.int t6), .val (.int t7), .val (.int t8), .val (.int (1 : Int32)), .val (.ref tx), .val (.ref tz), .val (.ref b22), .val (.long ((t1.toInt64) + (t5.toInt64))), .second, .val (.long ((t2.toInt64) + (t6.toInt64))), .second, .val (.long ((t3.toInt64) + (t7.toInt64))), .second, .val (.long ((t4.toInt64) + (t8.toInt64))), .second] [(.ref b22)])) rfl (by rw [hml]; rfl) (Steps.refl _) (argsL := []) (rest := []) (lenOf pd_5 rfl) rfl (by show 2 * 0 + _ ≤ _; exact Nat.le_of_eq rfl) (hb hby at_269) (fun _ _ => ⟨rfl, rfl, (by decide : 3 + 0 ≤ _), (by decide : 12 + 0 ≤ _)⟩)
    dsimp only [Pt.U, Pt.locs, Pt.cells, Pt.slots] at X23 l23 y23 z23 st23 hQ23
    subst l23 y23 z23
    obtain ⟨rfl, N23q, eh23⟩ := hQ23
    have N23 := Fr.app N22 N23q
    obtain ⟨cq24, kq24, q24a, q24b, q24c⟩ := isOf hZ eh23 E_b22
    obtain ⟨_, _, ⟨T24, L24, k24, n24⟩, -, X24, ⟨Lc24, hQ24, l24, y24, z24⟩, st24⟩ := X23.virtualBack hx (y := (⟨"com/example/forkline/forkline/Tally", "failed", "()I"⟩ : MethodName)) (z := (⟨"com/example/forkline/forkline/Tally", "failed", "()I"⟩ : MethodName)) hown (mvT hZ (hw _ (List.mem_of_getElem? (i := 44) rfl))) (mvT hZ (hw _ (List.mem_of_getElem? (i := 45) rfl))) (notFace_of_selects (args := #[]) (mvT hZ (hw _ (List.mem_of_getElem? (i := 47) rfl)))) (mvT hZ (hw _ (List.mem_of_getElem? (i := 47) rfl))) (mvT hZ (hw _ (List.mem_of_getElem? (i := 46) rfl))) (by decide) (backOf (W := 0) (rm8 l Z A0 hw [] b22 (t6 + t2) T22.heap n0 ZT22_heap F_failed_b22) hZ (hw _ (List.mem_of_getElem? (i := 48) rfl)) (hw _ (List.mem_of_getElem? (i := 7) rfl)) (by decide) (by decide)) q24a q24c (g := (mkF m 281 #[.val (.int p0), .val (.long q1), .second, .val (.long q2), .second, .val (.long q3), .second, .val (.long q4), .second, .val (.long r7), .second, .val (.int t1), .val (.int t2), .val (.int t3), .val (.int t4), .val (.int t5), .val (.int t6), .val (.int t7), .val (.int t8), .val (.int (1 : Int32)), .val (.ref tx), .val (.ref tz), .val (.ref b22), .val (.long ((t1.toInt64) + (t5.toInt64))), .second, .val (.long ((t2.toInt64) + (t6.toInt64))), .second, .val (.long ((t3.toInt64) + (t7.toInt64))), .second, .val (.long ((t4.toInt64) + (t8.toInt64))), .second] [(.ref b22)])) rfl (by rw [hml]; rfl) (Steps.refl _) (argsL := []) (rest := []) (lenOf pd_5 rfl) rfl (by show 2 * 0 + _ ≤ _; exact Nat.le_of_eq rfl) (hb hby at_281) (fun _ _ => ⟨rfl, eh23, (by decide : 3 + 0 ≤ _), (by decide : 12 + 0 ≤ _)⟩)
    dsimp only [Pt.U, Pt.locs, Pt.cells, Pt.slots] at X24 l24 y24 z24 st24 hQ24
    subst l24 y24 z24
    obtain ⟨rfl, N24q, eh24⟩ := hQ24
    have N24 := Fr.app N23 N24q
    obtain ⟨cq25, kq25, q25a, q25b, q25c⟩ := isOf hZ eh24 E_b22
    obtain ⟨_, _, ⟨T25, L25, k25, n25⟩, -, X25, ⟨Lc25, hQ25, l25, y25, z25⟩, st25⟩ := X24.virtualBack hx (y := (⟨"com/example/forkline/forkline/Tally", "errors", "()I"⟩ : MethodName)) (z := (⟨"com/example/forkline/forkline/Tally", "errors", "()I"⟩ : MethodName)) hown (mvT hZ (hw _ (List.mem_of_getElem? (i := 49) rfl))) (mvT hZ (hw _ (List.mem_of_getElem? (i := 50) rfl))) (notFace_of_selects (args := #[]) (mvT hZ (hw _ (List.mem_of_getElem? (i := 52) rfl)))) (mvT hZ (hw _ (List.mem_of_getElem? (i := 52) rfl))) (mvT hZ (hw _ (List.mem_of_getElem? (i := 51) rfl))) (by decide) (backOf (W := 0) (rm9 l Z A0 hw [] b22 (t7 + t3) T22.heap n0 ZT22_heap F_errors_b22) hZ (hw _ (List.mem_of_getElem? (i := 53) rfl)) (hw _ (List.mem_of_getElem? (i := 7) rfl)) (by decide) (by decide)) q25a q25c (g := (mkF m 293 #[.val (.int p0), .val (.long q1), .second, .val (.long q2), .second, .val (.long q3), .second, .val (.long q4), .second, .val (.long r7), .second, .val (.int t1), .val (.int t2), .val (.int t3), .val (.int t4), .val (.int t5), .val (.int t6), .val (.int t7), .val (.int t8), .val (.int (1 : Int32)), .val (.ref tx), .val (.ref tz), .val (.ref b22), .val (.long ((t1.toInt64) + (t5.toInt64))), .second, .val (.long ((t2.toInt64) + (t6.toInt64))), .second, .val (.long ((t3.toInt64) + (t7.toInt64))), .second, .val (.long ((t4.toInt64) + (t8.toInt64))), .second] [(.ref b22)])) rfl (by rw [hml]; rfl) (Steps.refl _) (argsL := []) (rest := []) (lenOf pd_5 rfl) rfl (by show 2 * 0 + _ ≤ _; exact Nat.le_of_eq rfl) (hb hby at_293) (fun _ _ => ⟨rfl, eh24, (by decide : 3 + 0 ≤ _), (by decide : 12 + 0 ≤ _)⟩)
    dsimp only [Pt.U, Pt.locs, Pt.cells, Pt.slots] at X25 l25 y25 z25 st25 hQ25
    subst l25 y25 z25
    obtain ⟨rfl, N25q, eh25⟩ := hQ25
    have N25 := Fr.app N24 N25q
    obtain ⟨cq26, kq26, q26a, q26b, q26c⟩ := isOf hZ eh25 E_b22
    obtain ⟨_, _, ⟨T26, L26, k26, n26⟩, -, X26, ⟨Lc26, hQ26, l26, y26, z26⟩, st26⟩ := X25.virtualBack hx (y := (⟨"com/example/forkline/forkline/Tally", "skipped", "()I"⟩ : MethodName)) (z := (⟨"com/example/forkline/forkline/Tally", "skipped", "()I"⟩ : MethodName)) hown (mvT hZ (hw _ (List.mem_of_getElem? (i := 54) rfl))) (mvT hZ (hw _ (List.mem_of_getElem? (i := 55) rfl))) (notFace_of_selects (args := #[]) (mvT hZ (hw _ (List.mem_of_getElem? (i := 57) rfl)))) (mvT hZ (hw _ (List.mem_of_getElem? (i := 57) rfl))) (mvT hZ (hw _ (List.mem_of_getElem? (i := 56) rfl))) (by decide) (backOf (W := 0) (rm10 l Z A0 hw [] b22 (t8 + t4) T22.heap n0 ZT22_heap F_skipped_b22) hZ (hw _ (List.mem_of_getElem? (i := 58) rfl)) (hw _ (List.mem_of_getElem? (i := 7) rfl)) (by decide) (by decide)) q26a q26c (g := (mkF m 305 #[.val (.int p0), .val (.long q1), .second, .val (.long q2), .second, .val (.long q3), .second, .val (.long q4), .second, .val (.long r7), .second, .val (.int t1), .val (.int t2), .val (.int t3), .val (.int t4), .val (.int t5), .val (.int t6), .val (.int t7), .val (.int t8), .val (.int (1 : Int32)), .val (.ref tx), .val (.ref tz), .val (.ref b22), .val (.long ((t1.toInt64) + (t5.toInt64))), .second, .val (.long ((t2.toInt64) + (t6.toInt64))), .second, .val (.long ((t3.toInt64) + (t7.toInt64))), .second, .val (.long ((t4.toInt64) + (t8.toInt64))), .second] [(.ref b22)])) rfl (by rw [hml]; rfl) (Steps.refl _) (argsL := []) (rest := []) (lenOf pd_5 rfl) rfl (by show 2 * 0 + _ ≤ _; exact Nat.le_of_eq rfl) (hb hby at_305) (fun _ _ => ⟨rfl, eh25, (by decide : 3 + 0 ≤ _), (by decide : 12 + 0 ≤ _)⟩)
    dsimp only [Pt.U, Pt.locs, Pt.cells, Pt.slots] at X26 l26 y26 z26 st26 hQ26
    subst l26 y26 z26
    obtain ⟨rfl, N26q, eh26⟩ := hQ26
    have N26 := Fr.app N25 N26q
    obtain ⟨fs, hr, hrun, hended, hW, hsame⟩ := X26.leave (v := some (.int (1 : Int32))) (fun h => by rw [Bd.returns] at h; cases h)
    refine ⟨_, _, pre0 _ ?_, hrun, hended, _, _, rfl, ?_, ⟨_, rfl⟩, hW, hsame.mono (by decide) (by decide)⟩
    · show Steps p.tables e below (s₁.setTop (mkF m 0 #[.val (.int p0), .val (.long q1), .second, .val (.long q2), .second, .val (.long q3), .second, .val (.long q4), .second, .unset, .unset, .unset, .unset, .unset, .unset, .unset, .unset, .unset, .unset, .unset, .unset, .unset, .unset, .unset, .unset, .unset, .unset, .unset, .unset, .unset, .unset] [])) _
      refine XS.iloadN X0.here hx rfl (hb hby at_0) rfl ?_
      show Steps p.tables e below (s₁.setTop (mkF m 1 #[.val (.int p0), .val (.long q1), .second, .val (.long q2), .second, .val (.long q3), .second, .val (.long q4), .second, .unset, .unset, .unset, .unset, .unset, .unset, .unset, .unset, .unset, .unset, .unset, .unset, .unset, .unset, .unset, .unset, .unset, .unset, .unset, .unset, .unset, .unset] [(.int p0)])) _
      refine XS.i2l X0.here hx rfl (hb hby at_1) rfl ?_
      show Steps p.tables e below (s₁.setTop (mkF m 2 #[.val (.int p0), .val (.long q1), .second, .val (.long q2), .second, .val (.long q3), .second, .val (.long q4), .second, .unset, .unset, .unset, .unset, .unset, .unset, .unset, .unset, .unset, .unset, .unset, .unset, .unset, .unset, .unset, .unset, .unset, .unset, .unset, .unset, .unset, .unset] [(.long (p0.toInt64))])) _
      refine X0.ldc2Long hx hown (mvT hZ (hw _ (List.mem_of_getElem? (i := 0) rfl))) (g := (mkF m 2 #[.val (.int p0), .val (.long q1), .second, .val (.long q2), .second, .val (.long q3), .second, .val (.long q4), .second, .unset, .unset, .unset, .unset, .unset, .unset, .unset, .unset, .unset, .unset, .unset, .unset, .unset, .unset, .unset, .unset, .unset, .unset, .unset, .unset, .unset, .unset] [(.long (p0.toInt64))])) rfl (hb hby at_2) _ ?_
      show Steps p.tables e below (s₁.setTop (mkF m 5 #[.val (.int p0), .val (.long q1), .second, .val (.long q2), .second, .val (.long q3), .second, .val (.long q4), .second, .unset, .unset, .unset, .unset, .unset, .unset, .unset, .unset, .unset, .unset, .unset, .unset, .unset, .unset, .unset, .unset, .unset, .unset, .unset, .unset, .unset, .unset] [(.long (2147483647 : Int64)), (.long (p0.toInt64))])) _
      refine XS.land X0.here hx rfl (hb hby at_5) rfl ?_
      show Steps p.tables e below (s₁.setTop (mkF m 6 #[.val (.int p0), .val (.long q1), .second, .val (.long q2), .second, .val (.long q3), .second, .val (.long q4), .second, .unset, .unset, .unset, .unset, .unset, .unset, .unset, .unset, .unset, .unset, .unset, .unset, .unset, .unset, .unset, .unset, .unset, .unset, .unset, .unset, .unset, .unset] [(.long ((p0.toInt64) &&& (2147483647 : Int64)))])) _
      rw [← h_r0]
      show Steps p.tables e below (s₁.setTop (mkF m 6 #[.val (.int p0), .val (.long q1), .second, .val (.long q2), .second, .val (.long q3), .second, .val (.long q4), .second, .unset, .unset, .unset, .unset, .unset, .unset, .unset, .unset, .unset, .unset, .unset, .unset, .unset, .unset, .unset, .unset, .unset, .unset, .unset, .unset, .unset, .unset] [(.long r0)])) _
      refine XS.lstore X0.here hx rfl (hb hby at_6) rfl (l' := #[.val (.int p0), .val (.long q1), .second, .val (.long q2), .second, .val (.long q3), .second, .val (.long q4), .second, .val (.long r0), .second, .unset, .unset, .unset, .unset, .unset, .unset, .unset, .unset, .unset, .unset, .unset, .unset, .unset, .unset, .unset, .unset, .unset, .unset, .unset, .unset]) rfl ?_
      show Steps p.tables e below (s₁.setTop (mkF m 8 #[.val (.int p0), .val (.long q1), .second, .val (.long q2), .second, .val (.long q3), .second, .val (.long q4), .second, .val (.long r0), .second, .unset, .unset, .unset, .unset, .unset, .unset, .unset, .unset, .unset, .unset, .unset, .unset, .unset, .unset, .unset, .unset, .unset, .unset, .unset, .unset] [])) _
      refine XS.lloadN X0.here hx rfl (hb hby at_8) rfl ?_
      show Steps p.tables e below (s₁.setTop (mkF m 9 #[.val (.int p0), .val (.long q1), .second, .val (.long q2), .second, .val (.long q3), .second, .val (.long q4), .second, .val (.long r0), .second, .unset, .unset, .unset, .unset, .unset, .unset, .unset, .unset, .unset, .unset, .unset, .unset, .unset, .unset, .unset, .unset, .unset, .unset, .unset, .unset] [(.long q1)])) _
      refine XS.l2i X0.here hx rfl (hb hby at_9) rfl ?_
      show Steps p.tables e below (s₁.setTop (mkF m 10 #[.val (.int p0), .val (.long q1), .second, .val (.long q2), .second, .val (.long q3), .second, .val (.long q4), .second, .val (.long r0), .second, .unset, .unset, .unset, .unset, .unset, .unset, .unset, .unset, .unset, .unset, .unset, .unset, .unset, .unset, .unset, .unset, .unset, .unset, .unset, .unset] [(.int (q1.toInt32))])) _
      refine XS.lload X0.here hx rfl (hb hby at_10) rfl ?_
      show Steps p.tables e below (s₁.setTop (mkF m 12 #[.val (.int p0), .val (.long q1), .second, .val (.long q2), .second, .val (.long q3), .second, .val (.long q4), .second, .val (.long r0), .second, .unset, .unset, .unset, .unset, .unset, .unset, .unset, .unset, .unset, .unset, .unset, .unset, .unset, .unset, .unset, .unset, .unset, .unset, .unset, .unset] [(.long r0), (.int (q1.toInt32))])) _
      refine st1 _ ?_
      show Steps p.tables e below (T1.setTop (mkF m 15 #[.val (.int p0), .val (.long q1), .second, .val (.long q2), .second, .val (.long q3), .second, .val (.long q4), .second, .val (.long r0), .second, .unset, .unset, .unset, .unset, .unset, .unset, .unset, .unset, .unset, .unset, .unset, .unset, .unset, .unset, .unset, .unset, .unset, .unset, .unset, .unset] [(.int (((((q1.toInt32).toInt64) &&& (2147483647 : Int64)) % (r0 + (1 : Int64))).toInt32))])) _
      rw [← h_t1]
      show Steps p.tables e below (T1.setTop (mkF m 15 #[.val (.int p0), .val (.long q1), .second, .val (.long q2), .second, .val (.long q3), .second, .val (.long q4), .second, .val (.long r0), .second, .unset, .unset, .unset, .unset, .unset, .unset, .unset, .unset, .unset, .unset, .unset, .unset, .unset, .unset, .unset, .unset, .unset, .unset, .unset, .unset] [(.int t1)])) _
      refine XS.istore X1.here hx rfl (hb hby at_15) rfl (l' := #[.val (.int p0), .val (.long q1), .second, .val (.long q2), .second, .val (.long q3), .second, .val (.long q4), .second, .val (.long r0), .second, .val (.int t1), .unset, .unset, .unset, .unset, .unset, .unset, .unset, .unset, .unset, .unset, .unset, .unset, .unset, .unset, .unset, .unset, .unset, .unset, .unset]) rfl ?_
      show Steps p.tables e below (T1.setTop (mkF m 17 #[.val (.int p0), .val (.long q1), .second, .val (.long q2), .second, .val (.long q3), .second, .val (.long q4), .second, .val (.long r0), .second, .val (.int t1), .unset, .unset, .unset, .unset, .unset, .unset, .unset, .unset, .unset, .unset, .unset, .unset, .unset, .unset, .unset, .unset, .unset, .unset, .unset] [])) _
      refine XS.lload X1.here hx rfl (hb hby at_17) rfl ?_
      show Steps p.tables e below (T1.setTop (mkF m 19 #[.val (.int p0), .val (.long q1), .second, .val (.long q2), .second, .val (.long q3), .second, .val (.long q4), .second, .val (.long r0), .second, .val (.int t1), .unset, .unset, .unset, .unset, .unset, .unset, .unset, .unset, .unset, .unset, .unset, .unset, .unset, .unset, .unset, .unset, .unset, .unset, .unset] [(.long r0)])) _
      refine XS.iload X1.here hx rfl (hb hby at_19) rfl ?_
      show Steps p.tables e below (T1.setTop (mkF m 21 #[.val (.int p0), .val (.long q1), .second, .val (.long q2), .second, .val (.long q3), .second, .val (.long q4), .second, .val (.long r0), .second, .val (.int t1), .unset, .unset, .unset, .unset, .unset, .unset, .unset, .unset, .unset, .unset, .unset, .unset, .unset, .unset, .unset, .unset, .unset, .unset, .unset] [(.int t1), (.long r0)])) _
      refine XS.i2l X1.here hx rfl (hb hby at_21) rfl ?_
      show Steps p.tables e below (T1.setTop (mkF m 22 #[.val (.int p0), .val (.long q1), .second, .val (.long q2), .second, .val (.long q3), .second, .val (.long q4), .second, .val (.long r0), .second, .val (.int t1), .unset, .unset, .unset, .unset, .unset, .unset, .unset, .unset, .unset, .unset, .unset, .unset, .unset, .unset, .unset, .unset, .unset, .unset, .unset] [(.long (t1.toInt64)), (.long r0)])) _
      refine XS.lsub X1.here hx rfl (hb hby at_22) rfl ?_
      show Steps p.tables e below (T1.setTop (mkF m 23 #[.val (.int p0), .val (.long q1), .second, .val (.long q2), .second, .val (.long q3), .second, .val (.long q4), .second, .val (.long r0), .second, .val (.int t1), .unset, .unset, .unset, .unset, .unset, .unset, .unset, .unset, .unset, .unset, .unset, .unset, .unset, .unset, .unset, .unset, .unset, .unset, .unset] [(.long (r0 - (t1.toInt64)))])) _
      rw [← h_r1]
      show Steps p.tables e below (T1.setTop (mkF m 23 #[.val (.int p0), .val (.long q1), .second, .val (.long q2), .second, .val (.long q3), .second, .val (.long q4), .second, .val (.long r0), .second, .val (.int t1), .unset, .unset, .unset, .unset, .unset, .unset, .unset, .unset, .unset, .unset, .unset, .unset, .unset, .unset, .unset, .unset, .unset, .unset, .unset] [(.long r1)])) _
      refine XS.lstore X1.here hx rfl (hb hby at_23) rfl (l' := #[.val (.int p0), .val (.long q1), .second, .val (.long q2), .second, .val (.long q3), .second, .val (.long q4), .second, .val (.long r1), .second, .val (.int t1), .unset, .unset, .unset, .unset, .unset, .unset, .unset, .unset, .unset, .unset, .unset, .unset, .unset, .unset, .unset, .unset, .unset, .unset, .unset]) rfl ?_
      show Steps p.tables e below (T1.setTop (mkF m 25 #[.val (.int p0), .val (.long q1), .second, .val (.long q2), .second, .val (.long q3), .second, .val (.long q4), .second, .val (.long r1), .second, .val (.int t1), .unset, .unset, .unset, .unset, .unset, .unset, .unset, .unset, .unset, .unset, .unset, .unset, .unset, .unset, .unset, .unset, .unset, .unset, .unset] [])) _
      refine XS.lloadN X1.here hx rfl (hb hby at_25) rfl ?_
      show Steps p.tables e below (T1.setTop (mkF m 26 #[.val (.int p0), .val (.long q1), .second, .val (.long q2), .second, .val (.long q3), .second, .val (.long q4), .second, .val (.long r1), .second, .val (.int t1), .unset, .unset, .unset, .unset, .unset, .unset, .unset, .unset, .unset, .unset, .unset, .unset, .unset, .unset, .unset, .unset, .unset, .unset, .unset] [(.long q1)])) _
      refine XS.bipush X1.here hx rfl (hb hby at_26) ?_
      show Steps p.tables e below (T1.setTop (mkF m 28 #[.val (.int p0), .val (.long q1), .second, .val (.long q2), .second, .val (.long q3), .second, .val (.long q4), .second, .val (.long r1), .second, .val (.int t1), .unset, .unset, .unset, .unset, .unset, .unset, .unset, .unset, .unset, .unset, .unset, .unset, .unset, .unset, .unset, .unset, .unset, .unset, .unset] [(.int (32 : Int32)), (.long q1)])) _
      refine XS.lushr X1.here hx rfl (hb hby at_28) rfl ?_
      show Steps p.tables e below (T1.setTop (mkF m 29 #[.val (.int p0), .val (.long q1), .second, .val (.long q2), .second, .val (.long q3), .second, .val (.long q4), .second, .val (.long r1), .second, .val (.int t1), .unset, .unset, .unset, .unset, .unset, .unset, .unset, .unset, .unset, .unset, .unset, .unset, .unset, .unset, .unset, .unset, .unset, .unset, .unset] [(.long ((q1.toUInt64 >>> ((32 : Int32) &&& 0x3f).toInt64.toUInt64).toInt64))])) _
      refine XS.l2i X1.here hx rfl (hb hby at_29) rfl ?_
      show Steps p.tables e below (T1.setTop (mkF m 30 #[.val (.int p0), .val (.long q1), .second, .val (.long q2), .second, .val (.long q3), .second, .val (.long q4), .second, .val (.long r1), .second, .val (.int t1), .unset, .unset, .unset, .unset, .unset, .unset, .unset, .unset, .unset, .unset, .unset, .unset, .unset, .unset, .unset, .unset, .unset, .unset, .unset] [(.int (((q1.toUInt64 >>> ((32 : Int32) &&& 0x3f).toInt64.toUInt64).toInt64).toInt32))])) _
      refine XS.lload X1.here hx rfl (hb hby at_30) rfl ?_
      show Steps p.tables e below (T1.setTop (mkF m 32 #[.val (.int p0), .val (.long q1), .second, .val (.long q2), .second, .val (.long q3), .second, .val (.long q4), .second, .val (.long r1), .second, .val (.int t1), .unset, .unset, .unset, .unset, .unset, .unset, .unset, .unset, .unset, .unset, .unset, .unset, .unset, .unset, .unset, .unset, .unset, .unset, .unset] [(.long r1), (.int (((q1.toUInt64 >>> ((32 : Int32) &&& 0x3f).toInt64.toUInt64).toInt64).toInt32))])) _
      refine st2 _ ?_
      show Steps p.tables e below (T2.setTop (mkF m 35 #[.val (.int p0), .val (.long q1), .second, .val (.long q2), .second, .val (.long q3), .second, .val (.long q4), .second, .val (.long r1), .second, .val (.int t1), .unset, .unset, .unset, .unset, .unset, .unset, .unset, .unset, .unset, .unset, .unset, .unset, .unset, .unset, .unset, .unset, .unset, .unset, .unset] [(.int (((((((q1.toUInt64 >>> ((32 : Int32) &&& 0x3f).toInt64.toUInt64).toInt64).toInt32).toInt64) &&& (2147483647 : Int64)) % (r1 + (1 : Int64))).toInt32))])) _
      rw [← h_t2]
      show Steps p.tables e below (T2.setTop (mkF m 35 #[.val (.int p0), .val (.long q1), .second, .val (.long q2), .second, .val (.long q3), .second, .val (.long q4), .second, .val (.long r1), .second, .val (.int t1), .unset, .unset, .unset, .unset, .unset, .unset, .unset, .unset, .unset, .unset, .unset, .unset, .unset, .unset, .unset, .unset, .unset, .unset, .unset] [(.int t2)])) _
      refine XS.istore X2.here hx rfl (hb hby at_35) rfl (l' := #[.val (.int p0), .val (.long q1), .second, .val (.long q2), .second, .val (.long q3), .second, .val (.long q4), .second, .val (.long r1), .second, .val (.int t1), .val (.int t2), .unset, .unset, .unset, .unset, .unset, .unset, .unset, .unset, .unset, .unset, .unset, .unset, .unset, .unset, .unset, .unset, .unset, .unset]) rfl ?_
      show Steps p.tables e below (T2.setTop (mkF m 37 #[.val (.int p0), .val (.long q1), .second, .val (.long q2), .second, .val (.long q3), .second, .val (.long q4), .second, .val (.long r1), .second, .val (.int t1), .val (.int t2), .unset, .unset, .unset, .unset, .unset, .unset, .unset, .unset, .unset, .unset, .unset, .unset, .unset, .unset, .unset, .unset, .unset, .unset] [])) _
      refine XS.lload X2.here hx rfl (hb hby at_37) rfl ?_
      show Steps p.tables e below (T2.setTop (mkF m 39 #[.val (.int p0), .val (.long q1), .second, .val (.long q2), .second, .val (.long q3), .second, .val (.long q4), .second, .val (.long r1), .second, .val (.int t1), .val (.int t2), .unset, .unset, .unset, .unset, .unset, .unset, .unset, .unset, .unset, .unset, .unset, .unset, .unset, .unset, .unset, .unset, .unset, .unset] [(.long r1)])) _
      refine XS.iload X2.here hx rfl (hb hby at_39) rfl ?_
      show Steps p.tables e below (T2.setTop (mkF m 41 #[.val (.int p0), .val (.long q1), .second, .val (.long q2), .second, .val (.long q3), .second, .val (.long q4), .second, .val (.long r1), .second, .val (.int t1), .val (.int t2), .unset, .unset, .unset, .unset, .unset, .unset, .unset, .unset, .unset, .unset, .unset, .unset, .unset, .unset, .unset, .unset, .unset, .unset] [(.int t2), (.long r1)])) _
      refine XS.i2l X2.here hx rfl (hb hby at_41) rfl ?_
      show Steps p.tables e below (T2.setTop (mkF m 42 #[.val (.int p0), .val (.long q1), .second, .val (.long q2), .second, .val (.long q3), .second, .val (.long q4), .second, .val (.long r1), .second, .val (.int t1), .val (.int t2), .unset, .unset, .unset, .unset, .unset, .unset, .unset, .unset, .unset, .unset, .unset, .unset, .unset, .unset, .unset, .unset, .unset, .unset] [(.long (t2.toInt64)), (.long r1)])) _
      refine XS.lsub X2.here hx rfl (hb hby at_42) rfl ?_
      show Steps p.tables e below (T2.setTop (mkF m 43 #[.val (.int p0), .val (.long q1), .second, .val (.long q2), .second, .val (.long q3), .second, .val (.long q4), .second, .val (.long r1), .second, .val (.int t1), .val (.int t2), .unset, .unset, .unset, .unset, .unset, .unset, .unset, .unset, .unset, .unset, .unset, .unset, .unset, .unset, .unset, .unset, .unset, .unset] [(.long (r1 - (t2.toInt64)))])) _
      rw [← h_r2]
      show Steps p.tables e below (T2.setTop (mkF m 43 #[.val (.int p0), .val (.long q1), .second, .val (.long q2), .second, .val (.long q3), .second, .val (.long q4), .second, .val (.long r1), .second, .val (.int t1), .val (.int t2), .unset, .unset, .unset, .unset, .unset, .unset, .unset, .unset, .unset, .unset, .unset, .unset, .unset, .unset, .unset, .unset, .unset, .unset] [(.long r2)])) _
      refine XS.lstore X2.here hx rfl (hb hby at_43) rfl (l' := #[.val (.int p0), .val (.long q1), .second, .val (.long q2), .second, .val (.long q3), .second, .val (.long q4), .second, .val (.long r2), .second, .val (.int t1), .val (.int t2), .unset, .unset, .unset, .unset, .unset, .unset, .unset, .unset, .unset, .unset, .unset, .unset, .unset, .unset, .unset, .unset, .unset, .unset]) rfl ?_
      show Steps p.tables e below (T2.setTop (mkF m 45 #[.val (.int p0), .val (.long q1), .second, .val (.long q2), .second, .val (.long q3), .second, .val (.long q4), .second, .val (.long r2), .second, .val (.int t1), .val (.int t2), .unset, .unset, .unset, .unset, .unset, .unset, .unset, .unset, .unset, .unset, .unset, .unset, .unset, .unset, .unset, .unset, .unset, .unset] [])) _
      refine XS.lloadN X2.here hx rfl (hb hby at_45) rfl ?_
      show Steps p.tables e below (T2.setTop (mkF m 46 #[.val (.int p0), .val (.long q1), .second, .val (.long q2), .second, .val (.long q3), .second, .val (.long q4), .second, .val (.long r2), .second, .val (.int t1), .val (.int t2), .unset, .unset, .unset, .unset, .unset, .unset, .unset, .unset, .unset, .unset, .unset, .unset, .unset, .unset, .unset, .unset, .unset, .unset] [(.long q2)])) _
      refine XS.l2i X2.here hx rfl (hb hby at_46) rfl ?_
      show Steps p.tables e below (T2.setTop (mkF m 47 #[.val (.int p0), .val (.long q1), .second, .val (.long q2), .second, .val (.long q3), .second, .val (.long q4), .second, .val (.long r2), .second, .val (.int t1), .val (.int t2), .unset, .unset, .unset, .unset, .unset, .unset, .unset, .unset, .unset, .unset, .unset, .unset, .unset, .unset, .unset, .unset, .unset, .unset] [(.int (q2.toInt32))])) _
      refine XS.lload X2.here hx rfl (hb hby at_47) rfl ?_
      show Steps p.tables e below (T2.setTop (mkF m 49 #[.val (.int p0), .val (.long q1), .second, .val (.long q2), .second, .val (.long q3), .second, .val (.long q4), .second, .val (.long r2), .second, .val (.int t1), .val (.int t2), .unset, .unset, .unset, .unset, .unset, .unset, .unset, .unset, .unset, .unset, .unset, .unset, .unset, .unset, .unset, .unset, .unset, .unset] [(.long r2), (.int (q2.toInt32))])) _
      refine st3 _ ?_
      show Steps p.tables e below (T3.setTop (mkF m 52 #[.val (.int p0), .val (.long q1), .second, .val (.long q2), .second, .val (.long q3), .second, .val (.long q4), .second, .val (.long r2), .second, .val (.int t1), .val (.int t2), .unset, .unset, .unset, .unset, .unset, .unset, .unset, .unset, .unset, .unset, .unset, .unset, .unset, .unset, .unset, .unset, .unset, .unset] [(.int (((((q2.toInt32).toInt64) &&& (2147483647 : Int64)) % (r2 + (1 : Int64))).toInt32))])) _
      rw [← h_t3]
      show Steps p.tables e below (T3.setTop (mkF m 52 #[.val (.int p0), .val (.long q1), .second, .val (.long q2), .second, .val (.long q3), .second, .val (.long q4), .second, .val (.long r2), .second, .val (.int t1), .val (.int t2), .unset, .unset, .unset, .unset, .unset, .unset, .unset, .unset, .unset, .unset, .unset, .unset, .unset, .unset, .unset, .unset, .unset, .unset] [(.int t3)])) _
      refine XS.istore X3.here hx rfl (hb hby at_52) rfl (l' := #[.val (.int p0), .val (.long q1), .second, .val (.long q2), .second, .val (.long q3), .second, .val (.long q4), .second, .val (.long r2), .second, .val (.int t1), .val (.int t2), .val (.int t3), .unset, .unset, .unset, .unset, .unset, .unset, .unset, .unset, .unset, .unset, .unset, .unset, .unset, .unset, .unset, .unset, .unset]) rfl ?_
      show Steps p.tables e below (T3.setTop (mkF m 54 #[.val (.int p0), .val (.long q1), .second, .val (.long q2), .second, .val (.long q3), .second, .val (.long q4), .second, .val (.long r2), .second, .val (.int t1), .val (.int t2), .val (.int t3), .unset, .unset, .unset, .unset, .unset, .unset, .unset, .unset, .unset, .unset, .unset, .unset, .unset, .unset, .unset, .unset, .unset] [])) _
      refine XS.lload X3.here hx rfl (hb hby at_54) rfl ?_
      show Steps p.tables e below (T3.setTop (mkF m 56 #[.val (.int p0), .val (.long q1), .second, .val (.long q2), .second, .val (.long q3), .second, .val (.long q4), .second, .val (.long r2), .second, .val (.int t1), .val (.int t2), .val (.int t3), .unset, .unset, .unset, .unset, .unset, .unset, .unset, .unset, .unset, .unset, .unset, .unset, .unset, .unset, .unset, .unset, .unset] [(.long r2)])) _
      refine XS.iload X3.here hx rfl (hb hby at_56) rfl ?_
      show Steps p.tables e below (T3.setTop (mkF m 58 #[.val (.int p0), .val (.long q1), .second, .val (.long q2), .second, .val (.long q3), .second, .val (.long q4), .second, .val (.long r2), .second, .val (.int t1), .val (.int t2), .val (.int t3), .unset, .unset, .unset, .unset, .unset, .unset, .unset, .unset, .unset, .unset, .unset, .unset, .unset, .unset, .unset, .unset, .unset] [(.int t3), (.long r2)])) _
      refine XS.i2l X3.here hx rfl (hb hby at_58) rfl ?_
      show Steps p.tables e below (T3.setTop (mkF m 59 #[.val (.int p0), .val (.long q1), .second, .val (.long q2), .second, .val (.long q3), .second, .val (.long q4), .second, .val (.long r2), .second, .val (.int t1), .val (.int t2), .val (.int t3), .unset, .unset, .unset, .unset, .unset, .unset, .unset, .unset, .unset, .unset, .unset, .unset, .unset, .unset, .unset, .unset, .unset] [(.long (t3.toInt64)), (.long r2)])) _
      refine XS.lsub X3.here hx rfl (hb hby at_59) rfl ?_
      show Steps p.tables e below (T3.setTop (mkF m 60 #[.val (.int p0), .val (.long q1), .second, .val (.long q2), .second, .val (.long q3), .second, .val (.long q4), .second, .val (.long r2), .second, .val (.int t1), .val (.int t2), .val (.int t3), .unset, .unset, .unset, .unset, .unset, .unset, .unset, .unset, .unset, .unset, .unset, .unset, .unset, .unset, .unset, .unset, .unset] [(.long (r2 - (t3.toInt64)))])) _
      rw [← h_r3]
      show Steps p.tables e below (T3.setTop (mkF m 60 #[.val (.int p0), .val (.long q1), .second, .val (.long q2), .second, .val (.long q3), .second, .val (.long q4), .second, .val (.long r2), .second, .val (.int t1), .val (.int t2), .val (.int t3), .unset, .unset, .unset, .unset, .unset, .unset, .unset, .unset, .unset, .unset, .unset, .unset, .unset, .unset, .unset, .unset, .unset] [(.long r3)])) _
      refine XS.lstore X3.here hx rfl (hb hby at_60) rfl (l' := #[.val (.int p0), .val (.long q1), .second, .val (.long q2), .second, .val (.long q3), .second, .val (.long q4), .second, .val (.long r3), .second, .val (.int t1), .val (.int t2), .val (.int t3), .unset, .unset, .unset, .unset, .unset, .unset, .unset, .unset, .unset, .unset, .unset, .unset, .unset, .unset, .unset, .unset, .unset]) rfl ?_
      show Steps p.tables e below (T3.setTop (mkF m 62 #[.val (.int p0), .val (.long q1), .second, .val (.long q2), .second, .val (.long q3), .second, .val (.long q4), .second, .val (.long r3), .second, .val (.int t1), .val (.int t2), .val (.int t3), .unset, .unset, .unset, .unset, .unset, .unset, .unset, .unset, .unset, .unset, .unset, .unset, .unset, .unset, .unset, .unset, .unset] [])) _
      refine XS.lloadN X3.here hx rfl (hb hby at_62) rfl ?_
      show Steps p.tables e below (T3.setTop (mkF m 63 #[.val (.int p0), .val (.long q1), .second, .val (.long q2), .second, .val (.long q3), .second, .val (.long q4), .second, .val (.long r3), .second, .val (.int t1), .val (.int t2), .val (.int t3), .unset, .unset, .unset, .unset, .unset, .unset, .unset, .unset, .unset, .unset, .unset, .unset, .unset, .unset, .unset, .unset, .unset] [(.long q2)])) _
      refine XS.bipush X3.here hx rfl (hb hby at_63) ?_
      show Steps p.tables e below (T3.setTop (mkF m 65 #[.val (.int p0), .val (.long q1), .second, .val (.long q2), .second, .val (.long q3), .second, .val (.long q4), .second, .val (.long r3), .second, .val (.int t1), .val (.int t2), .val (.int t3), .unset, .unset, .unset, .unset, .unset, .unset, .unset, .unset, .unset, .unset, .unset, .unset, .unset, .unset, .unset, .unset, .unset] [(.int (32 : Int32)), (.long q2)])) _
      refine XS.lushr X3.here hx rfl (hb hby at_65) rfl ?_
      show Steps p.tables e below (T3.setTop (mkF m 66 #[.val (.int p0), .val (.long q1), .second, .val (.long q2), .second, .val (.long q3), .second, .val (.long q4), .second, .val (.long r3), .second, .val (.int t1), .val (.int t2), .val (.int t3), .unset, .unset, .unset, .unset, .unset, .unset, .unset, .unset, .unset, .unset, .unset, .unset, .unset, .unset, .unset, .unset, .unset] [(.long ((q2.toUInt64 >>> ((32 : Int32) &&& 0x3f).toInt64.toUInt64).toInt64))])) _
      refine XS.l2i X3.here hx rfl (hb hby at_66) rfl ?_
      show Steps p.tables e below (T3.setTop (mkF m 67 #[.val (.int p0), .val (.long q1), .second, .val (.long q2), .second, .val (.long q3), .second, .val (.long q4), .second, .val (.long r3), .second, .val (.int t1), .val (.int t2), .val (.int t3), .unset, .unset, .unset, .unset, .unset, .unset, .unset, .unset, .unset, .unset, .unset, .unset, .unset, .unset, .unset, .unset, .unset] [(.int (((q2.toUInt64 >>> ((32 : Int32) &&& 0x3f).toInt64.toUInt64).toInt64).toInt32))])) _
      refine XS.lload X3.here hx rfl (hb hby at_67) rfl ?_
      show Steps p.tables e below (T3.setTop (mkF m 69 #[.val (.int p0), .val (.long q1), .second, .val (.long q2), .second, .val (.long q3), .second, .val (.long q4), .second, .val (.long r3), .second, .val (.int t1), .val (.int t2), .val (.int t3), .unset, .unset, .unset, .unset, .unset, .unset, .unset, .unset, .unset, .unset, .unset, .unset, .unset, .unset, .unset, .unset, .unset] [(.long r3), (.int (((q2.toUInt64 >>> ((32 : Int32) &&& 0x3f).toInt64.toUInt64).toInt64).toInt32))])) _
      refine st4 _ ?_
      show Steps p.tables e below (T4.setTop (mkF m 72 #[.val (.int p0), .val (.long q1), .second, .val (.long q2), .second, .val (.long q3), .second, .val (.long q4), .second, .val (.long r3), .second, .val (.int t1), .val (.int t2), .val (.int t3), .unset, .unset, .unset, .unset, .unset, .unset, .unset, .unset, .unset, .unset, .unset, .unset, .unset, .unset, .unset, .unset, .unset] [(.int (((((((q2.toUInt64 >>> ((32 : Int32) &&& 0x3f).toInt64.toUInt64).toInt64).toInt32).toInt64) &&& (2147483647 : Int64)) % (r3 + (1 : Int64))).toInt32))])) _
      rw [← h_t4]
      show Steps p.tables e below (T4.setTop (mkF m 72 #[.val (.int p0), .val (.long q1), .second, .val (.long q2), .second, .val (.long q3), .second, .val (.long q4), .second, .val (.long r3), .second, .val (.int t1), .val (.int t2), .val (.int t3), .unset, .unset, .unset, .unset, .unset, .unset, .unset, .unset, .unset, .unset, .unset, .unset, .unset, .unset, .unset, .unset, .unset] [(.int t4)])) _
      refine XS.istore X4.here hx rfl (hb hby at_72) rfl (l' := #[.val (.int p0), .val (.long q1), .second, .val (.long q2), .second, .val (.long q3), .second, .val (.long q4), .second, .val (.long r3), .second, .val (.int t1), .val (.int t2), .val (.int t3), .val (.int t4), .unset, .unset, .unset, .unset, .unset, .unset, .unset, .unset, .unset, .unset, .unset, .unset, .unset, .unset, .unset, .unset]) rfl ?_
      show Steps p.tables e below (T4.setTop (mkF m 74 #[.val (.int p0), .val (.long q1), .second, .val (.long q2), .second, .val (.long q3), .second, .val (.long q4), .second, .val (.long r3), .second, .val (.int t1), .val (.int t2), .val (.int t3), .val (.int t4), .unset, .unset, .unset, .unset, .unset, .unset, .unset, .unset, .unset, .unset, .unset, .unset, .unset, .unset, .unset, .unset] [])) _
      refine XS.lload X4.here hx rfl (hb hby at_74) rfl ?_
      show Steps p.tables e below (T4.setTop (mkF m 76 #[.val (.int p0), .val (.long q1), .second, .val (.long q2), .second, .val (.long q3), .second, .val (.long q4), .second, .val (.long r3), .second, .val (.int t1), .val (.int t2), .val (.int t3), .val (.int t4), .unset, .unset, .unset, .unset, .unset, .unset, .unset, .unset, .unset, .unset, .unset, .unset, .unset, .unset, .unset, .unset] [(.long r3)])) _
      refine XS.iload X4.here hx rfl (hb hby at_76) rfl ?_
      show Steps p.tables e below (T4.setTop (mkF m 78 #[.val (.int p0), .val (.long q1), .second, .val (.long q2), .second, .val (.long q3), .second, .val (.long q4), .second, .val (.long r3), .second, .val (.int t1), .val (.int t2), .val (.int t3), .val (.int t4), .unset, .unset, .unset, .unset, .unset, .unset, .unset, .unset, .unset, .unset, .unset, .unset, .unset, .unset, .unset, .unset] [(.int t4), (.long r3)])) _
      refine XS.i2l X4.here hx rfl (hb hby at_78) rfl ?_
      show Steps p.tables e below (T4.setTop (mkF m 79 #[.val (.int p0), .val (.long q1), .second, .val (.long q2), .second, .val (.long q3), .second, .val (.long q4), .second, .val (.long r3), .second, .val (.int t1), .val (.int t2), .val (.int t3), .val (.int t4), .unset, .unset, .unset, .unset, .unset, .unset, .unset, .unset, .unset, .unset, .unset, .unset, .unset, .unset, .unset, .unset] [(.long (t4.toInt64)), (.long r3)])) _
      refine XS.lsub X4.here hx rfl (hb hby at_79) rfl ?_
      show Steps p.tables e below (T4.setTop (mkF m 80 #[.val (.int p0), .val (.long q1), .second, .val (.long q2), .second, .val (.long q3), .second, .val (.long q4), .second, .val (.long r3), .second, .val (.int t1), .val (.int t2), .val (.int t3), .val (.int t4), .unset, .unset, .unset, .unset, .unset, .unset, .unset, .unset, .unset, .unset, .unset, .unset, .unset, .unset, .unset, .unset] [(.long (r3 - (t4.toInt64)))])) _
      rw [← h_r4]
      show Steps p.tables e below (T4.setTop (mkF m 80 #[.val (.int p0), .val (.long q1), .second, .val (.long q2), .second, .val (.long q3), .second, .val (.long q4), .second, .val (.long r3), .second, .val (.int t1), .val (.int t2), .val (.int t3), .val (.int t4), .unset, .unset, .unset, .unset, .unset, .unset, .unset, .unset, .unset, .unset, .unset, .unset, .unset, .unset, .unset, .unset] [(.long r4)])) _
      refine XS.lstore X4.here hx rfl (hb hby at_80) rfl (l' := #[.val (.int p0), .val (.long q1), .second, .val (.long q2), .second, .val (.long q3), .second, .val (.long q4), .second, .val (.long r4), .second, .val (.int t1), .val (.int t2), .val (.int t3), .val (.int t4), .unset, .unset, .unset, .unset, .unset, .unset, .unset, .unset, .unset, .unset, .unset, .unset, .unset, .unset, .unset, .unset]) rfl ?_
      show Steps p.tables e below (T4.setTop (mkF m 82 #[.val (.int p0), .val (.long q1), .second, .val (.long q2), .second, .val (.long q3), .second, .val (.long q4), .second, .val (.long r4), .second, .val (.int t1), .val (.int t2), .val (.int t3), .val (.int t4), .unset, .unset, .unset, .unset, .unset, .unset, .unset, .unset, .unset, .unset, .unset, .unset, .unset, .unset, .unset, .unset] [])) _
      refine XS.lload X4.here hx rfl (hb hby at_82) rfl ?_
      show Steps p.tables e below (T4.setTop (mkF m 84 #[.val (.int p0), .val (.long q1), .second, .val (.long q2), .second, .val (.long q3), .second, .val (.long q4), .second, .val (.long r4), .second, .val (.int t1), .val (.int t2), .val (.int t3), .val (.int t4), .unset, .unset, .unset, .unset, .unset, .unset, .unset, .unset, .unset, .unset, .unset, .unset, .unset, .unset, .unset, .unset] [(.long q3)])) _
      refine XS.l2i X4.here hx rfl (hb hby at_84) rfl ?_
      show Steps p.tables e below (T4.setTop (mkF m 85 #[.val (.int p0), .val (.long q1), .second, .val (.long q2), .second, .val (.long q3), .second, .val (.long q4), .second, .val (.long r4), .second, .val (.int t1), .val (.int t2), .val (.int t3), .val (.int t4), .unset, .unset, .unset, .unset, .unset, .unset, .unset, .unset, .unset, .unset, .unset, .unset, .unset, .unset, .unset, .unset] [(.int (q3.toInt32))])) _
      refine XS.lload X4.here hx rfl (hb hby at_85) rfl ?_
      show Steps p.tables e below (T4.setTop (mkF m 87 #[.val (.int p0), .val (.long q1), .second, .val (.long q2), .second, .val (.long q3), .second, .val (.long q4), .second, .val (.long r4), .second, .val (.int t1), .val (.int t2), .val (.int t3), .val (.int t4), .unset, .unset, .unset, .unset, .unset, .unset, .unset, .unset, .unset, .unset, .unset, .unset, .unset, .unset, .unset, .unset] [(.long r4), (.int (q3.toInt32))])) _
      refine st5 _ ?_
      show Steps p.tables e below (T5.setTop (mkF m 90 #[.val (.int p0), .val (.long q1), .second, .val (.long q2), .second, .val (.long q3), .second, .val (.long q4), .second, .val (.long r4), .second, .val (.int t1), .val (.int t2), .val (.int t3), .val (.int t4), .unset, .unset, .unset, .unset, .unset, .unset, .unset, .unset, .unset, .unset, .unset, .unset, .unset, .unset, .unset, .unset] [(.int (((((q3.toInt32).toInt64) &&& (2147483647 : Int64)) % (r4 + (1 : Int64))).toInt32))])) _
      rw [← h_t5]
      show Steps p.tables e below (T5.setTop (mkF m 90 #[.val (.int p0), .val (.long q1), .second, .val (.long q2), .second, .val (.long q3), .second, .val (.long q4), .second, .val (.long r4), .second, .val (.int t1), .val (.int t2), .val (.int t3), .val (.int t4), .unset, .unset, .unset, .unset, .unset, .unset, .unset, .unset, .unset, .unset, .unset, .unset, .unset, .unset, .unset, .unset] [(.int t5)])) _
      refine XS.istore X5.here hx rfl (hb hby at_90) rfl (l' := #[.val (.int p0), .val (.long q1), .second, .val (.long q2), .second, .val (.long q3), .second, .val (.long q4), .second, .val (.long r4), .second, .val (.int t1), .val (.int t2), .val (.int t3), .val (.int t4), .val (.int t5), .unset, .unset, .unset, .unset, .unset, .unset, .unset, .unset, .unset, .unset, .unset, .unset, .unset, .unset, .unset]) rfl ?_
      show Steps p.tables e below (T5.setTop (mkF m 92 #[.val (.int p0), .val (.long q1), .second, .val (.long q2), .second, .val (.long q3), .second, .val (.long q4), .second, .val (.long r4), .second, .val (.int t1), .val (.int t2), .val (.int t3), .val (.int t4), .val (.int t5), .unset, .unset, .unset, .unset, .unset, .unset, .unset, .unset, .unset, .unset, .unset, .unset, .unset, .unset, .unset] [])) _
      refine XS.lload X5.here hx rfl (hb hby at_92) rfl ?_
      show Steps p.tables e below (T5.setTop (mkF m 94 #[.val (.int p0), .val (.long q1), .second, .val (.long q2), .second, .val (.long q3), .second, .val (.long q4), .second, .val (.long r4), .second, .val (.int t1), .val (.int t2), .val (.int t3), .val (.int t4), .val (.int t5), .unset, .unset, .unset, .unset, .unset, .unset, .unset, .unset, .unset, .unset, .unset, .unset, .unset, .unset, .unset] [(.long r4)])) _
      refine XS.iload X5.here hx rfl (hb hby at_94) rfl ?_
      show Steps p.tables e below (T5.setTop (mkF m 96 #[.val (.int p0), .val (.long q1), .second, .val (.long q2), .second, .val (.long q3), .second, .val (.long q4), .second, .val (.long r4), .second, .val (.int t1), .val (.int t2), .val (.int t3), .val (.int t4), .val (.int t5), .unset, .unset, .unset, .unset, .unset, .unset, .unset, .unset, .unset, .unset, .unset, .unset, .unset, .unset, .unset] [(.int t5), (.long r4)])) _
      refine XS.i2l X5.here hx rfl (hb hby at_96) rfl ?_
      show Steps p.tables e below (T5.setTop (mkF m 97 #[.val (.int p0), .val (.long q1), .second, .val (.long q2), .second, .val (.long q3), .second, .val (.long q4), .second, .val (.long r4), .second, .val (.int t1), .val (.int t2), .val (.int t3), .val (.int t4), .val (.int t5), .unset, .unset, .unset, .unset, .unset, .unset, .unset, .unset, .unset, .unset, .unset, .unset, .unset, .unset, .unset] [(.long (t5.toInt64)), (.long r4)])) _
      refine XS.lsub X5.here hx rfl (hb hby at_97) rfl ?_
      show Steps p.tables e below (T5.setTop (mkF m 98 #[.val (.int p0), .val (.long q1), .second, .val (.long q2), .second, .val (.long q3), .second, .val (.long q4), .second, .val (.long r4), .second, .val (.int t1), .val (.int t2), .val (.int t3), .val (.int t4), .val (.int t5), .unset, .unset, .unset, .unset, .unset, .unset, .unset, .unset, .unset, .unset, .unset, .unset, .unset, .unset, .unset] [(.long (r4 - (t5.toInt64)))])) _
      rw [← h_r5]
      show Steps p.tables e below (T5.setTop (mkF m 98 #[.val (.int p0), .val (.long q1), .second, .val (.long q2), .second, .val (.long q3), .second, .val (.long q4), .second, .val (.long r4), .second, .val (.int t1), .val (.int t2), .val (.int t3), .val (.int t4), .val (.int t5), .unset, .unset, .unset, .unset, .unset, .unset, .unset, .unset, .unset, .unset, .unset, .unset, .unset, .unset, .unset] [(.long r5)])) _
      refine XS.lstore X5.here hx rfl (hb hby at_98) rfl (l' := #[.val (.int p0), .val (.long q1), .second, .val (.long q2), .second, .val (.long q3), .second, .val (.long q4), .second, .val (.long r5), .second, .val (.int t1), .val (.int t2), .val (.int t3), .val (.int t4), .val (.int t5), .unset, .unset, .unset, .unset, .unset, .unset, .unset, .unset, .unset, .unset, .unset, .unset, .unset, .unset, .unset]) rfl ?_
      show Steps p.tables e below (T5.setTop (mkF m 100 #[.val (.int p0), .val (.long q1), .second, .val (.long q2), .second, .val (.long q3), .second, .val (.long q4), .second, .val (.long r5), .second, .val (.int t1), .val (.int t2), .val (.int t3), .val (.int t4), .val (.int t5), .unset, .unset, .unset, .unset, .unset, .unset, .unset, .unset, .unset, .unset, .unset, .unset, .unset, .unset, .unset] [])) _
      refine XS.lload X5.here hx rfl (hb hby at_100) rfl ?_
      show Steps p.tables e below (T5.setTop (mkF m 102 #[.val (.int p0), .val (.long q1), .second, .val (.long q2), .second, .val (.long q3), .second, .val (.long q4), .second, .val (.long r5), .second, .val (.int t1), .val (.int t2), .val (.int t3), .val (.int t4), .val (.int t5), .unset, .unset, .unset, .unset, .unset, .unset, .unset, .unset, .unset, .unset, .unset, .unset, .unset, .unset, .unset] [(.long q3)])) _
      refine XS.bipush X5.here hx rfl (hb hby at_102) ?_
      show Steps p.tables e below (T5.setTop (mkF m 104 #[.val (.int p0), .val (.long q1), .second, .val (.long q2), .second, .val (.long q3), .second, .val (.long q4), .second, .val (.long r5), .second, .val (.int t1), .val (.int t2), .val (.int t3), .val (.int t4), .val (.int t5), .unset, .unset, .unset, .unset, .unset, .unset, .unset, .unset, .unset, .unset, .unset, .unset, .unset, .unset, .unset] [(.int (32 : Int32)), (.long q3)])) _
      refine XS.lushr X5.here hx rfl (hb hby at_104) rfl ?_
      show Steps p.tables e below (T5.setTop (mkF m 105 #[.val (.int p0), .val (.long q1), .second, .val (.long q2), .second, .val (.long q3), .second, .val (.long q4), .second, .val (.long r5), .second, .val (.int t1), .val (.int t2), .val (.int t3), .val (.int t4), .val (.int t5), .unset, .unset, .unset, .unset, .unset, .unset, .unset, .unset, .unset, .unset, .unset, .unset, .unset, .unset, .unset] [(.long ((q3.toUInt64 >>> ((32 : Int32) &&& 0x3f).toInt64.toUInt64).toInt64))])) _
      refine XS.l2i X5.here hx rfl (hb hby at_105) rfl ?_
      show Steps p.tables e below (T5.setTop (mkF m 106 #[.val (.int p0), .val (.long q1), .second, .val (.long q2), .second, .val (.long q3), .second, .val (.long q4), .second, .val (.long r5), .second, .val (.int t1), .val (.int t2), .val (.int t3), .val (.int t4), .val (.int t5), .unset, .unset, .unset, .unset, .unset, .unset, .unset, .unset, .unset, .unset, .unset, .unset, .unset, .unset, .unset] [(.int (((q3.toUInt64 >>> ((32 : Int32) &&& 0x3f).toInt64.toUInt64).toInt64).toInt32))])) _
      refine XS.lload X5.here hx rfl (hb hby at_106) rfl ?_
      show Steps p.tables e below (T5.setTop (mkF m 108 #[.val (.int p0), .val (.long q1), .second, .val (.long q2), .second, .val (.long q3), .second, .val (.long q4), .second, .val (.long r5), .second, .val (.int t1), .val (.int t2), .val (.int t3), .val (.int t4), .val (.int t5), .unset, .unset, .unset, .unset, .unset, .unset, .unset, .unset, .unset, .unset, .unset, .unset, .unset, .unset, .unset] [(.long r5), (.int (((q3.toUInt64 >>> ((32 : Int32) &&& 0x3f).toInt64.toUInt64).toInt64).toInt32))])) _
      refine st6 _ ?_
      show Steps p.tables e below (T6.setTop (mkF m 111 #[.val (.int p0), .val (.long q1), .second, .val (.long q2), .second, .val (.long q3), .second, .val (.long q4), .second, .val (.long r5), .second, .val (.int t1), .val (.int t2), .val (.int t3), .val (.int t4), .val (.int t5), .unset, .unset, .unset, .unset, .unset, .unset, .unset, .unset, .unset, .unset, .unset, .unset, .unset, .unset, .unset] [(.int (((((((q3.toUInt64 >>> ((32 : Int32) &&& 0x3f).toInt64.toUInt64).toInt64).toInt32).toInt64) &&& (2147483647 : Int64)) % (r5 + (1 : Int64))).toInt32))])) _
      rw [← h_t6]
      show Steps p.tables e below (T6.setTop (mkF m 111 #[.val (.int p0), .val (.long q1), .second, .val (.long q2), .second, .val (.long q3), .second, .val (.long q4), .second, .val (.long r5), .second, .val (.int t1), .val (.int t2), .val (.int t3), .val (.int t4), .val (.int t5), .unset, .unset, .unset, .unset, .unset, .unset, .unset, .unset, .unset, .unset, .unset, .unset, .unset, .unset, .unset] [(.int t6)])) _
      refine XS.istore X6.here hx rfl (hb hby at_111) rfl (l' := #[.val (.int p0), .val (.long q1), .second, .val (.long q2), .second, .val (.long q3), .second, .val (.long q4), .second, .val (.long r5), .second, .val (.int t1), .val (.int t2), .val (.int t3), .val (.int t4), .val (.int t5), .val (.int t6), .unset, .unset, .unset, .unset, .unset, .unset, .unset, .unset, .unset, .unset, .unset, .unset, .unset, .unset]) rfl ?_
      show Steps p.tables e below (T6.setTop (mkF m 113 #[.val (.int p0), .val (.long q1), .second, .val (.long q2), .second, .val (.long q3), .second, .val (.long q4), .second, .val (.long r5), .second, .val (.int t1), .val (.int t2), .val (.int t3), .val (.int t4), .val (.int t5), .val (.int t6), .unset, .unset, .unset, .unset, .unset, .unset, .unset, .unset, .unset, .unset, .unset, .unset, .unset, .unset] [])) _
      refine XS.lload X6.here hx rfl (hb hby at_113) rfl ?_
      show Steps p.tables e below (T6.setTop (mkF m 115 #[.val (.int p0), .val (.long q1), .second, .val (.long q2), .second, .val (.long q3), .second, .val (.long q4), .second, .val (.long r5), .second, .val (.int t1), .val (.int t2), .val (.int t3), .val (.int t4), .val (.int t5), .val (.int t6), .unset, .unset, .unset, .unset, .unset, .unset, .unset, .unset, .unset, .unset, .unset, .unset, .unset, .unset] [(.long r5)])) _
      refine XS.iload X6.here hx rfl (hb hby at_115) rfl ?_
      show Steps p.tables e below (T6.setTop (mkF m 117 #[.val (.int p0), .val (.long q1), .second, .val (.long q2), .second, .val (.long q3), .second, .val (.long q4), .second, .val (.long r5), .second, .val (.int t1), .val (.int t2), .val (.int t3), .val (.int t4), .val (.int t5), .val (.int t6), .unset, .unset, .unset, .unset, .unset, .unset, .unset, .unset, .unset, .unset, .unset, .unset, .unset, .unset] [(.int t6), (.long r5)])) _
      refine XS.i2l X6.here hx rfl (hb hby at_117) rfl ?_
      show Steps p.tables e below (T6.setTop (mkF m 118 #[.val (.int p0), .val (.long q1), .second, .val (.long q2), .second, .val (.long q3), .second, .val (.long q4), .second, .val (.long r5), .second, .val (.int t1), .val (.int t2), .val (.int t3), .val (.int t4), .val (.int t5), .val (.int t6), .unset, .unset, .unset, .unset, .unset, .unset, .unset, .unset, .unset, .unset, .unset, .unset, .unset, .unset] [(.long (t6.toInt64)), (.long r5)])) _
      refine XS.lsub X6.here hx rfl (hb hby at_118) rfl ?_
      show Steps p.tables e below (T6.setTop (mkF m 119 #[.val (.int p0), .val (.long q1), .second, .val (.long q2), .second, .val (.long q3), .second, .val (.long q4), .second, .val (.long r5), .second, .val (.int t1), .val (.int t2), .val (.int t3), .val (.int t4), .val (.int t5), .val (.int t6), .unset, .unset, .unset, .unset, .unset, .unset, .unset, .unset, .unset, .unset, .unset, .unset, .unset, .unset] [(.long (r5 - (t6.toInt64)))])) _
      rw [← h_r6]
      show Steps p.tables e below (T6.setTop (mkF m 119 #[.val (.int p0), .val (.long q1), .second, .val (.long q2), .second, .val (.long q3), .second, .val (.long q4), .second, .val (.long r5), .second, .val (.int t1), .val (.int t2), .val (.int t3), .val (.int t4), .val (.int t5), .val (.int t6), .unset, .unset, .unset, .unset, .unset, .unset, .unset, .unset, .unset, .unset, .unset, .unset, .unset, .unset] [(.long r6)])) _
      refine XS.lstore X6.here hx rfl (hb hby at_119) rfl (l' := #[.val (.int p0), .val (.long q1), .second, .val (.long q2), .second, .val (.long q3), .second, .val (.long q4), .second, .val (.long r6), .second, .val (.int t1), .val (.int t2), .val (.int t3), .val (.int t4), .val (.int t5), .val (.int t6), .unset, .unset, .unset, .unset, .unset, .unset, .unset, .unset, .unset, .unset, .unset, .unset, .unset, .unset]) rfl ?_
      show Steps p.tables e below (T6.setTop (mkF m 121 #[.val (.int p0), .val (.long q1), .second, .val (.long q2), .second, .val (.long q3), .second, .val (.long q4), .second, .val (.long r6), .second, .val (.int t1), .val (.int t2), .val (.int t3), .val (.int t4), .val (.int t5), .val (.int t6), .unset, .unset, .unset, .unset, .unset, .unset, .unset, .unset, .unset, .unset, .unset, .unset, .unset, .unset] [])) _
      refine XS.lload X6.here hx rfl (hb hby at_121) rfl ?_
      show Steps p.tables e below (T6.setTop (mkF m 123 #[.val (.int p0), .val (.long q1), .second, .val (.long q2), .second, .val (.long q3), .second, .val (.long q4), .second, .val (.long r6), .second, .val (.int t1), .val (.int t2), .val (.int t3), .val (.int t4), .val (.int t5), .val (.int t6), .unset, .unset, .unset, .unset, .unset, .unset, .unset, .unset, .unset, .unset, .unset, .unset, .unset, .unset] [(.long q4)])) _
      refine XS.l2i X6.here hx rfl (hb hby at_123) rfl ?_
      show Steps p.tables e below (T6.setTop (mkF m 124 #[.val (.int p0), .val (.long q1), .second, .val (.long q2), .second, .val (.long q3), .second, .val (.long q4), .second, .val (.long r6), .second, .val (.int t1), .val (.int t2), .val (.int t3), .val (.int t4), .val (.int t5), .val (.int t6), .unset, .unset, .unset, .unset, .unset, .unset, .unset, .unset, .unset, .unset, .unset, .unset, .unset, .unset] [(.int (q4.toInt32))])) _
      refine XS.lload X6.here hx rfl (hb hby at_124) rfl ?_
      show Steps p.tables e below (T6.setTop (mkF m 126 #[.val (.int p0), .val (.long q1), .second, .val (.long q2), .second, .val (.long q3), .second, .val (.long q4), .second, .val (.long r6), .second, .val (.int t1), .val (.int t2), .val (.int t3), .val (.int t4), .val (.int t5), .val (.int t6), .unset, .unset, .unset, .unset, .unset, .unset, .unset, .unset, .unset, .unset, .unset, .unset, .unset, .unset] [(.long r6), (.int (q4.toInt32))])) _
      refine st7 _ ?_
      show Steps p.tables e below (T7.setTop (mkF m 129 #[.val (.int p0), .val (.long q1), .second, .val (.long q2), .second, .val (.long q3), .second, .val (.long q4), .second, .val (.long r6), .second, .val (.int t1), .val (.int t2), .val (.int t3), .val (.int t4), .val (.int t5), .val (.int t6), .unset, .unset, .unset, .unset, .unset, .unset, .unset, .unset, .unset, .unset, .unset, .unset, .unset, .unset] [(.int (((((q4.toInt32).toInt64) &&& (2147483647 : Int64)) % (r6 + (1 : Int64))).toInt32))])) _
      rw [← h_t7]
      show Steps p.tables e below (T7.setTop (mkF m 129 #[.val (.int p0), .val (.long q1), .second, .val (.long q2), .second, .val (.long q3), .second, .val (.long q4), .second, .val (.long r6), .second, .val (.int t1), .val (.int t2), .val (.int t3), .val (.int t4), .val (.int t5), .val (.int t6), .unset, .unset, .unset, .unset, .unset, .unset, .unset, .unset, .unset, .unset, .unset, .unset, .unset, .unset] [(.int t7)])) _
      refine XS.istore X7.here hx rfl (hb hby at_129) rfl (l' := #[.val (.int p0), .val (.long q1), .second, .val (.long q2), .second, .val (.long q3), .second, .val (.long q4), .second, .val (.long r6), .second, .val (.int t1), .val (.int t2), .val (.int t3), .val (.int t4), .val (.int t5), .val (.int t6), .val (.int t7), .unset, .unset, .unset, .unset, .unset, .unset, .unset, .unset, .unset, .unset, .unset, .unset, .unset]) rfl ?_
      show Steps p.tables e below (T7.setTop (mkF m 131 #[.val (.int p0), .val (.long q1), .second, .val (.long q2), .second, .val (.long q3), .second, .val (.long q4), .second, .val (.long r6), .second, .val (.int t1), .val (.int t2), .val (.int t3), .val (.int t4), .val (.int t5), .val (.int t6), .val (.int t7), .unset, .unset, .unset, .unset, .unset, .unset, .unset, .unset, .unset, .unset, .unset, .unset, .unset] [])) _
      refine XS.lload X7.here hx rfl (hb hby at_131) rfl ?_
      show Steps p.tables e below (T7.setTop (mkF m 133 #[.val (.int p0), .val (.long q1), .second, .val (.long q2), .second, .val (.long q3), .second, .val (.long q4), .second, .val (.long r6), .second, .val (.int t1), .val (.int t2), .val (.int t3), .val (.int t4), .val (.int t5), .val (.int t6), .val (.int t7), .unset, .unset, .unset, .unset, .unset, .unset, .unset, .unset, .unset, .unset, .unset, .unset, .unset] [(.long r6)])) _
      refine XS.iload X7.here hx rfl (hb hby at_133) rfl ?_
      show Steps p.tables e below (T7.setTop (mkF m 135 #[.val (.int p0), .val (.long q1), .second, .val (.long q2), .second, .val (.long q3), .second, .val (.long q4), .second, .val (.long r6), .second, .val (.int t1), .val (.int t2), .val (.int t3), .val (.int t4), .val (.int t5), .val (.int t6), .val (.int t7), .unset, .unset, .unset, .unset, .unset, .unset, .unset, .unset, .unset, .unset, .unset, .unset, .unset] [(.int t7), (.long r6)])) _
      refine XS.i2l X7.here hx rfl (hb hby at_135) rfl ?_
      show Steps p.tables e below (T7.setTop (mkF m 136 #[.val (.int p0), .val (.long q1), .second, .val (.long q2), .second, .val (.long q3), .second, .val (.long q4), .second, .val (.long r6), .second, .val (.int t1), .val (.int t2), .val (.int t3), .val (.int t4), .val (.int t5), .val (.int t6), .val (.int t7), .unset, .unset, .unset, .unset, .unset, .unset, .unset, .unset, .unset, .unset, .unset, .unset, .unset] [(.long (t7.toInt64)), (.long r6)])) _
      refine XS.lsub X7.here hx rfl (hb hby at_136) rfl ?_
      show Steps p.tables e below (T7.setTop (mkF m 137 #[.val (.int p0), .val (.long q1), .second, .val (.long q2), .second, .val (.long q3), .second, .val (.long q4), .second, .val (.long r6), .second, .val (.int t1), .val (.int t2), .val (.int t3), .val (.int t4), .val (.int t5), .val (.int t6), .val (.int t7), .unset, .unset, .unset, .unset, .unset, .unset, .unset, .unset, .unset, .unset, .unset, .unset, .unset] [(.long (r6 - (t7.toInt64)))])) _
      rw [← h_r7]
      show Steps p.tables e below (T7.setTop (mkF m 137 #[.val (.int p0), .val (.long q1), .second, .val (.long q2), .second, .val (.long q3), .second, .val (.long q4), .second, .val (.long r6), .second, .val (.int t1), .val (.int t2), .val (.int t3), .val (.int t4), .val (.int t5), .val (.int t6), .val (.int t7), .unset, .unset, .unset, .unset, .unset, .unset, .unset, .unset, .unset, .unset, .unset, .unset, .unset] [(.long r7)])) _
      refine XS.lstore X7.here hx rfl (hb hby at_137) rfl (l' := #[.val (.int p0), .val (.long q1), .second, .val (.long q2), .second, .val (.long q3), .second, .val (.long q4), .second, .val (.long r7), .second, .val (.int t1), .val (.int t2), .val (.int t3), .val (.int t4), .val (.int t5), .val (.int t6), .val (.int t7), .unset, .unset, .unset, .unset, .unset, .unset, .unset, .unset, .unset, .unset, .unset, .unset, .unset]) rfl ?_
      show Steps p.tables e below (T7.setTop (mkF m 139 #[.val (.int p0), .val (.long q1), .second, .val (.long q2), .second, .val (.long q3), .second, .val (.long q4), .second, .val (.long r7), .second, .val (.int t1), .val (.int t2), .val (.int t3), .val (.int t4), .val (.int t5), .val (.int t6), .val (.int t7), .unset, .unset, .unset, .unset, .unset, .unset, .unset, .unset, .unset, .unset, .unset, .unset, .unset] [])) _
      refine XS.lload X7.here hx rfl (hb hby at_139) rfl ?_
      show Steps p.tables e below (T7.setTop (mkF m 141 #[.val (.int p0), .val (.long q1), .second, .val (.long q2), .second, .val (.long q3), .second, .val (.long q4), .second, .val (.long r7), .second, .val (.int t1), .val (.int t2), .val (.int t3), .val (.int t4), .val (.int t5), .val (.int t6), .val (.int t7), .unset, .unset, .unset, .unset, .unset, .unset, .unset, .unset, .unset, .unset, .unset, .unset, .unset] [(.long q4)])) _
      refine XS.bipush X7.here hx rfl (hb hby at_141) ?_
      show Steps p.tables e below (T7.setTop (mkF m 143 #[.val (.int p0), .val (.long q1), .second, .val (.long q2), .second, .val (.long q3), .second, .val (.long q4), .second, .val (.long r7), .second, .val (.int t1), .val (.int t2), .val (.int t3), .val (.int t4), .val (.int t5), .val (.int t6), .val (.int t7), .unset, .unset, .unset, .unset, .unset, .unset, .unset, .unset, .unset, .unset, .unset, .unset, .unset] [(.int (32 : Int32)), (.long q4)])) _
      refine XS.lushr X7.here hx rfl (hb hby at_143) rfl ?_
      show Steps p.tables e below (T7.setTop (mkF m 144 #[.val (.int p0), .val (.long q1), .second, .val (.long q2), .second, .val (.long q3), .second, .val (.long q4), .second, .val (.long r7), .second, .val (.int t1), .val (.int t2), .val (.int t3), .val (.int t4), .val (.int t5), .val (.int t6), .val (.int t7), .unset, .unset, .unset, .unset, .unset, .unset, .unset, .unset, .unset, .unset, .unset, .unset, .unset] [(.long ((q4.toUInt64 >>> ((32 : Int32) &&& 0x3f).toInt64.toUInt64).toInt64))])) _
      refine XS.l2i X7.here hx rfl (hb hby at_144) rfl ?_
      show Steps p.tables e below (T7.setTop (mkF m 145 #[.val (.int p0), .val (.long q1), .second, .val (.long q2), .second, .val (.long q3), .second, .val (.long q4), .second, .val (.long r7), .second, .val (.int t1), .val (.int t2), .val (.int t3), .val (.int t4), .val (.int t5), .val (.int t6), .val (.int t7), .unset, .unset, .unset, .unset, .unset, .unset, .unset, .unset, .unset, .unset, .unset, .unset, .unset] [(.int (((q4.toUInt64 >>> ((32 : Int32) &&& 0x3f).toInt64.toUInt64).toInt64).toInt32))])) _
      refine XS.lload X7.here hx rfl (hb hby at_145) rfl ?_
      show Steps p.tables e below (T7.setTop (mkF m 147 #[.val (.int p0), .val (.long q1), .second, .val (.long q2), .second, .val (.long q3), .second, .val (.long q4), .second, .val (.long r7), .second, .val (.int t1), .val (.int t2), .val (.int t3), .val (.int t4), .val (.int t5), .val (.int t6), .val (.int t7), .unset, .unset, .unset, .unset, .unset, .unset, .unset, .unset, .unset, .unset, .unset, .unset, .unset] [(.long r7), (.int (((q4.toUInt64 >>> ((32 : Int32) &&& 0x3f).toInt64.toUInt64).toInt64).toInt32))])) _
      refine st8 _ ?_
      show Steps p.tables e below (T8.setTop (mkF m 150 #[.val (.int p0), .val (.long q1), .second, .val (.long q2), .second, .val (.long q3), .second, .val (.long q4), .second, .val (.long r7), .second, .val (.int t1), .val (.int t2), .val (.int t3), .val (.int t4), .val (.int t5), .val (.int t6), .val (.int t7), .unset, .unset, .unset, .unset, .unset, .unset, .unset, .unset, .unset, .unset, .unset, .unset, .unset] [(.int (((((((q4.toUInt64 >>> ((32 : Int32) &&& 0x3f).toInt64.toUInt64).toInt64).toInt32).toInt64) &&& (2147483647 : Int64)) % (r7 + (1 : Int64))).toInt32))])) _
      rw [← h_t8]
      show Steps p.tables e below (T8.setTop (mkF m 150 #[.val (.int p0), .val (.long q1), .second, .val (.long q2), .second, .val (.long q3), .second, .val (.long q4), .second, .val (.long r7), .second, .val (.int t1), .val (.int t2), .val (.int t3), .val (.int t4), .val (.int t5), .val (.int t6), .val (.int t7), .unset, .unset, .unset, .unset, .unset, .unset, .unset, .unset, .unset, .unset, .unset, .unset, .unset] [(.int t8)])) _
      refine XS.istore X8.here hx rfl (hb hby at_150) rfl (l' := #[.val (.int p0), .val (.long q1), .second, .val (.long q2), .second, .val (.long q3), .second, .val (.long q4), .second, .val (.long r7), .second, .val (.int t1), .val (.int t2), .val (.int t3), .val (.int t4), .val (.int t5), .val (.int t6), .val (.int t7), .val (.int t8), .unset, .unset, .unset, .unset, .unset, .unset, .unset, .unset, .unset, .unset, .unset, .unset]) rfl ?_
      show Steps p.tables e below (T8.setTop (mkF m 152 #[.val (.int p0), .val (.long q1), .second, .val (.long q2), .second, .val (.long q3), .second, .val (.long q4), .second, .val (.long r7), .second, .val (.int t1), .val (.int t2), .val (.int t3), .val (.int t4), .val (.int t5), .val (.int t6), .val (.int t7), .val (.int t8), .unset, .unset, .unset, .unset, .unset, .unset, .unset, .unset, .unset, .unset, .unset, .unset] [])) _
      refine XS.lload X8.here hx rfl (hb hby at_152) rfl ?_
      show Steps p.tables e below (T8.setTop (mkF m 154 #[.val (.int p0), .val (.long q1), .second, .val (.long q2), .second, .val (.long q3), .second, .val (.long q4), .second, .val (.long r7), .second, .val (.int t1), .val (.int t2), .val (.int t3), .val (.int t4), .val (.int t5), .val (.int t6), .val (.int t7), .val (.int t8), .unset, .unset, .unset, .unset, .unset, .unset, .unset, .unset, .unset, .unset, .unset, .unset] [(.long q4)])) _
      refine XS.bipush X8.here hx rfl (hb hby at_154) ?_
      show Steps p.tables e below (T8.setTop (mkF m 156 #[.val (.int p0), .val (.long q1), .second, .val (.long q2), .second, .val (.long q3), .second, .val (.long q4), .second, .val (.long r7), .second, .val (.int t1), .val (.int t2), .val (.int t3), .val (.int t4), .val (.int t5), .val (.int t6), .val (.int t7), .val (.int t8), .unset, .unset, .unset, .unset, .unset, .unset, .unset, .unset, .unset, .unset, .unset, .unset] [(.int (63 : Int32)), (.long q4)])) _
      refine XS.lushr X8.here hx rfl (hb hby at_156) rfl ?_
      show Steps p.tables e below (T8.setTop (mkF m 157 #[.val (.int p0), .val (.long q1), .second, .val (.long q2), .second, .val (.long q3), .second, .val (.long q4), .second, .val (.long r7), .second, .val (.int t1), .val (.int t2), .val (.int t3), .val (.int t4), .val (.int t5), .val (.int t6), .val (.int t7), .val (.int t8), .unset, .unset, .unset, .unset, .unset, .unset, .unset, .unset, .unset, .unset, .unset, .unset] [(.long ((q4.toUInt64 >>> ((63 : Int32) &&& 0x3f).toInt64.toUInt64).toInt64))])) _
      refine XS.lconst X8.here hx rfl (hb hby at_157) ?_
      show Steps p.tables e below (T8.setTop (mkF m 158 #[.val (.int p0), .val (.long q1), .second, .val (.long q2), .second, .val (.long q3), .second, .val (.long q4), .second, .val (.long r7), .second, .val (.int t1), .val (.int t2), .val (.int t3), .val (.int t4), .val (.int t5), .val (.int t6), .val (.int t7), .val (.int t8), .unset, .unset, .unset, .unset, .unset, .unset, .unset, .unset, .unset, .unset, .unset, .unset] [(.long (1 : Int64)), (.long ((q4.toUInt64 >>> ((63 : Int32) &&& 0x3f).toInt64.toUInt64).toInt64))])) _
      refine XS.land X8.here hx rfl (hb hby at_158) rfl ?_
      show Steps p.tables e below (T8.setTop (mkF m 159 #[.val (.int p0), .val (.long q1), .second, .val (.long q2), .second, .val (.long q3), .second, .val (.long q4), .second, .val (.long r7), .second, .val (.int t1), .val (.int t2), .val (.int t3), .val (.int t4), .val (.int t5), .val (.int t6), .val (.int t7), .val (.int t8), .unset, .unset, .unset, .unset, .unset, .unset, .unset, .unset, .unset, .unset, .unset, .unset] [(.long (((q4.toUInt64 >>> ((63 : Int32) &&& 0x3f).toInt64.toUInt64).toInt64) &&& (1 : Int64)))])) _
      refine XS.lconst X8.here hx rfl (hb hby at_159) ?_
      show Steps p.tables e below (T8.setTop (mkF m 160 #[.val (.int p0), .val (.long q1), .second, .val (.long q2), .second, .val (.long q3), .second, .val (.long q4), .second, .val (.long r7), .second, .val (.int t1), .val (.int t2), .val (.int t3), .val (.int t4), .val (.int t5), .val (.int t6), .val (.int t7), .val (.int t8), .unset, .unset, .unset, .unset, .unset, .unset, .unset, .unset, .unset, .unset, .unset, .unset] [(.long (0 : Int64)), (.long (((q4.toUInt64 >>> ((63 : Int32) &&& 0x3f).toInt64.toUInt64).toInt64) &&& (1 : Int64)))])) _
      refine XS.lcmp X8.here hx rfl (hb hby at_160) rfl ?_
      show Steps p.tables e below (T8.setTop (mkF m 161 #[.val (.int p0), .val (.long q1), .second, .val (.long q2), .second, .val (.long q3), .second, .val (.long q4), .second, .val (.long r7), .second, .val (.int t1), .val (.int t2), .val (.int t3), .val (.int t4), .val (.int t5), .val (.int t6), .val (.int t7), .val (.int t8), .unset, .unset, .unset, .unset, .unset, .unset, .unset, .unset, .unset, .unset, .unset, .unset] [(.int (lcmpW (((q4.toUInt64 >>> ((63 : Int32) &&& 0x3f).toInt64.toUInt64).toInt64) &&& (1 : Int64)) (0 : Int64)))])) _
      refine XS.ifNo X8.here hx rfl (hb hby at_161) rfl ((if0 _ _).trans (feq (mt (lw_eq _ _).mp hc161)).1) ?_
      show Steps p.tables e below (T8.setTop (mkF m 164 #[.val (.int p0), .val (.long q1), .second, .val (.long q2), .second, .val (.long q3), .second, .val (.long q4), .second, .val (.long r7), .second, .val (.int t1), .val (.int t2), .val (.int t3), .val (.int t4), .val (.int t5), .val (.int t6), .val (.int t7), .val (.int t8), .unset, .unset, .unset, .unset, .unset, .unset, .unset, .unset, .unset, .unset, .unset, .unset] [])) _
      refine XS.iconst X8.here hx rfl (hb hby at_164) ?_
      show Steps p.tables e below (T8.setTop (mkF m 165 #[.val (.int p0), .val (.long q1), .second, .val (.long q2), .second, .val (.long q3), .second, .val (.long q4), .second, .val (.long r7), .second, .val (.int t1), .val (.int t2), .val (.int t3), .val (.int t4), .val (.int t5), .val (.int t6), .val (.int t7), .val (.int t8), .unset, .unset, .unset, .unset, .unset, .unset, .unset, .unset, .unset, .unset, .unset, .unset] [(.int (1 : Int32))])) _
      refine XS.goto X8.here hx rfl (pc0 := 165) (pc' := 169) rfl (hb hby at_165) (by decide) (by decide) ?_
      show Steps p.tables e below (T8.setTop (mkF m 169 #[.val (.int p0), .val (.long q1), .second, .val (.long q2), .second, .val (.long q3), .second, .val (.long q4), .second, .val (.long r7), .second, .val (.int t1), .val (.int t2), .val (.int t3), .val (.int t4), .val (.int t5), .val (.int t6), .val (.int t7), .val (.int t8), .unset, .unset, .unset, .unset, .unset, .unset, .unset, .unset, .unset, .unset, .unset, .unset] [(.int (1 : Int32))])) _
      refine XS.istore X8.here hx rfl (hb hby at_169) rfl (l' := #[.val (.int p0), .val (.long q1), .second, .val (.long q2), .second, .val (.long q3), .second, .val (.long q4), .second, .val (.long r7), .second, .val (.int t1), .val (.int t2), .val (.int t3), .val (.int t4), .val (.int t5), .val (.int t6), .val (.int t7), .val (.int t8), .val (.int (1 : Int32)), .unset, .unset, .unset, .unset, .unset, .unset, .unset, .unset, .unset, .unset, .unset]) rfl ?_
      show Steps p.tables e below (T8.setTop (mkF m 171 #[.val (.int p0), .val (.long q1), .second, .val (.long q2), .second, .val (.long q3), .second, .val (.long q4), .second, .val (.long r7), .second, .val (.int t1), .val (.int t2), .val (.int t3), .val (.int t4), .val (.int t5), .val (.int t6), .val (.int t7), .val (.int t8), .val (.int (1 : Int32)), .unset, .unset, .unset, .unset, .unset, .unset, .unset, .unset, .unset, .unset, .unset] [])) _
      refine st18 _ ?_
      show Steps p.tables e below (T18.setTop (mkF m 174 #[.val (.int p0), .val (.long q1), .second, .val (.long q2), .second, .val (.long q3), .second, .val (.long q4), .second, .val (.long r7), .second, .val (.int t1), .val (.int t2), .val (.int t3), .val (.int t4), .val (.int t5), .val (.int t6), .val (.int t7), .val (.int t8), .val (.int (1 : Int32)), .unset, .unset, .unset, .unset, .unset, .unset, .unset, .unset, .unset, .unset, .unset] [(.ref tx)])) _
      refine XS.dup X18.here hx rfl (hb hby at_174) rfl rfl ?_
      show Steps p.tables e below (T18.setTop (mkF m 175 #[.val (.int p0), .val (.long q1), .second, .val (.long q2), .second, .val (.long q3), .second, .val (.long q4), .second, .val (.long r7), .second, .val (.int t1), .val (.int t2), .val (.int t3), .val (.int t4), .val (.int t5), .val (.int t6), .val (.int t7), .val (.int t8), .val (.int (1 : Int32)), .unset, .unset, .unset, .unset, .unset, .unset, .unset, .unset, .unset, .unset, .unset] [(.ref tx), (.ref tx)])) _
      refine XS.iload X18.here hx rfl (hb hby at_175) rfl ?_
      show Steps p.tables e below (T18.setTop (mkF m 177 #[.val (.int p0), .val (.long q1), .second, .val (.long q2), .second, .val (.long q3), .second, .val (.long q4), .second, .val (.long r7), .second, .val (.int t1), .val (.int t2), .val (.int t3), .val (.int t4), .val (.int t5), .val (.int t6), .val (.int t7), .val (.int t8), .val (.int (1 : Int32)), .unset, .unset, .unset, .unset, .unset, .unset, .unset, .unset, .unset, .unset, .unset] [(.int t1), (.ref tx), (.ref tx)])) _
      refine XS.iload X18.here hx rfl (hb hby at_177) rfl ?_
      show Steps p.tables e below (T18.setTop (mkF m 179 #[.val (.int p0), .val (.long q1), .second, .val (.long q2), .second, .val (.long q3), .second, .val (.long q4), .second, .val (.long r7), .second, .val (.int t1), .val (.int t2), .val (.int t3), .val (.int t4), .val (.int t5), .val (.int t6), .val (.int t7), .val (.int t8), .val (.int (1 : Int32)), .unset, .unset, .unset, .unset, .unset, .unset, .unset, .unset, .unset, .unset, .unset] [(.int t2), (.int t1), (.ref tx), (.ref tx)])) _
      refine XS.iload X18.here hx rfl (hb hby at_179) rfl ?_
      show Steps p.tables e below (T18.setTop (mkF m 181 #[.val (.int p0), .val (.long q1), .second, .val (.long q2), .second, .val (.long q3), .second, .val (.long q4), .second, .val (.long r7), .second, .val (.int t1), .val (.int t2), .val (.int t3), .val (.int t4), .val (.int t5), .val (.int t6), .val (.int t7), .val (.int t8), .val (.int (1 : Int32)), .unset, .unset, .unset, .unset, .unset, .unset, .unset, .unset, .unset, .unset, .unset] [(.int t3), (.int t2), (.int t1), (.ref tx), (.ref tx)])) _
      refine XS.iload X18.here hx rfl (hb hby at_181) rfl ?_
      show Steps p.tables e below (T18.setTop (mkF m 183 #[.val (.int p0), .val (.long q1), .second, .val (.long q2), .second, .val (.long q3), .second, .val (.long q4), .second, .val (.long r7), .second, .val (.int t1), .val (.int t2), .val (.int t3), .val (.int t4), .val (.int t5), .val (.int t6), .val (.int t7), .val (.int t8), .val (.int (1 : Int32)), .unset, .unset, .unset, .unset, .unset, .unset, .unset, .unset, .unset, .unset, .unset] [(.int t4), (.int t3), (.int t2), (.int t1), (.ref tx), (.ref tx)])) _
      refine st19.trans ?_
      show Steps p.tables e below (T19.setTop (mkF m 186 #[.val (.int p0), .val (.long q1), .second, .val (.long q2), .second, .val (.long q3), .second, .val (.long q4), .second, .val (.long r7), .second, .val (.int t1), .val (.int t2), .val (.int t3), .val (.int t4), .val (.int t5), .val (.int t6), .val (.int t7), .val (.int t8), .val (.int (1 : Int32)), .unset, .unset, .unset, .unset, .unset, .unset, .unset, .unset, .unset, .unset, .unset] [(.ref tx)])) _
      refine XS.astore X19.here hx rfl (hb hby at_186) rfl rfl (l' := #[.val (.int p0), .val (.long q1), .second, .val (.long q2), .second, .val (.long q3), .second, .val (.long q4), .second, .val (.long r7), .second, .val (.int t1), .val (.int t2), .val (.int t3), .val (.int t4), .val (.int t5), .val (.int t6), .val (.int t7), .val (.int t8), .val (.int (1 : Int32)), .val (.ref tx), .unset, .unset, .unset, .unset, .unset, .unset, .unset, .unset, .unset, .unset]) rfl ?_
      show Steps p.tables e below (T19.setTop (mkF m 188 #[.val (.int p0), .val (.long q1), .second, .val (.long q2), .second, .val (.long q3), .second, .val (.long q4), .second, .val (.long r7), .second, .val (.int t1), .val (.int t2), .val (.int t3), .val (.int t4), .val (.int t5), .val (.int t6), .val (.int t7), .val (.int t8), .val (.int (1 : Int32)), .val (.ref tx), .unset, .unset, .unset, .unset, .unset, .unset, .unset, .unset, .unset, .unset] [])) _
      refine st20 _ ?_
      show Steps p.tables e below (T20.setTop (mkF m 191 #[.val (.int p0), .val (.long q1), .second, .val (.long q2), .second, .val (.long q3), .second, .val (.long q4), .second, .val (.long r7), .second, .val (.int t1), .val (.int t2), .val (.int t3), .val (.int t4), .val (.int t5), .val (.int t6), .val (.int t7), .val (.int t8), .val (.int (1 : Int32)), .val (.ref tx), .unset, .unset, .unset, .unset, .unset, .unset, .unset, .unset, .unset, .unset] [(.ref tz)])) _
      refine XS.dup X20.here hx rfl (hb hby at_191) rfl rfl ?_
      show Steps p.tables e below (T20.setTop (mkF m 192 #[.val (.int p0), .val (.long q1), .second, .val (.long q2), .second, .val (.long q3), .second, .val (.long q4), .second, .val (.long r7), .second, .val (.int t1), .val (.int t2), .val (.int t3), .val (.int t4), .val (.int t5), .val (.int t6), .val (.int t7), .val (.int t8), .val (.int (1 : Int32)), .val (.ref tx), .unset, .unset, .unset, .unset, .unset, .unset, .unset, .unset, .unset, .unset] [(.ref tz), (.ref tz)])) _
      refine XS.iload X20.here hx rfl (hb hby at_192) rfl ?_
      show Steps p.tables e below (T20.setTop (mkF m 194 #[.val (.int p0), .val (.long q1), .second, .val (.long q2), .second, .val (.long q3), .second, .val (.long q4), .second, .val (.long r7), .second, .val (.int t1), .val (.int t2), .val (.int t3), .val (.int t4), .val (.int t5), .val (.int t6), .val (.int t7), .val (.int t8), .val (.int (1 : Int32)), .val (.ref tx), .unset, .unset, .unset, .unset, .unset, .unset, .unset, .unset, .unset, .unset] [(.int t5), (.ref tz), (.ref tz)])) _
      refine XS.iload X20.here hx rfl (hb hby at_194) rfl ?_
      show Steps p.tables e below (T20.setTop (mkF m 196 #[.val (.int p0), .val (.long q1), .second, .val (.long q2), .second, .val (.long q3), .second, .val (.long q4), .second, .val (.long r7), .second, .val (.int t1), .val (.int t2), .val (.int t3), .val (.int t4), .val (.int t5), .val (.int t6), .val (.int t7), .val (.int t8), .val (.int (1 : Int32)), .val (.ref tx), .unset, .unset, .unset, .unset, .unset, .unset, .unset, .unset, .unset, .unset] [(.int t6), (.int t5), (.ref tz), (.ref tz)])) _
      refine XS.iload X20.here hx rfl (hb hby at_196) rfl ?_
      show Steps p.tables e below (T20.setTop (mkF m 198 #[.val (.int p0), .val (.long q1), .second, .val (.long q2), .second, .val (.long q3), .second, .val (.long q4), .second, .val (.long r7), .second, .val (.int t1), .val (.int t2), .val (.int t3), .val (.int t4), .val (.int t5), .val (.int t6), .val (.int t7), .val (.int t8), .val (.int (1 : Int32)), .val (.ref tx), .unset, .unset, .unset, .unset, .unset, .unset, .unset, .unset, .unset, .unset] [(.int t7), (.int t6), (.int t5), (.ref tz), (.ref tz)])) _
      refine XS.iload X20.here hx rfl (hb hby at_198) rfl ?_
      show Steps p.tables e below (T20.setTop (mkF m 200 #[.val (.int p0), .val (.long q1), .second, .val (.long q2), .second, .val (.long q3), .second, .val (.long q4), .second, .val (.long r7), .second, .val (.int t1), .val (.int t2), .val (.int t3), .val (.int t4), .val (.int t5), .val (.int t6), .val (.int t7), .val (.int t8), .val (.int (1 : Int32)), .val (.ref tx), .unset, .unset, .unset, .unset, .unset, .unset, .unset, .unset, .unset, .unset] [(.int t8), (.int t7), (.int t6), (.int t5), (.ref tz), (.ref tz)])) _
      refine st21.trans ?_
      show Steps p.tables e below (T21.setTop (mkF m 203 #[.val (.int p0), .val (.long q1), .second, .val (.long q2), .second, .val (.long q3), .second, .val (.long q4), .second, .val (.long r7), .second, .val (.int t1), .val (.int t2), .val (.int t3), .val (.int t4), .val (.int t5), .val (.int t6), .val (.int t7), .val (.int t8), .val (.int (1 : Int32)), .val (.ref tx), .unset, .unset, .unset, .unset, .unset, .unset, .unset, .unset, .unset, .unset] [(.ref tz)])) _
      refine XS.astore X21.here hx rfl (hb hby at_203) rfl rfl (l' := #[.val (.int p0), .val (.long q1), .second, .val (.long q2), .second, .val (.long q3), .second, .val (.long q4), .second, .val (.long r7), .second, .val (.int t1), .val (.int t2), .val (.int t3), .val (.int t4), .val (.int t5), .val (.int t6), .val (.int t7), .val (.int t8), .val (.int (1 : Int32)), .val (.ref tx), .val (.ref tz), .unset, .unset, .unset, .unset, .unset, .unset, .unset, .unset, .unset]) rfl ?_
      show Steps p.tables e below (T21.setTop (mkF m 205 #[.val (.int p0), .val (.long q1), .second, .val (.long q2), .second, .val (.long q3), .second, .val (.long q4), .second, .val (.long r7), .second, .val (.int t1), .val (.int t2), .val (.int t3), .val (.int t4), .val (.int t5), .val (.int t6), .val (.int t7), .val (.int t8), .val (.int (1 : Int32)), .val (.ref tx), .val (.ref tz), .unset, .unset, .unset, .unset, .unset, .unset, .unset, .unset, .unset] [])) _
      refine XS.iload X21.here hx rfl (hb hby at_205) rfl ?_
      show Steps p.tables e below (T21.setTop (mkF m 207 #[.val (.int p0), .val (.long q1), .second, .val (.long q2), .second, .val (.long q3), .second, .val (.long q4), .second, .val (.long r7), .second, .val (.int t1), .val (.int t2), .val (.int t3), .val (.int t4), .val (.int t5), .val (.int t6), .val (.int t7), .val (.int t8), .val (.int (1 : Int32)), .val (.ref tx), .val (.ref tz), .unset, .unset, .unset, .unset, .unset, .unset, .unset, .unset, .unset] [(.int (1 : Int32))])) _
      refine XS.ifNo X21.here hx rfl (hb hby at_207) rfl ((if0 _ _).trans (feq (by decide : ¬ ((1 : Int32) = (0 : Int32)))).1) ?_
      show Steps p.tables e below (T21.setTop (mkF m 210 #[.val (.int p0), .val (.long q1), .second, .val (.long q2), .second, .val (.long q3), .second, .val (.long q4), .second, .val (.long r7), .second, .val (.int t1), .val (.int t2), .val (.int t3), .val (.int t4), .val (.int t5), .val (.int t6), .val (.int t7), .val (.int t8), .val (.int (1 : Int32)), .val (.ref tx), .val (.ref tz), .unset, .unset, .unset, .unset, .unset, .unset, .unset, .unset, .unset] [])) _
      refine XS.aload X21.here hx rfl (hb hby at_210) rfl rfl ?_
      show Steps p.tables e below (T21.setTop (mkF m 212 #[.val (.int p0), .val (.long q1), .second, .val (.long q2), .second, .val (.long q3), .second, .val (.long q4), .second, .val (.long r7), .second, .val (.int t1), .val (.int t2), .val (.int t3), .val (.int t4), .val (.int t5), .val (.int t6), .val (.int t7), .val (.int t8), .val (.int (1 : Int32)), .val (.ref tx), .val (.ref tz), .unset, .unset, .unset, .unset, .unset, .unset, .unset, .unset, .unset] [(.ref tz)])) _
      refine XS.aload X21.here hx rfl (hb hby at_212) rfl rfl ?_
      show Steps p.tables e below (T21.setTop (mkF m 214 #[.val (.int p0), .val (.long q1), .second, .val (.long q2), .second, .val (.long q3), .second, .val (.long q4), .second, .val (.long r7), .second, .val (.int t1), .val (.int t2), .val (.int t3), .val (.int t4), .val (.int t5), .val (.int t6), .val (.int t7), .val (.int t8), .val (.int (1 : Int32)), .val (.ref tx), .val (.ref tz), .unset, .unset, .unset, .unset, .unset, .unset, .unset, .unset, .unset] [(.ref tx), (.ref tz)])) _
      refine st22.trans ?_
      show Steps p.tables e below (T22.setTop (mkF m 217 #[.val (.int p0), .val (.long q1), .second, .val (.long q2), .second, .val (.long q3), .second, .val (.long q4), .second, .val (.long r7), .second, .val (.int t1), .val (.int t2), .val (.int t3), .val (.int t4), .val (.int t5), .val (.int t6), .val (.int t7), .val (.int t8), .val (.int (1 : Int32)), .val (.ref tx), .val (.ref tz), .unset, .unset, .unset, .unset, .unset, .unset, .unset, .unset, .unset] [(.ref b22)])) _
      refine XS.astore X22.here hx rfl (hb hby at_217) rfl rfl (l' := #[.val (.int p0), .val (.long q1), .second, .val (.long q2), .second, .val (.long q3), .second, .val (.long q4), .second, .val (.long r7), .second, .val (.int t1), .val (.int t2), .val (.int t3), .val (.int t4), .val (.int t5), .val (.int t6), .val (.int t7), .val (.int t8), .val (.int (1 : Int32)), .val (.ref tx), .val (.ref tz), .val (.ref b22), .unset, .unset, .unset, .unset, .unset, .unset, .unset, .unset]) rfl ?_
      show Steps p.tables e below (T22.setTop (mkF m 219 #[.val (.int p0), .val (.long q1), .second, .val (.long q2), .second, .val (.long q3), .second, .val (.long q4), .second, .val (.long r7), .second, .val (.int t1), .val (.int t2), .val (.int t3), .val (.int t4), .val (.int t5), .val (.int t6), .val (.int t7), .val (.int t8), .val (.int (1 : Int32)), .val (.ref tx), .val (.ref tz), .val (.ref b22), .unset, .unset, .unset, .unset, .unset, .unset, .unset, .unset] [])) _
      refine XS.goto X22.here hx rfl (pc0 := 219) (pc' := 231) rfl (hb hby at_219) (by decide) (by decide) ?_
      show Steps p.tables e below (T22.setTop (mkF m 231 #[.val (.int p0), .val (.long q1), .second, .val (.long q2), .second, .val (.long q3), .second, .val (.long q4), .second, .val (.long r7), .second, .val (.int t1), .val (.int t2), .val (.int t3), .val (.int t4), .val (.int t5), .val (.int t6), .val (.int t7), .val (.int t8), .val (.int (1 : Int32)), .val (.ref tx), .val (.ref tz), .val (.ref b22), .unset, .unset, .unset, .unset, .unset, .unset, .unset, .unset] [])) _
      refine XS.iload X22.here hx rfl (hb hby at_231) rfl ?_
      show Steps p.tables e below (T22.setTop (mkF m 233 #[.val (.int p0), .val (.long q1), .second, .val (.long q2), .second, .val (.long q3), .second, .val (.long q4), .second, .val (.long r7), .second, .val (.int t1), .val (.int t2), .val (.int t3), .val (.int t4), .val (.int t5), .val (.int t6), .val (.int t7), .val (.int t8), .val (.int (1 : Int32)), .val (.ref tx), .val (.ref tz), .val (.ref b22), .unset, .unset, .unset, .unset, .unset, .unset, .unset, .unset] [(.int t1)])) _
      refine XS.i2l X22.here hx rfl (hb hby at_233) rfl ?_
      show Steps p.tables e below (T22.setTop (mkF m 234 #[.val (.int p0), .val (.long q1), .second, .val (.long q2), .second, .val (.long q3), .second, .val (.long q4), .second, .val (.long r7), .second, .val (.int t1), .val (.int t2), .val (.int t3), .val (.int t4), .val (.int t5), .val (.int t6), .val (.int t7), .val (.int t8), .val (.int (1 : Int32)), .val (.ref tx), .val (.ref tz), .val (.ref b22), .unset, .unset, .unset, .unset, .unset, .unset, .unset, .unset] [(.long (t1.toInt64))])) _
      refine XS.iload X22.here hx rfl (hb hby at_234) rfl ?_
      show Steps p.tables e below (T22.setTop (mkF m 236 #[.val (.int p0), .val (.long q1), .second, .val (.long q2), .second, .val (.long q3), .second, .val (.long q4), .second, .val (.long r7), .second, .val (.int t1), .val (.int t2), .val (.int t3), .val (.int t4), .val (.int t5), .val (.int t6), .val (.int t7), .val (.int t8), .val (.int (1 : Int32)), .val (.ref tx), .val (.ref tz), .val (.ref b22), .unset, .unset, .unset, .unset, .unset, .unset, .unset, .unset] [(.int t5), (.long (t1.toInt64))])) _
      refine XS.i2l X22.here hx rfl (hb hby at_236) rfl ?_
      show Steps p.tables e below (T22.setTop (mkF m 237 #[.val (.int p0), .val (.long q1), .second, .val (.long q2), .second, .val (.long q3), .second, .val (.long q4), .second, .val (.long r7), .second, .val (.int t1), .val (.int t2), .val (.int t3), .val (.int t4), .val (.int t5), .val (.int t6), .val (.int t7), .val (.int t8), .val (.int (1 : Int32)), .val (.ref tx), .val (.ref tz), .val (.ref b22), .unset, .unset, .unset, .unset, .unset, .unset, .unset, .unset] [(.long (t5.toInt64)), (.long (t1.toInt64))])) _
      refine XS.ladd X22.here hx rfl (hb hby at_237) rfl ?_
      show Steps p.tables e below (T22.setTop (mkF m 238 #[.val (.int p0), .val (.long q1), .second, .val (.long q2), .second, .val (.long q3), .second, .val (.long q4), .second, .val (.long r7), .second, .val (.int t1), .val (.int t2), .val (.int t3), .val (.int t4), .val (.int t5), .val (.int t6), .val (.int t7), .val (.int t8), .val (.int (1 : Int32)), .val (.ref tx), .val (.ref tz), .val (.ref b22), .unset, .unset, .unset, .unset, .unset, .unset, .unset, .unset] [(.long ((t1.toInt64) + (t5.toInt64)))])) _
      refine XS.lstore X22.here hx rfl (hb hby at_238) rfl (l' := #[.val (.int p0), .val (.long q1), .second, .val (.long q2), .second, .val (.long q3), .second, .val (.long q4), .second, .val (.long r7), .second, .val (.int t1), .val (.int t2), .val (.int t3), .val (.int t4), .val (.int t5), .val (.int t6), .val (.int t7), .val (.int t8), .val (.int (1 : Int32)), .val (.ref tx), .val (.ref tz), .val (.ref b22), .val (.long ((t1.toInt64) + (t5.toInt64))), .second, .unset, .unset, .unset, .unset, .unset, .unset]) rfl ?_
      show Steps p.tables e below (T22.setTop (mkF m 240 #[.val (.int p0), .val (.long q1), .second, .val (.long q2), .second, .val (.long q3), .second, .val (.long q4), .second, .val (.long r7), .second, .val (.int t1), .val (.int t2), .val (.int t3), .val (.int t4), .val (.int t5), .val (.int t6), .val (.int t7), .val (.int t8), .val (.int (1 : Int32)), .val (.ref tx), .val (.ref tz), .val (.ref b22), .val (.long ((t1.toInt64) + (t5.toInt64))), .second, .unset, .unset, .unset, .unset, .unset, .unset] [])) _
      refine XS.iload X22.here hx rfl (hb hby at_240) rfl ?_
      show Steps p.tables e below (T22.setTop (mkF m 242 #[.val (.int p0), .val (.long q1), .second, .val (.long q2), .second, .val (.long q3), .second, .val (.long q4), .second, .val (.long r7), .second, .val (.int t1), .val (.int t2), .val (.int t3), .val (.int t4), .val (.int t5), .val (.int t6), .val (.int t7), .val (.int t8), .val (.int (1 : Int32)), .val (.ref tx), .val (.ref tz), .val (.ref b22), .val (.long ((t1.toInt64) + (t5.toInt64))), .second, .unset, .unset, .unset, .unset, .unset, .unset] [(.int t2)])) _
      refine XS.i2l X22.here hx rfl (hb hby at_242) rfl ?_
      show Steps p.tables e below (T22.setTop (mkF m 243 #[.val (.int p0), .val (.long q1), .second, .val (.long q2), .second, .val (.long q3), .second, .val (.long q4), .second, .val (.long r7), .second, .val (.int t1), .val (.int t2), .val (.int t3), .val (.int t4), .val (.int t5), .val (.int t6), .val (.int t7), .val (.int t8), .val (.int (1 : Int32)), .val (.ref tx), .val (.ref tz), .val (.ref b22), .val (.long ((t1.toInt64) + (t5.toInt64))), .second, .unset, .unset, .unset, .unset, .unset, .unset] [(.long (t2.toInt64))])) _
      refine XS.iload X22.here hx rfl (hb hby at_243) rfl ?_
      show Steps p.tables e below (T22.setTop (mkF m 245 #[.val (.int p0), .val (.long q1), .second, .val (.long q2), .second, .val (.long q3), .second, .val (.long q4), .second, .val (.long r7), .second, .val (.int t1), .val (.int t2), .val (.int t3), .val (.int t4), .val (.int t5), .val (.int t6), .val (.int t7), .val (.int t8), .val (.int (1 : Int32)), .val (.ref tx), .val (.ref tz), .val (.ref b22), .val (.long ((t1.toInt64) + (t5.toInt64))), .second, .unset, .unset, .unset, .unset, .unset, .unset] [(.int t6), (.long (t2.toInt64))])) _
      refine XS.i2l X22.here hx rfl (hb hby at_245) rfl ?_
      show Steps p.tables e below (T22.setTop (mkF m 246 #[.val (.int p0), .val (.long q1), .second, .val (.long q2), .second, .val (.long q3), .second, .val (.long q4), .second, .val (.long r7), .second, .val (.int t1), .val (.int t2), .val (.int t3), .val (.int t4), .val (.int t5), .val (.int t6), .val (.int t7), .val (.int t8), .val (.int (1 : Int32)), .val (.ref tx), .val (.ref tz), .val (.ref b22), .val (.long ((t1.toInt64) + (t5.toInt64))), .second, .unset, .unset, .unset, .unset, .unset, .unset] [(.long (t6.toInt64)), (.long (t2.toInt64))])) _
      refine XS.ladd X22.here hx rfl (hb hby at_246) rfl ?_
      show Steps p.tables e below (T22.setTop (mkF m 247 #[.val (.int p0), .val (.long q1), .second, .val (.long q2), .second, .val (.long q3), .second, .val (.long q4), .second, .val (.long r7), .second, .val (.int t1), .val (.int t2), .val (.int t3), .val (.int t4), .val (.int t5), .val (.int t6), .val (.int t7), .val (.int t8), .val (.int (1 : Int32)), .val (.ref tx), .val (.ref tz), .val (.ref b22), .val (.long ((t1.toInt64) + (t5.toInt64))), .second, .unset, .unset, .unset, .unset, .unset, .unset] [(.long ((t2.toInt64) + (t6.toInt64)))])) _
      refine XS.lstore X22.here hx rfl (hb hby at_247) rfl (l' := #[.val (.int p0), .val (.long q1), .second, .val (.long q2), .second, .val (.long q3), .second, .val (.long q4), .second, .val (.long r7), .second, .val (.int t1), .val (.int t2), .val (.int t3), .val (.int t4), .val (.int t5), .val (.int t6), .val (.int t7), .val (.int t8), .val (.int (1 : Int32)), .val (.ref tx), .val (.ref tz), .val (.ref b22), .val (.long ((t1.toInt64) + (t5.toInt64))), .second, .val (.long ((t2.toInt64) + (t6.toInt64))), .second, .unset, .unset, .unset, .unset]) rfl ?_
      show Steps p.tables e below (T22.setTop (mkF m 249 #[.val (.int p0), .val (.long q1), .second, .val (.long q2), .second, .val (.long q3), .second, .val (.long q4), .second, .val (.long r7), .second, .val (.int t1), .val (.int t2), .val (.int t3), .val (.int t4), .val (.int t5), .val (.int t6), .val (.int t7), .val (.int t8), .val (.int (1 : Int32)), .val (.ref tx), .val (.ref tz), .val (.ref b22), .val (.long ((t1.toInt64) + (t5.toInt64))), .second, .val (.long ((t2.toInt64) + (t6.toInt64))), .second, .unset, .unset, .unset, .unset] [])) _
      refine XS.iload X22.here hx rfl (hb hby at_249) rfl ?_
      show Steps p.tables e below (T22.setTop (mkF m 251 #[.val (.int p0), .val (.long q1), .second, .val (.long q2), .second, .val (.long q3), .second, .val (.long q4), .second, .val (.long r7), .second, .val (.int t1), .val (.int t2), .val (.int t3), .val (.int t4), .val (.int t5), .val (.int t6), .val (.int t7), .val (.int t8), .val (.int (1 : Int32)), .val (.ref tx), .val (.ref tz), .val (.ref b22), .val (.long ((t1.toInt64) + (t5.toInt64))), .second, .val (.long ((t2.toInt64) + (t6.toInt64))), .second, .unset, .unset, .unset, .unset] [(.int t3)])) _
      refine XS.i2l X22.here hx rfl (hb hby at_251) rfl ?_
      show Steps p.tables e below (T22.setTop (mkF m 252 #[.val (.int p0), .val (.long q1), .second, .val (.long q2), .second, .val (.long q3), .second, .val (.long q4), .second, .val (.long r7), .second, .val (.int t1), .val (.int t2), .val (.int t3), .val (.int t4), .val (.int t5), .val (.int t6), .val (.int t7), .val (.int t8), .val (.int (1 : Int32)), .val (.ref tx), .val (.ref tz), .val (.ref b22), .val (.long ((t1.toInt64) + (t5.toInt64))), .second, .val (.long ((t2.toInt64) + (t6.toInt64))), .second, .unset, .unset, .unset, .unset] [(.long (t3.toInt64))])) _
      refine XS.iload X22.here hx rfl (hb hby at_252) rfl ?_
      show Steps p.tables e below (T22.setTop (mkF m 254 #[.val (.int p0), .val (.long q1), .second, .val (.long q2), .second, .val (.long q3), .second, .val (.long q4), .second, .val (.long r7), .second, .val (.int t1), .val (.int t2), .val (.int t3), .val (.int t4), .val (.int t5), .val (.int t6), .val (.int t7), .val (.int t8), .val (.int (1 : Int32)), .val (.ref tx), .val (.ref tz), .val (.ref b22), .val (.long ((t1.toInt64) + (t5.toInt64))), .second, .val (.long ((t2.toInt64) + (t6.toInt64))), .second, .unset, .unset, .unset, .unset] [(.int t7), (.long (t3.toInt64))])) _
      refine XS.i2l X22.here hx rfl (hb hby at_254) rfl ?_
      show Steps p.tables e below (T22.setTop (mkF m 255 #[.val (.int p0), .val (.long q1), .second, .val (.long q2), .second, .val (.long q3), .second, .val (.long q4), .second, .val (.long r7), .second, .val (.int t1), .val (.int t2), .val (.int t3), .val (.int t4), .val (.int t5), .val (.int t6), .val (.int t7), .val (.int t8), .val (.int (1 : Int32)), .val (.ref tx), .val (.ref tz), .val (.ref b22), .val (.long ((t1.toInt64) + (t5.toInt64))), .second, .val (.long ((t2.toInt64) + (t6.toInt64))), .second, .unset, .unset, .unset, .unset] [(.long (t7.toInt64)), (.long (t3.toInt64))])) _
      refine XS.ladd X22.here hx rfl (hb hby at_255) rfl ?_
      show Steps p.tables e below (T22.setTop (mkF m 256 #[.val (.int p0), .val (.long q1), .second, .val (.long q2), .second, .val (.long q3), .second, .val (.long q4), .second, .val (.long r7), .second, .val (.int t1), .val (.int t2), .val (.int t3), .val (.int t4), .val (.int t5), .val (.int t6), .val (.int t7), .val (.int t8), .val (.int (1 : Int32)), .val (.ref tx), .val (.ref tz), .val (.ref b22), .val (.long ((t1.toInt64) + (t5.toInt64))), .second, .val (.long ((t2.toInt64) + (t6.toInt64))), .second, .unset, .unset, .unset, .unset] [(.long ((t3.toInt64) + (t7.toInt64)))])) _
      refine XS.lstore X22.here hx rfl (hb hby at_256) rfl (l' := #[.val (.int p0), .val (.long q1), .second, .val (.long q2), .second, .val (.long q3), .second, .val (.long q4), .second, .val (.long r7), .second, .val (.int t1), .val (.int t2), .val (.int t3), .val (.int t4), .val (.int t5), .val (.int t6), .val (.int t7), .val (.int t8), .val (.int (1 : Int32)), .val (.ref tx), .val (.ref tz), .val (.ref b22), .val (.long ((t1.toInt64) + (t5.toInt64))), .second, .val (.long ((t2.toInt64) + (t6.toInt64))), .second, .val (.long ((t3.toInt64) + (t7.toInt64))), .second, .unset, .unset]) rfl ?_
      show Steps p.tables e below (T22.setTop (mkF m 258 #[.val (.int p0), .val (.long q1), .second, .val (.long q2), .second, .val (.long q3), .second, .val (.long q4), .second, .val (.long r7), .second, .val (.int t1), .val (.int t2), .val (.int t3), .val (.int t4), .val (.int t5), .val (.int t6), .val (.int t7), .val (.int t8), .val (.int (1 : Int32)), .val (.ref tx), .val (.ref tz), .val (.ref b22), .val (.long ((t1.toInt64) + (t5.toInt64))), .second, .val (.long ((t2.toInt64) + (t6.toInt64))), .second, .val (.long ((t3.toInt64) + (t7.toInt64))), .second, .unset, .unset] [])) _
      refine XS.iload X22.here hx rfl (hb hby at_258) rfl ?_
      show Steps p.tables e below (T22.setTop (mkF m 260 #[.val (.int p0), .val (.long q1), .second, .val (.long q2), .second, .val (.long q3), .second, .val (.long q4), .second, .val (.long r7), .second, .val (.int t1), .val (.int t2), .val (.int t3), .val (.int t4), .val (.int t5), .val (.int t6), .val (.int t7), .val (.int t8), .val (.int (1 : Int32)), .val (.ref tx), .val (.ref tz), .val (.ref b22), .val (.long ((t1.toInt64) + (t5.toInt64))), .second, .val (.long ((t2.toInt64) + (t6.toInt64))), .second, .val (.long ((t3.toInt64) + (t7.toInt64))), .second, .unset, .unset] [(.int t4)])) _
      refine XS.i2l X22.here hx rfl (hb hby at_260) rfl ?_
      show Steps p.tables e below (T22.setTop (mkF m 261 #[.val (.int p0), .val (.long q1), .second, .val (.long q2), .second, .val (.long q3), .second, .val (.long q4), .second, .val (.long r7), .second, .val (.int t1), .val (.int t2), .val (.int t3), .val (.int t4), .val (.int t5), .val (.int t6), .val (.int t7), .val (.int t8), .val (.int (1 : Int32)), .val (.ref tx), .val (.ref tz), .val (.ref b22), .val (.long ((t1.toInt64) + (t5.toInt64))), .second, .val (.long ((t2.toInt64) + (t6.toInt64))), .second, .val (.long ((t3.toInt64) + (t7.toInt64))), .second, .unset, .unset] [(.long (t4.toInt64))])) _
      refine XS.iload X22.here hx rfl (hb hby at_261) rfl ?_
      show Steps p.tables e below (T22.setTop (mkF m 263 #[.val (.int p0), .val (.long q1), .second, .val (.long q2), .second, .val (.long q3), .second, .val (.long q4), .second, .val (.long r7), .second, .val (.int t1), .val (.int t2), .val (.int t3), .val (.int t4), .val (.int t5), .val (.int t6), .val (.int t7), .val (.int t8), .val (.int (1 : Int32)), .val (.ref tx), .val (.ref tz), .val (.ref b22), .val (.long ((t1.toInt64) + (t5.toInt64))), .second, .val (.long ((t2.toInt64) + (t6.toInt64))), .second, .val (.long ((t3.toInt64) + (t7.toInt64))), .second, .unset, .unset] [(.int t8), (.long (t4.toInt64))])) _
      refine XS.i2l X22.here hx rfl (hb hby at_263) rfl ?_
      show Steps p.tables e below (T22.setTop (mkF m 264 #[.val (.int p0), .val (.long q1), .second, .val (.long q2), .second, .val (.long q3), .second, .val (.long q4), .second, .val (.long r7), .second, .val (.int t1), .val (.int t2), .val (.int t3), .val (.int t4), .val (.int t5), .val (.int t6), .val (.int t7), .val (.int t8), .val (.int (1 : Int32)), .val (.ref tx), .val (.ref tz), .val (.ref b22), .val (.long ((t1.toInt64) + (t5.toInt64))), .second, .val (.long ((t2.toInt64) + (t6.toInt64))), .second, .val (.long ((t3.toInt64) + (t7.toInt64))), .second, .unset, .unset] [(.long (t8.toInt64)), (.long (t4.toInt64))])) _
      refine XS.ladd X22.here hx rfl (hb hby at_264) rfl ?_
      show Steps p.tables e below (T22.setTop (mkF m 265 #[.val (.int p0), .val (.long q1), .second, .val (.long q2), .second, .val (.long q3), .second, .val (.long q4), .second, .val (.long r7), .second, .val (.int t1), .val (.int t2), .val (.int t3), .val (.int t4), .val (.int t5), .val (.int t6), .val (.int t7), .val (.int t8), .val (.int (1 : Int32)), .val (.ref tx), .val (.ref tz), .val (.ref b22), .val (.long ((t1.toInt64) + (t5.toInt64))), .second, .val (.long ((t2.toInt64) + (t6.toInt64))), .second, .val (.long ((t3.toInt64) + (t7.toInt64))), .second, .unset, .unset] [(.long ((t4.toInt64) + (t8.toInt64)))])) _
      refine XS.lstore X22.here hx rfl (hb hby at_265) rfl (l' := #[.val (.int p0), .val (.long q1), .second, .val (.long q2), .second, .val (.long q3), .second, .val (.long q4), .second, .val (.long r7), .second, .val (.int t1), .val (.int t2), .val (.int t3), .val (.int t4), .val (.int t5), .val (.int t6), .val (.int t7), .val (.int t8), .val (.int (1 : Int32)), .val (.ref tx), .val (.ref tz), .val (.ref b22), .val (.long ((t1.toInt64) + (t5.toInt64))), .second, .val (.long ((t2.toInt64) + (t6.toInt64))), .second, .val (.long ((t3.toInt64) + (t7.toInt64))), .second, .val (.long ((t4.toInt64) + (t8.toInt64))), .second]) rfl ?_
      show Steps p.tables e below (T22.setTop (mkF m 267 #[.val (.int p0), .val (.long q1), .second, .val (.long q2), .second, .val (.long q3), .second, .val (.long q4), .second, .val (.long r7), .second, .val (.int t1), .val (.int t2), .val (.int t3), .val (.int t4), .val (.int t5), .val (.int t6), .val (.int t7), .val (.int t8), .val (.int (1 : Int32)), .val (.ref tx), .val (.ref tz), .val (.ref b22), .val (.long ((t1.toInt64) + (t5.toInt64))), .second, .val (.long ((t2.toInt64) + (t6.toInt64))), .second, .val (.long ((t3.toInt64) + (t7.toInt64))), .second, .val (.long ((t4.toInt64) + (t8.toInt64))), .second] [])) _
      refine XS.aload X22.here hx rfl (hb hby at_267) rfl rfl ?_
      show Steps p.tables e below (T22.setTop (mkF m 269 #[.val (.int p0), .val (.long q1), .second, .val (.long q2), .second, .val (.long q3), .second, .val (.long q4), .second, .val (.long r7), .second, .val (.int t1), .val (.int t2), .val (.int t3), .val (.int t4), .val (.int t5), .val (.int t6), .val (.int t7), .val (.int t8), .val (.int (1 : Int32)), .val (.ref tx), .val (.ref tz), .val (.ref b22), .val (.long ((t1.toInt64) + (t5.toInt64))), .second, .val (.long ((t2.toInt64) + (t6.toInt64))), .second, .val (.long ((t3.toInt64) + (t7.toInt64))), .second, .val (.long ((t4.toInt64) + (t8.toInt64))), .second] [(.ref b22)])) _
      refine st23.trans ?_
      show Steps p.tables e below (T23.setTop (mkF m 272 #[.val (.int p0), .val (.long q1), .second, .val (.long q2), .second, .val (.long q3), .second, .val (.long q4), .second, .val (.long r7), .second, .val (.int t1), .val (.int t2), .val (.int t3), .val (.int t4), .val (.int t5), .val (.int t6), .val (.int t7), .val (.int t8), .val (.int (1 : Int32)), .val (.ref tx), .val (.ref tz), .val (.ref b22), .val (.long ((t1.toInt64) + (t5.toInt64))), .second, .val (.long ((t2.toInt64) + (t6.toInt64))), .second, .val (.long ((t3.toInt64) + (t7.toInt64))), .second, .val (.long ((t4.toInt64) + (t8.toInt64))), .second] [(.int (t5 + t1))])) _
      refine XS.i2l X23.here hx rfl (hb hby at_272) rfl ?_
      show Steps p.tables e below (T23.setTop (mkF m 273 #[.val (.int p0), .val (.long q1), .second, .val (.long q2), .second, .val (.long q3), .second, .val (.long q4), .second, .val (.long r7), .second, .val (.int t1), .val (.int t2), .val (.int t3), .val (.int t4), .val (.int t5), .val (.int t6), .val (.int t7), .val (.int t8), .val (.int (1 : Int32)), .val (.ref tx), .val (.ref tz), .val (.ref b22), .val (.long ((t1.toInt64) + (t5.toInt64))), .second, .val (.long ((t2.toInt64) + (t6.toInt64))), .second, .val (.long ((t3.toInt64) + (t7.toInt64))), .second, .val (.long ((t4.toInt64) + (t8.toInt64))), .second] [(.long ((t5 + t1).toInt64))])) _
      refine XS.lload X23.here hx rfl (hb hby at_273) rfl ?_
      show Steps p.tables e below (T23.setTop (mkF m 275 #[.val (.int p0), .val (.long q1), .second, .val (.long q2), .second, .val (.long q3), .second, .val (.long q4), .second, .val (.long r7), .second, .val (.int t1), .val (.int t2), .val (.int t3), .val (.int t4), .val (.int t5), .val (.int t6), .val (.int t7), .val (.int t8), .val (.int (1 : Int32)), .val (.ref tx), .val (.ref tz), .val (.ref b22), .val (.long ((t1.toInt64) + (t5.toInt64))), .second, .val (.long ((t2.toInt64) + (t6.toInt64))), .second, .val (.long ((t3.toInt64) + (t7.toInt64))), .second, .val (.long ((t4.toInt64) + (t8.toInt64))), .second] [(.long ((t1.toInt64) + (t5.toInt64))), (.long ((t5 + t1).toInt64))])) _
      refine XS.lcmp X23.here hx rfl (hb hby at_275) rfl ?_
      show Steps p.tables e below (T23.setTop (mkF m 276 #[.val (.int p0), .val (.long q1), .second, .val (.long q2), .second, .val (.long q3), .second, .val (.long q4), .second, .val (.long r7), .second, .val (.int t1), .val (.int t2), .val (.int t3), .val (.int t4), .val (.int t5), .val (.int t6), .val (.int t7), .val (.int t8), .val (.int (1 : Int32)), .val (.ref tx), .val (.ref tz), .val (.ref b22), .val (.long ((t1.toInt64) + (t5.toInt64))), .second, .val (.long ((t2.toInt64) + (t6.toInt64))), .second, .val (.long ((t3.toInt64) + (t7.toInt64))), .second, .val (.long ((t4.toInt64) + (t8.toInt64))), .second] [(.int (lcmpW ((t5 + t1).toInt64) ((t1.toInt64) + (t5.toInt64))))])) _
      refine XS.ifNo X23.here hx rfl (hb hby at_276) rfl ((if0 _ _).trans (teq ((lw_eq _ _).mpr (own_two' (a := t1) (b := t5) (by omega) : ((t5 + t1).toInt64) = ((t1.toInt64) + (t5.toInt64))))).2) ?_
      show Steps p.tables e below (T23.setTop (mkF m 279 #[.val (.int p0), .val (.long q1), .second, .val (.long q2), .second, .val (.long q3), .second, .val (.long q4), .second, .val (.long r7), .second, .val (.int t1), .val (.int t2), .val (.int t3), .val (.int t4), .val (.int t5), .val (.int t6), .val (.int t7), .val (.int t8), .val (.int (1 : Int32)), .val (.ref tx), .val (.ref tz), .val (.ref b22), .val (.long ((t1.toInt64) + (t5.toInt64))), .second, .val (.long ((t2.toInt64) + (t6.toInt64))), .second, .val (.long ((t3.toInt64) + (t7.toInt64))), .second, .val (.long ((t4.toInt64) + (t8.toInt64))), .second] [])) _
      refine XS.aload X23.here hx rfl (hb hby at_279) rfl rfl ?_
      show Steps p.tables e below (T23.setTop (mkF m 281 #[.val (.int p0), .val (.long q1), .second, .val (.long q2), .second, .val (.long q3), .second, .val (.long q4), .second, .val (.long r7), .second, .val (.int t1), .val (.int t2), .val (.int t3), .val (.int t4), .val (.int t5), .val (.int t6), .val (.int t7), .val (.int t8), .val (.int (1 : Int32)), .val (.ref tx), .val (.ref tz), .val (.ref b22), .val (.long ((t1.toInt64) + (t5.toInt64))), .second, .val (.long ((t2.toInt64) + (t6.toInt64))), .second, .val (.long ((t3.toInt64) + (t7.toInt64))), .second, .val (.long ((t4.toInt64) + (t8.toInt64))), .second] [(.ref b22)])) _
      refine st24.trans ?_
      show Steps p.tables e below (T24.setTop (mkF m 284 #[.val (.int p0), .val (.long q1), .second, .val (.long q2), .second, .val (.long q3), .second, .val (.long q4), .second, .val (.long r7), .second, .val (.int t1), .val (.int t2), .val (.int t3), .val (.int t4), .val (.int t5), .val (.int t6), .val (.int t7), .val (.int t8), .val (.int (1 : Int32)), .val (.ref tx), .val (.ref tz), .val (.ref b22), .val (.long ((t1.toInt64) + (t5.toInt64))), .second, .val (.long ((t2.toInt64) + (t6.toInt64))), .second, .val (.long ((t3.toInt64) + (t7.toInt64))), .second, .val (.long ((t4.toInt64) + (t8.toInt64))), .second] [(.int (t6 + t2))])) _
      refine XS.i2l X24.here hx rfl (hb hby at_284) rfl ?_
      show Steps p.tables e below (T24.setTop (mkF m 285 #[.val (.int p0), .val (.long q1), .second, .val (.long q2), .second, .val (.long q3), .second, .val (.long q4), .second, .val (.long r7), .second, .val (.int t1), .val (.int t2), .val (.int t3), .val (.int t4), .val (.int t5), .val (.int t6), .val (.int t7), .val (.int t8), .val (.int (1 : Int32)), .val (.ref tx), .val (.ref tz), .val (.ref b22), .val (.long ((t1.toInt64) + (t5.toInt64))), .second, .val (.long ((t2.toInt64) + (t6.toInt64))), .second, .val (.long ((t3.toInt64) + (t7.toInt64))), .second, .val (.long ((t4.toInt64) + (t8.toInt64))), .second] [(.long ((t6 + t2).toInt64))])) _
      refine XS.lload X24.here hx rfl (hb hby at_285) rfl ?_
      show Steps p.tables e below (T24.setTop (mkF m 287 #[.val (.int p0), .val (.long q1), .second, .val (.long q2), .second, .val (.long q3), .second, .val (.long q4), .second, .val (.long r7), .second, .val (.int t1), .val (.int t2), .val (.int t3), .val (.int t4), .val (.int t5), .val (.int t6), .val (.int t7), .val (.int t8), .val (.int (1 : Int32)), .val (.ref tx), .val (.ref tz), .val (.ref b22), .val (.long ((t1.toInt64) + (t5.toInt64))), .second, .val (.long ((t2.toInt64) + (t6.toInt64))), .second, .val (.long ((t3.toInt64) + (t7.toInt64))), .second, .val (.long ((t4.toInt64) + (t8.toInt64))), .second] [(.long ((t2.toInt64) + (t6.toInt64))), (.long ((t6 + t2).toInt64))])) _
      refine XS.lcmp X24.here hx rfl (hb hby at_287) rfl ?_
      show Steps p.tables e below (T24.setTop (mkF m 288 #[.val (.int p0), .val (.long q1), .second, .val (.long q2), .second, .val (.long q3), .second, .val (.long q4), .second, .val (.long r7), .second, .val (.int t1), .val (.int t2), .val (.int t3), .val (.int t4), .val (.int t5), .val (.int t6), .val (.int t7), .val (.int t8), .val (.int (1 : Int32)), .val (.ref tx), .val (.ref tz), .val (.ref b22), .val (.long ((t1.toInt64) + (t5.toInt64))), .second, .val (.long ((t2.toInt64) + (t6.toInt64))), .second, .val (.long ((t3.toInt64) + (t7.toInt64))), .second, .val (.long ((t4.toInt64) + (t8.toInt64))), .second] [(.int (lcmpW ((t6 + t2).toInt64) ((t2.toInt64) + (t6.toInt64))))])) _
      refine XS.ifNo X24.here hx rfl (hb hby at_288) rfl ((if0 _ _).trans (teq ((lw_eq _ _).mpr (own_two' (a := t2) (b := t6) (by omega) : ((t6 + t2).toInt64) = ((t2.toInt64) + (t6.toInt64))))).2) ?_
      show Steps p.tables e below (T24.setTop (mkF m 291 #[.val (.int p0), .val (.long q1), .second, .val (.long q2), .second, .val (.long q3), .second, .val (.long q4), .second, .val (.long r7), .second, .val (.int t1), .val (.int t2), .val (.int t3), .val (.int t4), .val (.int t5), .val (.int t6), .val (.int t7), .val (.int t8), .val (.int (1 : Int32)), .val (.ref tx), .val (.ref tz), .val (.ref b22), .val (.long ((t1.toInt64) + (t5.toInt64))), .second, .val (.long ((t2.toInt64) + (t6.toInt64))), .second, .val (.long ((t3.toInt64) + (t7.toInt64))), .second, .val (.long ((t4.toInt64) + (t8.toInt64))), .second] [])) _
      refine XS.aload X24.here hx rfl (hb hby at_291) rfl rfl ?_
      show Steps p.tables e below (T24.setTop (mkF m 293 #[.val (.int p0), .val (.long q1), .second, .val (.long q2), .second, .val (.long q3), .second, .val (.long q4), .second, .val (.long r7), .second, .val (.int t1), .val (.int t2), .val (.int t3), .val (.int t4), .val (.int t5), .val (.int t6), .val (.int t7), .val (.int t8), .val (.int (1 : Int32)), .val (.ref tx), .val (.ref tz), .val (.ref b22), .val (.long ((t1.toInt64) + (t5.toInt64))), .second, .val (.long ((t2.toInt64) + (t6.toInt64))), .second, .val (.long ((t3.toInt64) + (t7.toInt64))), .second, .val (.long ((t4.toInt64) + (t8.toInt64))), .second] [(.ref b22)])) _
      refine st25.trans ?_
      show Steps p.tables e below (T25.setTop (mkF m 296 #[.val (.int p0), .val (.long q1), .second, .val (.long q2), .second, .val (.long q3), .second, .val (.long q4), .second, .val (.long r7), .second, .val (.int t1), .val (.int t2), .val (.int t3), .val (.int t4), .val (.int t5), .val (.int t6), .val (.int t7), .val (.int t8), .val (.int (1 : Int32)), .val (.ref tx), .val (.ref tz), .val (.ref b22), .val (.long ((t1.toInt64) + (t5.toInt64))), .second, .val (.long ((t2.toInt64) + (t6.toInt64))), .second, .val (.long ((t3.toInt64) + (t7.toInt64))), .second, .val (.long ((t4.toInt64) + (t8.toInt64))), .second] [(.int (t7 + t3))])) _
      refine XS.i2l X25.here hx rfl (hb hby at_296) rfl ?_
      show Steps p.tables e below (T25.setTop (mkF m 297 #[.val (.int p0), .val (.long q1), .second, .val (.long q2), .second, .val (.long q3), .second, .val (.long q4), .second, .val (.long r7), .second, .val (.int t1), .val (.int t2), .val (.int t3), .val (.int t4), .val (.int t5), .val (.int t6), .val (.int t7), .val (.int t8), .val (.int (1 : Int32)), .val (.ref tx), .val (.ref tz), .val (.ref b22), .val (.long ((t1.toInt64) + (t5.toInt64))), .second, .val (.long ((t2.toInt64) + (t6.toInt64))), .second, .val (.long ((t3.toInt64) + (t7.toInt64))), .second, .val (.long ((t4.toInt64) + (t8.toInt64))), .second] [(.long ((t7 + t3).toInt64))])) _
      refine XS.lload X25.here hx rfl (hb hby at_297) rfl ?_
      show Steps p.tables e below (T25.setTop (mkF m 299 #[.val (.int p0), .val (.long q1), .second, .val (.long q2), .second, .val (.long q3), .second, .val (.long q4), .second, .val (.long r7), .second, .val (.int t1), .val (.int t2), .val (.int t3), .val (.int t4), .val (.int t5), .val (.int t6), .val (.int t7), .val (.int t8), .val (.int (1 : Int32)), .val (.ref tx), .val (.ref tz), .val (.ref b22), .val (.long ((t1.toInt64) + (t5.toInt64))), .second, .val (.long ((t2.toInt64) + (t6.toInt64))), .second, .val (.long ((t3.toInt64) + (t7.toInt64))), .second, .val (.long ((t4.toInt64) + (t8.toInt64))), .second] [(.long ((t3.toInt64) + (t7.toInt64))), (.long ((t7 + t3).toInt64))])) _
      refine XS.lcmp X25.here hx rfl (hb hby at_299) rfl ?_
      show Steps p.tables e below (T25.setTop (mkF m 300 #[.val (.int p0), .val (.long q1), .second, .val (.long q2), .second, .val (.long q3), .second, .val (.long q4), .second, .val (.long r7), .second, .val (.int t1), .val (.int t2), .val (.int t3), .val (.int t4), .val (.int t5), .val (.int t6), .val (.int t7), .val (.int t8), .val (.int (1 : Int32)), .val (.ref tx), .val (.ref tz), .val (.ref b22), .val (.long ((t1.toInt64) + (t5.toInt64))), .second, .val (.long ((t2.toInt64) + (t6.toInt64))), .second, .val (.long ((t3.toInt64) + (t7.toInt64))), .second, .val (.long ((t4.toInt64) + (t8.toInt64))), .second] [(.int (lcmpW ((t7 + t3).toInt64) ((t3.toInt64) + (t7.toInt64))))])) _
      refine XS.ifNo X25.here hx rfl (hb hby at_300) rfl ((if0 _ _).trans (teq ((lw_eq _ _).mpr (own_two' (a := t3) (b := t7) (by omega) : ((t7 + t3).toInt64) = ((t3.toInt64) + (t7.toInt64))))).2) ?_
      show Steps p.tables e below (T25.setTop (mkF m 303 #[.val (.int p0), .val (.long q1), .second, .val (.long q2), .second, .val (.long q3), .second, .val (.long q4), .second, .val (.long r7), .second, .val (.int t1), .val (.int t2), .val (.int t3), .val (.int t4), .val (.int t5), .val (.int t6), .val (.int t7), .val (.int t8), .val (.int (1 : Int32)), .val (.ref tx), .val (.ref tz), .val (.ref b22), .val (.long ((t1.toInt64) + (t5.toInt64))), .second, .val (.long ((t2.toInt64) + (t6.toInt64))), .second, .val (.long ((t3.toInt64) + (t7.toInt64))), .second, .val (.long ((t4.toInt64) + (t8.toInt64))), .second] [])) _
      refine XS.aload X25.here hx rfl (hb hby at_303) rfl rfl ?_
      show Steps p.tables e below (T25.setTop (mkF m 305 #[.val (.int p0), .val (.long q1), .second, .val (.long q2), .second, .val (.long q3), .second, .val (.long q4), .second, .val (.long r7), .second, .val (.int t1), .val (.int t2), .val (.int t3), .val (.int t4), .val (.int t5), .val (.int t6), .val (.int t7), .val (.int t8), .val (.int (1 : Int32)), .val (.ref tx), .val (.ref tz), .val (.ref b22), .val (.long ((t1.toInt64) + (t5.toInt64))), .second, .val (.long ((t2.toInt64) + (t6.toInt64))), .second, .val (.long ((t3.toInt64) + (t7.toInt64))), .second, .val (.long ((t4.toInt64) + (t8.toInt64))), .second] [(.ref b22)])) _
      refine st26.trans ?_
      show Steps p.tables e below (T26.setTop (mkF m 308 #[.val (.int p0), .val (.long q1), .second, .val (.long q2), .second, .val (.long q3), .second, .val (.long q4), .second, .val (.long r7), .second, .val (.int t1), .val (.int t2), .val (.int t3), .val (.int t4), .val (.int t5), .val (.int t6), .val (.int t7), .val (.int t8), .val (.int (1 : Int32)), .val (.ref tx), .val (.ref tz), .val (.ref b22), .val (.long ((t1.toInt64) + (t5.toInt64))), .second, .val (.long ((t2.toInt64) + (t6.toInt64))), .second, .val (.long ((t3.toInt64) + (t7.toInt64))), .second, .val (.long ((t4.toInt64) + (t8.toInt64))), .second] [(.int (t8 + t4))])) _
      refine XS.i2l X26.here hx rfl (hb hby at_308) rfl ?_
      show Steps p.tables e below (T26.setTop (mkF m 309 #[.val (.int p0), .val (.long q1), .second, .val (.long q2), .second, .val (.long q3), .second, .val (.long q4), .second, .val (.long r7), .second, .val (.int t1), .val (.int t2), .val (.int t3), .val (.int t4), .val (.int t5), .val (.int t6), .val (.int t7), .val (.int t8), .val (.int (1 : Int32)), .val (.ref tx), .val (.ref tz), .val (.ref b22), .val (.long ((t1.toInt64) + (t5.toInt64))), .second, .val (.long ((t2.toInt64) + (t6.toInt64))), .second, .val (.long ((t3.toInt64) + (t7.toInt64))), .second, .val (.long ((t4.toInt64) + (t8.toInt64))), .second] [(.long ((t8 + t4).toInt64))])) _
      refine XS.lload X26.here hx rfl (hb hby at_309) rfl ?_
      show Steps p.tables e below (T26.setTop (mkF m 311 #[.val (.int p0), .val (.long q1), .second, .val (.long q2), .second, .val (.long q3), .second, .val (.long q4), .second, .val (.long r7), .second, .val (.int t1), .val (.int t2), .val (.int t3), .val (.int t4), .val (.int t5), .val (.int t6), .val (.int t7), .val (.int t8), .val (.int (1 : Int32)), .val (.ref tx), .val (.ref tz), .val (.ref b22), .val (.long ((t1.toInt64) + (t5.toInt64))), .second, .val (.long ((t2.toInt64) + (t6.toInt64))), .second, .val (.long ((t3.toInt64) + (t7.toInt64))), .second, .val (.long ((t4.toInt64) + (t8.toInt64))), .second] [(.long ((t4.toInt64) + (t8.toInt64))), (.long ((t8 + t4).toInt64))])) _
      refine XS.lcmp X26.here hx rfl (hb hby at_311) rfl ?_
      show Steps p.tables e below (T26.setTop (mkF m 312 #[.val (.int p0), .val (.long q1), .second, .val (.long q2), .second, .val (.long q3), .second, .val (.long q4), .second, .val (.long r7), .second, .val (.int t1), .val (.int t2), .val (.int t3), .val (.int t4), .val (.int t5), .val (.int t6), .val (.int t7), .val (.int t8), .val (.int (1 : Int32)), .val (.ref tx), .val (.ref tz), .val (.ref b22), .val (.long ((t1.toInt64) + (t5.toInt64))), .second, .val (.long ((t2.toInt64) + (t6.toInt64))), .second, .val (.long ((t3.toInt64) + (t7.toInt64))), .second, .val (.long ((t4.toInt64) + (t8.toInt64))), .second] [(.int (lcmpW ((t8 + t4).toInt64) ((t4.toInt64) + (t8.toInt64))))])) _
      refine XS.ifNo X26.here hx rfl (hb hby at_312) rfl ((if0 _ _).trans (teq ((lw_eq _ _).mpr (own_two' (a := t4) (b := t8) (by omega) : ((t8 + t4).toInt64) = ((t4.toInt64) + (t8.toInt64))))).2) ?_
      show Steps p.tables e below (T26.setTop (mkF m 315 #[.val (.int p0), .val (.long q1), .second, .val (.long q2), .second, .val (.long q3), .second, .val (.long q4), .second, .val (.long r7), .second, .val (.int t1), .val (.int t2), .val (.int t3), .val (.int t4), .val (.int t5), .val (.int t6), .val (.int t7), .val (.int t8), .val (.int (1 : Int32)), .val (.ref tx), .val (.ref tz), .val (.ref b22), .val (.long ((t1.toInt64) + (t5.toInt64))), .second, .val (.long ((t2.toInt64) + (t6.toInt64))), .second, .val (.long ((t3.toInt64) + (t7.toInt64))), .second, .val (.long ((t4.toInt64) + (t8.toInt64))), .second] [])) _
      refine XS.iconst X26.here hx rfl (hb hby at_315) ?_
      show Steps p.tables e below (T26.setTop (mkF m 316 #[.val (.int p0), .val (.long q1), .second, .val (.long q2), .second, .val (.long q3), .second, .val (.long q4), .second, .val (.long r7), .second, .val (.int t1), .val (.int t2), .val (.int t3), .val (.int t4), .val (.int t5), .val (.int t6), .val (.int t7), .val (.int t8), .val (.int (1 : Int32)), .val (.ref tx), .val (.ref tz), .val (.ref b22), .val (.long ((t1.toInt64) + (t5.toInt64))), .second, .val (.long ((t2.toInt64) + (t6.toInt64))), .second, .val (.long ((t3.toInt64) + (t7.toInt64))), .second, .val (.long ((t4.toInt64) + (t8.toInt64))), .second] [(.int (1 : Int32))])) _
      refine XS.goto X26.here hx rfl (pc0 := 316) (pc' := 320) rfl (hb hby at_316) (by decide) (by decide) ?_
      show Steps p.tables e below (T26.setTop (mkF m 320 #[.val (.int p0), .val (.long q1), .second, .val (.long q2), .second, .val (.long q3), .second, .val (.long q4), .second, .val (.long r7), .second, .val (.int t1), .val (.int t2), .val (.int t3), .val (.int t4), .val (.int t5), .val (.int t6), .val (.int t7), .val (.int t8), .val (.int (1 : Int32)), .val (.ref tx), .val (.ref tz), .val (.ref b22), .val (.long ((t1.toInt64) + (t5.toInt64))), .second, .val (.long ((t2.toInt64) + (t6.toInt64))), .second, .val (.long ((t3.toInt64) + (t7.toInt64))), .second, .val (.long ((t4.toInt64) + (t8.toInt64))), .second] [(.int (1 : Int32))])) _
      exact retN X26 hx (t := .boolean) Bd.returns (by simp) (hb hby at_320) hr
    · show Qrm0 Z p0 q1 q2 q3 q4 h0 n0 _ T26.heap _
      rw [eh26]
      exact ⟨rfl, N26⟩
set_option maxRecDepth 65536 in
set_option maxHeartbeats 40000000 in
theorem comes_1 {Post : Tables → Env → Array Value → State → Outcome → State → Prop} (hpost : ∀ tb e args s v u, (limb_1_1.after args s (.returned v) u = true ∧ limb_1_2.after args s (.returned v) u = true ∧ True) → FrameEnd s (.returned v) u (Jvm.fieldLocs frame_1_writes args s ++ Jvm.arrayLocs frame_1_arrays args s ++ Jvm.staticLocs frame_1_statics s) 16 128 → Post tb e args s (.returned v) u) :
    ArmFor flags0 classFile x code maxLocals ret World_1 tables_1 room_1 Calls_1 rest_1 Pre_1 Post := by
  intro l hfl _ _ p e ha hc hk s m args below hf hA hF happ hP
  obtain ⟨hcalls, hrest, hpre⟩ := hP
  obtain ⟨-, -, -, hnamed, -, -, -, hat⟩ := (Spec.applies_iff hf).mp happ
  obtain ⟨hg, hn⟩ := and_e (Cond.before_iff.mp (show (Jvm.Cond.and given_1 narrow_1).before args s = true from hpre))
  obtain ⟨g1, g2⟩ := and_e hg
  obtain ⟨g3, g4⟩ := and_e g2
  obtain ⟨g5, g6⟩ := and_e g4
  obtain ⟨g7, g8⟩ := and_e g6
  obtain ⟨g9, g10⟩ := and_e g8
  obtain ⟨w0, w1, w2, w3, w4, rfl⟩ : ∃ w0 w1 w2 w3 w4 : Value, args = #[w0, w1, w2, w3, w4] := by
    have hs : args.size = 5 := by simpa [Cond.value, given_1] using g1
    obtain ⟨L⟩ := args
    match L, hs with
    | [w0, w1, w2, w3, w4], _ => exact ⟨w0, w1, w2, w3, w4, rfl⟩
  have hw := fun d (hd : d ∈ tables_1) => atoms_spec (ws := Jvm.Cond.code x code maxLocals ret :: tables_1) hat d (List.mem_cons_of_mem _ hd)
  obtain ⟨i0, ei0⟩ := is_v g3
  obtain rfl : w0 = (.int i0) := Option.some.inj ei0
  obtain ⟨i1, ei1⟩ := isL_v g5
  obtain rfl : w1 = (.long i1) := Option.some.inj ei1
  obtain ⟨i2, ei2⟩ := isL_v g7
  obtain rfl : w2 = (.long i2) := Option.some.inj ei2
  obtain ⟨i3, ei3⟩ := isL_v g9
  obtain rfl : w3 = (.long i3) := Option.some.inj ei3
  obtain ⟨i4, ei4⟩ := isL_v g10
  obtain rfl : w4 = (.long i4) := Option.some.inj ei4
  obtain ⟨n, o, h1, h2, h3, _, L, rfl, ⟨rfl, N⟩, hq⟩ := rm0 l s _ hw tables_1 i0 i1 i2 i3 i4  s.heap s.heap.size (Nat.le_refl _) p e ha hc hk s m _ below hf ((Spec.applies_iff_loose hf).mp happ).1 ⟨rfl, State.Warmed39.refl s, rfl⟩ trivial
  refine ⟨n, _, h1, h2, h3, hpost _ _ _ _ _ _ ⟨Cond.after_iff.mpr rfl, Cond.after_iff.mpr (eq_i res_at (Term.int_eval (1)) rfl), trivial⟩ ⟨hq.1, hq.2.1, (hq.2.2.sift fun y hy => Or.inr (N y hy)).mono (by decide) (by decide)⟩⟩
theorem main_1_1 : Claimed_1_1 := comes_1 fun _ _ _ _ _ _ h hF => ⟨h.1, hF⟩
theorem main_1_2 : Claimed_1_2 := comes_1 fun _ _ _ _ _ _ h hF => ⟨h.2.1, hF⟩
end Jvm.Pilot.@@N@@
namespace Jvm.Pilot.@@N@@
open Jvm Jvm.ClassFile Sem Op Lib Jvm.Free Jvm.Stand Jvm.Pilot.@@N@@.Jvm.D
/-! MADE BY PROGRAM (witnessworld.py) out of the Statement's table words and the real class files: 11 classes; the members and pool entries that the words name. The judged class is class 1, her method 2. -/
namespace start1
open Jvm.ClassFile
def u (s : String) : CpInfo := .utf8 (stringToUtf16 s)
/-- a pool by its gaps: so many unusable entries, then the entry; so many at the end -/
def gap : Nat → List CpInfo → List CpInfo
  | 0, r => r
  | n + 1, r => .unusable :: gap n r
def poolList (es : List (Nat × CpInfo)) (last : Nat) : List CpInfo := es.foldr (fun e r => gap e.1 (e.2 :: r)) (gap last [])
def pool (es : List (Nat × CpInfo)) (last : Nat) : Array CpInfo := ⟨poolList es last⟩
def fileOf (pool : Array CpInfo) (this : Nat) (attrs : Array Attribute := #[]) (ms : Array MethodInfo := #[]) (fl : Nat := 33) (sup : Nat := 0) (ifs : Array Nat := #[]) (fds : Array FieldInfo := #[]) : ClassFile where
  minorVersion := 0
  majorVersion := 65
  constantPool := pool
  accessFlags := fl
  thisClass := this
  superClass := sup
  interfaces := ifs
  fields := fds
  methods := ms
  attributes := attrs
def plain (name : String) (sup : Option ClassId) : Class where
  name := name
  kind := .ordinary
  loader := none
  accessFlags := 33
  super := sup
  interfaces := #[]
  cf := none
  fields := #[]
  methods := #[]
  instanceTypes := #[]
  staticTypes := #[]
  resolved := #[]
  callSites := []
  init := .initialized
  statics := none
  mirror := none

def pool0 : Array CpInfo := pool [(5, u "<init>"), (0, u "()V"), (1, .class_ 10), (1, u "java/lang/Object")] 113

def k0c0 : Code := { maxStack := 0, maxLocals := 1, code := object_method_1_code, exceptionTable := #[], attributes := #[] }
def k0m0 : Method := { name := "<init>", desc := "()V", sig := { parameters := [], returnType := none }, accessFlags := 1, code := some k0c0 }
/-- java/lang/Object -/
def k0 : Class := { plain "java/lang/Object" none with
  accessFlags := 33
  interfaces := #[]
  cf := some (fileOf pool0 8 #[] #[{ accessFlags := 1, nameIndex := 5, descriptorIndex := 6, attributes := #[] }] 33 0 #[] #[])
  fields := #[]
  methods := #[k0m0]
  instanceTypes := #[]
  staticTypes := #[]
  resolved := Array.replicate 124 none
  statics := none }

def pool1 : Array CpInfo := pool [(2, .class_ 4), (1, u "java/lang/Object"), (0, u "<init>"), (0, u "()V"), (0, .long 2147483647), (1, .methodref 10 11), (0, .class_ 12), (0, .nameAndType 13 14), (0, u "com/example/forkline/forkline/TallyPlusPinLaw"), (0, u "take"), (0, u "(IJ)I"), (0, .class_ 16), (0, u "com/example/forkline/forkline/Tally"), (0, .methodref 15 18), (0, .nameAndType 5 19), (0, u "(IIII)V"), (0, .methodref 15 21), (0, .nameAndType 22 23), (0, u "plus"), (0, u "(Lcom/example/forkline/forkline/Tally;)Lcom/example/forkline/forkline/Tally;"), (0, .methodref 15 25), (0, .nameAndType 26 27), (0, u "passed"), (0, u "()I"), (0, .methodref 15 29), (0, .nameAndType 30 27), (0, u "failed"), (0, .methodref 15 32), (0, .nameAndType 33 27), (0, u "errors"), (0, .methodref 15 35), (0, .nameAndType 36 27), (0, u "skipped"), (2, u "law"), (0, u "(IJJJJ)Z")] 3

def k1m0 : Method := { name := "<init>", desc := "()V", sig := { parameters := [], returnType := none }, accessFlags := 1, code := none }
def k1c1 : Code := { maxStack := 6, maxLocals := 3, code := method_2_code, exceptionTable := #[], attributes := #[] }
def k1m1 : Method := { name := "take", desc := "(IJ)I", sig := { parameters := [.int, .long], returnType := some .int }, accessFlags := 10, code := some k1c1 }
def k1c2 : Code := { maxStack := 6, maxLocals := 31, code := code, exceptionTable := #[], attributes := #[] }
def k1m2 : Method := { name := "law", desc := "(IJJJJ)Z", sig := { parameters := [.int, .long, .long, .long, .long], returnType := some .boolean }, accessFlags := 9, code := some k1c2 }
/-- com/example/forkline/forkline/TallyPlusPinLaw -/
def k1 : Class := { plain "com/example/forkline/forkline/TallyPlusPinLaw" (some 0) with
  accessFlags := 49
  interfaces := #[]
  cf := some (fileOf pool1 10 #[] #[{ accessFlags := 1, nameIndex := 5, descriptorIndex := 6, attributes := #[] }, { accessFlags := 10, nameIndex := 13, descriptorIndex := 14, attributes := #[] }, { accessFlags := 9, nameIndex := 39, descriptorIndex := 40, attributes := #[] }] 49 2 #[] #[])
  fields := #[]
  methods := #[k1m0, k1m1, k1m2]
  instanceTypes := #[]
  staticTypes := #[]
  resolved := Array.replicate 44 none
  statics := none }

def pool2 : Array CpInfo := pool [(1, .methodref 2 3), (0, .class_ 4), (0, .nameAndType 5 6), (0, u "java/lang/Object"), (0, u "<init>"), (0, u "()V"), (0, .class_ 8), (0, u "java/lang/Record")] 13

def k2c0 : Code := { maxStack := 1, maxLocals := 1, code := jdk_30_method_1_code, exceptionTable := #[], attributes := #[] }
def k2m0 : Method := { name := "<init>", desc := "()V", sig := { parameters := [], returnType := none }, accessFlags := 4, code := some k2c0 }
/-- java/lang/Record -/
def k2 : Class := { plain "java/lang/Record" (some 0) with
  accessFlags := 1057
  interfaces := #[]
  cf := some (fileOf pool2 7 #[] #[{ accessFlags := 4, nameIndex := 5, descriptorIndex := 6, attributes := #[] }] 1057 2 #[] #[])
  fields := #[]
  methods := #[k2m0]
  instanceTypes := #[]
  staticTypes := #[]
  resolved := Array.replicate 22 none
  statics := none }

def pool3 : Array CpInfo := pool [(1, .methodref 2 3), (0, .class_ 4), (0, .nameAndType 5 6), (0, u "java/lang/Record"), (0, u "<init>"), (0, u "()V"), (27, .long 2147483647), (3, .fieldref 39 40), (0, .class_ 41), (0, .nameAndType 42 43), (0, u "com/example/forkline/forkline/Tally"), (0, u "passed"), (0, u "I"), (0, .fieldref 39 45), (0, .nameAndType 46 43), (0, u "failed"), (0, .fieldref 39 48), (0, .nameAndType 49 43), (0, u "errors"), (0, .fieldref 39 51), (0, .nameAndType 52 43), (0, u "skipped"), (50, .class_ 105), (1, u "java/lang/Math"), (11, .methodref 39 118), (0, .nameAndType 5 119), (0, u "(IIII)V"), (0, .methodref 103 121), (0, .nameAndType 122 123), (0, u "addExact"), (0, u "(II)I"), (5, u "()I"), (20, u "plus"), (0, u "(Lcom/example/forkline/forkline/Tally;)Lcom/example/forkline/forkline/Tally;")] 26

def k3c0 : Code := { maxStack := 8, maxLocals := 5, code := prog_21_method_1_code, exceptionTable := #[], attributes := #[] }
def k3m0 : Method := { name := "<init>", desc := "(IIII)V", sig := { parameters := [.int, .int, .int, .int], returnType := none }, accessFlags := 1, code := some k3c0 }
def k3c1 : Code := { maxStack := 7, maxLocals := 2, code := prog_21_method_3_code, exceptionTable := #[], attributes := #[] }
def k3m1 : Method := { name := "plus", desc := "(Lcom/example/forkline/forkline/Tally;)Lcom/example/forkline/forkline/Tally;", sig := { parameters := [(.object "com/example/forkline/forkline/Tally")], returnType := some (.object "com/example/forkline/forkline/Tally") }, accessFlags := 1, code := some k3c1 }
def k3c2 : Code := { maxStack := 1, maxLocals := 1, code := prog_21_method_9_code, exceptionTable := #[], attributes := #[] }
def k3m2 : Method := { name := "passed", desc := "()I", sig := { parameters := [], returnType := some .int }, accessFlags := 1, code := some k3c2 }
def k3c3 : Code := { maxStack := 1, maxLocals := 1, code := prog_21_method_10_code, exceptionTable := #[], attributes := #[] }
def k3m3 : Method := { name := "failed", desc := "()I", sig := { parameters := [], returnType := some .int }, accessFlags := 1, code := some k3c3 }
def k3c4 : Code := { maxStack := 1, maxLocals := 1, code := prog_21_method_11_code, exceptionTable := #[], attributes := #[] }
def k3m4 : Method := { name := "errors", desc := "()I", sig := { parameters := [], returnType := some .int }, accessFlags := 1, code := some k3c4 }
def k3c5 : Code := { maxStack := 1, maxLocals := 1, code := prog_21_method_12_code, exceptionTable := #[], attributes := #[] }
def k3m5 : Method := { name := "skipped", desc := "()I", sig := { parameters := [], returnType := some .int }, accessFlags := 1, code := some k3c5 }
/-- com/example/forkline/forkline/Tally -/
def k3 : Class := { plain "com/example/forkline/forkline/Tally" (some 2) with
  accessFlags := 49
  interfaces := #[]
  cf := some (fileOf pool3 39 #[] #[{ accessFlags := 1, nameIndex := 5, descriptorIndex := 119, attributes := #[] }, { accessFlags := 1, nameIndex := 150, descriptorIndex := 151, attributes := #[] }, { accessFlags := 1, nameIndex := 42, descriptorIndex := 129, attributes := #[] }, { accessFlags := 1, nameIndex := 46, descriptorIndex := 129, attributes := #[] }, { accessFlags := 1, nameIndex := 49, descriptorIndex := 129, attributes := #[] }, { accessFlags := 1, nameIndex := 52, descriptorIndex := 129, attributes := #[] }] 49 2 #[] #[{ accessFlags := 18, nameIndex := 42, descriptorIndex := 43, attributes := #[] }, { accessFlags := 18, nameIndex := 46, descriptorIndex := 43, attributes := #[] }, { accessFlags := 18, nameIndex := 49, descriptorIndex := 43, attributes := #[] }, { accessFlags := 18, nameIndex := 52, descriptorIndex := 43, attributes := #[] }])
  fields := #[{ name := "passed", type := .int, accessFlags := 18, slot := 0, constantValue := 0 }, { name := "failed", type := .int, accessFlags := 18, slot := 1, constantValue := 0 }, { name := "errors", type := .int, accessFlags := 18, slot := 2, constantValue := 0 }, { name := "skipped", type := .int, accessFlags := 18, slot := 3, constantValue := 0 }]
  methods := #[k3m0, k3m1, k3m2, k3m3, k3m4, k3m5]
  instanceTypes := #[.int, .int, .int, .int]
  staticTypes := #[]
  resolved := Array.replicate 178 none
  statics := none }

def pool4 : Array CpInfo := pool [(1, .class_ 2), (0, u "java/lang/Math"), (1, .class_ 6), (1, u "java/lang/Object"), (0, u "<init>"), (0, u "()V"), (89, .class_ 100), (1, u "java/lang/Math$RandomNumberGeneratorHolder"), (71, u "negativeZeroFloatBits"), (0, u "J"), (2, u "negativeZeroDoubleBits"), (68, u "$assertionsDisabled"), (0, u "Z"), (88, u "(II)I"), (2, u "twoToTheDoubleScaleDown"), (0, u "D"), (4, u "twoToTheDoubleScaleUp"), (9, u "E"), (3, u "PI"), (2, u "TAU"), (2, u "DEGREES_TO_RADIANS"), (0, u "RADIANS_TO_DEGREES"), (27, u "addExact")] 66

def k4m0 : Method := { name := "<init>", desc := "()V", sig := { parameters := [], returnType := none }, accessFlags := 2, code := none }
def k4c1 : Code := { maxStack := 3, maxLocals := 3, code := jdk_29_method_24_code, exceptionTable := #[], attributes := #[] }
def k4m1 : Method := { name := "addExact", desc := "(II)I", sig := { parameters := [.int, .int], returnType := some .int }, accessFlags := 9, code := some k4c1 }
/-- java/lang/Math -/
def k4 : Class := { plain "java/lang/Math" (some 0) with
  accessFlags := 49
  interfaces := #[]
  cf := some (fileOf pool4 1 #[.nestMembers #[98]] #[{ accessFlags := 2, nameIndex := 7, descriptorIndex := 8, attributes := #[] }, { accessFlags := 9, nameIndex := 393, descriptorIndex := 335, attributes := #[] }] 49 4 #[] #[{ accessFlags := 25, nameIndex := 354, descriptorIndex := 339, attributes := #[] }, { accessFlags := 25, nameIndex := 358, descriptorIndex := 339, attributes := #[] }, { accessFlags := 25, nameIndex := 361, descriptorIndex := 339, attributes := #[] }, { accessFlags := 26, nameIndex := 364, descriptorIndex := 339, attributes := #[] }, { accessFlags := 26, nameIndex := 365, descriptorIndex := 339, attributes := #[] }, { accessFlags := 26, nameIndex := 172, descriptorIndex := 173, attributes := #[] }, { accessFlags := 26, nameIndex := 176, descriptorIndex := 173, attributes := #[] }, { accessFlags := 8, nameIndex := 344, descriptorIndex := 339, attributes := #[] }, { accessFlags := 8, nameIndex := 338, descriptorIndex := 339, attributes := #[] }, { accessFlags := 4120, nameIndex := 245, descriptorIndex := 246, attributes := #[] }])
  fields := #[{ name := "E", type := .double, accessFlags := 25, slot := 0, constantValue := 0 }, { name := "PI", type := .double, accessFlags := 25, slot := 1, constantValue := 0 }, { name := "TAU", type := .double, accessFlags := 25, slot := 2, constantValue := 0 }, { name := "DEGREES_TO_RADIANS", type := .double, accessFlags := 26, slot := 3, constantValue := 0 }, { name := "RADIANS_TO_DEGREES", type := .double, accessFlags := 26, slot := 4, constantValue := 0 }, { name := "negativeZeroFloatBits", type := .long, accessFlags := 26, slot := 5, constantValue := 0 }, { name := "negativeZeroDoubleBits", type := .long, accessFlags := 26, slot := 6, constantValue := 0 }, { name := "twoToTheDoubleScaleUp", type := .double, accessFlags := 8, slot := 7, constantValue := 0 }, { name := "twoToTheDoubleScaleDown", type := .double, accessFlags := 8, slot := 8, constantValue := 0 }, { name := "$assertionsDisabled", type := .boolean, accessFlags := 4120, slot := 9, constantValue := 0 }]
  methods := #[k4m0, k4m1]
  instanceTypes := #[]
  staticTypes := #[.double, .double, .double, .double, .double, .long, .long, .double, .double, .boolean]
  resolved := Array.replicate 460 none
  statics := none }

def pool5 : Array CpInfo := pool [(1, u "java/lang/Cloneable"), (0, .class_ 1), (0, u "java/lang/Object"), (0, .class_ 3)] 3

/-- java/lang/Cloneable -/
def k5 : Class := { plain "java/lang/Cloneable" (some 0) with
  accessFlags := 1537
  interfaces := #[]
  cf := some (fileOf pool5 2 #[] #[] 1537 4 #[] #[])
  fields := #[]
  methods := #[]
  instanceTypes := #[]
  staticTypes := #[]
  resolved := Array.replicate 8 none
  statics := none }

def pool6 : Array CpInfo := pool [(1, u "java/io/Serializable"), (0, .class_ 1), (0, u "java/lang/Object"), (0, .class_ 3)] 3

/-- java/io/Serializable -/
def k6 : Class := { plain "java/io/Serializable" (some 0) with
  accessFlags := 1537
  interfaces := #[]
  cf := some (fileOf pool6 2 #[] #[] 1537 4 #[] #[])
  fields := #[]
  methods := #[]
  instanceTypes := #[]
  staticTypes := #[]
  resolved := Array.replicate 8 none
  statics := none }

/-- the primitive byte -/
def k7 : Class := { plain "byte" none with kind := .primitive 'B', accessFlags := 0x411 }
/-- [B -/
def k8 : Class := { plain "[B" (some 0) with kind := .array 7 .byte, interfaces := #[5, 6], accessFlags := 1041 }

/-- the primitive int -/
def k9 : Class := { plain "int" none with kind := .primitive 'I', accessFlags := 0x411 }
/-- [I -/
def k10 : Class := { plain "[I" (some 0) with kind := .array 9 .int, interfaces := #[5, 6], accessFlags := 1041 }

def heap : Heap := #[]
def classes : Array Class := #[k0, k1, k2, k3, k4, k5, k6, k7, k8, k9, k10]
def interned : List (Array UInt16 × Addr) := []
def slotsUsed : Nat := 0
def theMethod : MethodId := ⟨1, 2⟩
def args0 : Array Value := #[.int 5, .long 5, .long 5, .long 5, .long 5]
def aboutOver (below : List Frame) : State where
  vm := { classes := classes, interned := interned.toArray }
  heap := heap
  slotsUsed := slotsUsed
  threads := #[{ frames := .invoking theMethod args0 :: below }]
def below0 : List Frame := [.native { method := ⟨0, 0⟩, args := #[] }]
def about1 : State := aboutOver below0
def p0 : Program := .bare "" "" ""
def e0 : Env := launch0.env 0 0 0
theorem w_frames : about1.frames = Frame.invoking theMethod args0 :: below0 := rfl
set_option maxRecDepth 65536 in
theorem w_args : argsFit about1.vm theMethod args0 = true := by decide +kernel
set_option maxRecDepth 65536 in
theorem w_heap : heapFits about1 = true := by decide +kernel
set_option maxRecDepth 65536 in
theorem w_runnable : about1.curStatus? = some .runnable := by decide +kernel
set_option maxRecDepth 65536 in
theorem w_alone : about1.alone = true := by decide +kernel
set_option maxRecDepth 65536 in
theorem w_named : about1.methodNamed? x = some theMethod := by decide +kernel
set_option maxRecDepth 65536 in
theorem w_hears : about1.hears theMethod below0 = true := by decide +kernel
set_option maxRecDepth 65536 in
theorem w_ripe : about1.ripe theMethod args0 below0 = true := by decide +kernel
theorem w_running : about1.status = .running := rfl
set_option maxRecDepth 65536 in
theorem w_room : about1.hasRoom e0.platform room_1 = true :=
  launch0.hasRoom_least _ room_1 (by decide +kernel) (by decide +kernel) (by decide +kernel) (by decide +kernel) (by decide +kernel) (by decide +kernel)
theorem allAtoms_all (ts : List Jvm.Cond) (a : Array Jvm.Value) (st : Jvm.State) : (allAtoms ts).before a st = ts.all (fun c => c.before a st) := by
  induction ts with
  | nil => rfl
  | cons c t ih =>
    show (Jvm.Cond.and c (allAtoms t)).before a st = _
    rw [Jvm.Cond.before_and, ih, List.all_cons]
def words1 : List Jvm.Cond := Jvm.Cond.code x code maxLocals ret :: tables_1
/-- a 'code' word, met by the world's own term for the bytes: nothing is compared byte by byte -/
theorem code_word {y : MethodName} {bytes : ByteArray} {mx : Nat} {rt : Option FieldType} {a : Array Value} {s : State} {m : MethodId} {meth : Method} {c : Code} (h1 : s.methodNamed? y = some m) (h2 : s.vm.method? m = some meth) (h3 : meth.code = some c) (h4 : c.code = bytes)
    (h5 : (c.maxLocals == mx && c.exceptionTable.isEmpty && decide (c.maxStack ≤ mostOperands) && decide (meth.sig.returnType = rt) && !meth.locks && decide (parseMethodDescriptor y.desc = some meth.sig)) = true) : (Jvm.Cond.code y bytes mx rt).before a s = true := by
  simp only [Bool.and_eq_true, beq_iff_eq, Bool.not_eq_true', decide_eq_true_eq] at h5
  obtain ⟨⟨⟨⟨⟨g1, g2⟩, g3⟩, g4⟩, g5⟩, g6⟩ := h5
  simp [Cond.before, Cond.holds, Cond.value, h1, h2, h3, h4, g1, g2, g3, g4, g5, g6]
def isCode : Jvm.Cond → Bool
  | .code _ _ _ _ => true
  | _ => false
theorem all_split {L : List Jvm.Cond} {P : Jvm.Cond → Bool} (h1 : L.all (fun c => isCode c || P c) = true) (h2 : ∀ c ∈ L.filter isCode, P c = true) : L.all P = true := by
  refine List.all_eq_true.mpr fun c hc => ?_
  have h := List.all_eq_true.mp h1 c hc
  rcases Bool.eq_false_or_eq_true (isCode c) with hi | hi
  · exact h2 c (List.mem_filter.mpr ⟨hc, hi⟩)
  · simpa [hi] using h
set_option maxRecDepth 65536 in
theorem w_c0 : (Jvm.Cond.code x code maxLocals ret).before args0 about1 = true := code_word (m := ⟨1, 2⟩) (meth := k1m2) (c := k1c2) (by decide +kernel) rfl rfl rfl (by decide +kernel)
set_option maxRecDepth 65536 in
theorem w_c1 : (Jvm.Cond.code ({ cls := "com/example/forkline/forkline/TallyPlusPinLaw", name := "take", desc := "(IJ)I" } : Jvm.MethodName) method_2_code (3 : Nat) (Option.some Jvm.ClassFile.FieldType.int)).before args0 about1 = true := code_word (m := ⟨1, 1⟩) (meth := k1m1) (c := k1c1) (by decide +kernel) rfl rfl rfl (by decide +kernel)
set_option maxRecDepth 65536 in
theorem w_c2 : (Jvm.Cond.code ({ cls := "com/example/forkline/forkline/Tally", name := "<init>", desc := "(IIII)V" } : Jvm.MethodName) prog_21_method_1_code (5 : Nat) (Option.none : Option Jvm.ClassFile.FieldType)).before args0 about1 = true := code_word (m := ⟨3, 0⟩) (meth := k3m0) (c := k3c0) (by decide +kernel) rfl rfl rfl (by decide +kernel)
set_option maxRecDepth 65536 in
theorem w_c3 : (Jvm.Cond.code ({ cls := "java/lang/Record", name := "<init>", desc := "()V" } : Jvm.MethodName) jdk_30_method_1_code (1 : Nat) (Option.none : Option Jvm.ClassFile.FieldType)).before args0 about1 = true := code_word (m := ⟨2, 0⟩) (meth := k2m0) (c := k2c0) (by decide +kernel) rfl rfl rfl (by decide +kernel)
set_option maxRecDepth 65536 in
theorem w_c4 : (Jvm.Cond.code ({ cls := "java/lang/Object", name := "<init>", desc := "()V" } : Jvm.MethodName) object_method_1_code (1 : Nat) (Option.none : Option Jvm.ClassFile.FieldType)).before args0 about1 = true := code_word (m := ⟨0, 0⟩) (meth := k0m0) (c := k0c0) (by decide +kernel) rfl rfl rfl (by decide +kernel)
set_option maxRecDepth 65536 in
theorem w_c5 : (Jvm.Cond.code ({ cls := "com/example/forkline/forkline/Tally", name := "plus", desc := "(Lcom/example/forkline/forkline/Tally;)Lcom/example/forkline/forkline/Tally;" } : Jvm.MethodName) prog_21_method_3_code (2 : Nat) (Option.some (Jvm.ClassFile.FieldType.object "com/example/forkline/forkline/Tally"))).before args0 about1 = true := code_word (m := ⟨3, 1⟩) (meth := k3m1) (c := k3c1) (by decide +kernel) rfl rfl rfl (by decide +kernel)
set_option maxRecDepth 65536 in
theorem w_c6 : (Jvm.Cond.code ({ cls := "java/lang/Math", name := "addExact", desc := "(II)I" } : Jvm.MethodName) jdk_29_method_24_code (3 : Nat) (Option.some Jvm.ClassFile.FieldType.int)).before args0 about1 = true := code_word (m := ⟨4, 1⟩) (meth := k4m1) (c := k4c1) (by decide +kernel) rfl rfl rfl (by decide +kernel)
set_option maxRecDepth 65536 in
theorem w_c7 : (Jvm.Cond.code ({ cls := "com/example/forkline/forkline/Tally", name := "passed", desc := "()I" } : Jvm.MethodName) prog_21_method_9_code (1 : Nat) (Option.some Jvm.ClassFile.FieldType.int)).before args0 about1 = true := code_word (m := ⟨3, 2⟩) (meth := k3m2) (c := k3c2) (by decide +kernel) rfl rfl rfl (by decide +kernel)
set_option maxRecDepth 65536 in
theorem w_c8 : (Jvm.Cond.code ({ cls := "com/example/forkline/forkline/Tally", name := "failed", desc := "()I" } : Jvm.MethodName) prog_21_method_10_code (1 : Nat) (Option.some Jvm.ClassFile.FieldType.int)).before args0 about1 = true := code_word (m := ⟨3, 3⟩) (meth := k3m3) (c := k3c3) (by decide +kernel) rfl rfl rfl (by decide +kernel)
set_option maxRecDepth 65536 in
theorem w_c9 : (Jvm.Cond.code ({ cls := "com/example/forkline/forkline/Tally", name := "errors", desc := "()I" } : Jvm.MethodName) prog_21_method_11_code (1 : Nat) (Option.some Jvm.ClassFile.FieldType.int)).before args0 about1 = true := code_word (m := ⟨3, 4⟩) (meth := k3m4) (c := k3c4) (by decide +kernel) rfl rfl rfl (by decide +kernel)
set_option maxRecDepth 65536 in
theorem w_c10 : (Jvm.Cond.code ({ cls := "com/example/forkline/forkline/Tally", name := "skipped", desc := "()I" } : Jvm.MethodName) prog_21_method_12_code (1 : Nat) (Option.some Jvm.ClassFile.FieldType.int)).before args0 about1 = true := code_word (m := ⟨3, 5⟩) (meth := k3m5) (c := k3c5) (by decide +kernel) rfl rfl rfl (by decide +kernel)
def codes1 : List Jvm.Cond := [Jvm.Cond.code x code maxLocals ret, Jvm.Cond.code ({ cls := "com/example/forkline/forkline/TallyPlusPinLaw", name := "take", desc := "(IJ)I" } : Jvm.MethodName) method_2_code (3 : Nat) (Option.some Jvm.ClassFile.FieldType.int), Jvm.Cond.code ({ cls := "com/example/forkline/forkline/Tally", name := "<init>", desc := "(IIII)V" } : Jvm.MethodName) prog_21_method_1_code (5 : Nat) (Option.none : Option Jvm.ClassFile.FieldType), Jvm.Cond.code ({ cls := "java/lang/Record", name := "<init>", desc := "()V" } : Jvm.MethodName) jdk_30_method_1_code (1 : Nat) (Option.none : Option Jvm.ClassFile.FieldType), Jvm.Cond.code ({ cls := "java/lang/Object", name := "<init>", desc := "()V" } : Jvm.MethodName) object_method_1_code (1 : Nat) (Option.none : Option Jvm.ClassFile.FieldType), Jvm.Cond.code ({ cls := "com/example/forkline/forkline/Tally", name := "plus", desc := "(Lcom/example/forkline/forkline/Tally;)Lcom/example/forkline/forkline/Tally;" } : Jvm.MethodName) prog_21_method_3_code (2 : Nat) (Option.some (Jvm.ClassFile.FieldType.object "com/example/forkline/forkline/Tally")), Jvm.Cond.code ({ cls := "java/lang/Math", name := "addExact", desc := "(II)I" } : Jvm.MethodName) jdk_29_method_24_code (3 : Nat) (Option.some Jvm.ClassFile.FieldType.int), Jvm.Cond.code ({ cls := "com/example/forkline/forkline/Tally", name := "passed", desc := "()I" } : Jvm.MethodName) prog_21_method_9_code (1 : Nat) (Option.some Jvm.ClassFile.FieldType.int), Jvm.Cond.code ({ cls := "com/example/forkline/forkline/Tally", name := "failed", desc := "()I" } : Jvm.MethodName) prog_21_method_10_code (1 : Nat) (Option.some Jvm.ClassFile.FieldType.int), Jvm.Cond.code ({ cls := "com/example/forkline/forkline/Tally", name := "errors", desc := "()I" } : Jvm.MethodName) prog_21_method_11_code (1 : Nat) (Option.some Jvm.ClassFile.FieldType.int), Jvm.Cond.code ({ cls := "com/example/forkline/forkline/Tally", name := "skipped", desc := "()I" } : Jvm.MethodName) prog_21_method_12_code (1 : Nat) (Option.some Jvm.ClassFile.FieldType.int)]
set_option maxRecDepth 65536 in
theorem codes_eq : words1.filter isCode = codes1 := rfl
theorem w_codes : ∀ c ∈ words1.filter isCode, c.before args0 about1 = true := by
  rw [codes_eq]
  intro c hc
  simp only [codes1, List.mem_cons, List.not_mem_nil, or_false] at hc
  rcases hc with rfl | rfl | rfl | rfl | rfl | rfl | rfl | rfl | rfl | rfl | rfl
  · exact w_c0
  · exact w_c1
  · exact w_c2
  · exact w_c3
  · exact w_c4
  · exact w_c5
  · exact w_c6
  · exact w_c7
  · exact w_c8
  · exact w_c9
  · exact w_c10
set_option maxRecDepth 65536 in
theorem w_t1 : (words1.take 24).all (fun c => isCode c || c.before args0 about1) = true := by decide +kernel
set_option maxRecDepth 65536 in
theorem w_t2 : ((words1.drop 24).take 24).all (fun c => isCode c || c.before args0 about1) = true := by decide +kernel
set_option maxRecDepth 65536 in
theorem w_t3 : ((words1.drop 24).drop 24).all (fun c => isCode c || c.before args0 about1) = true := by decide +kernel
theorem w_tables : (allAtoms (Jvm.Cond.code x code maxLocals ret :: tables_1)).before args0 about1 = true := by
  rw [allAtoms_all]
  show words1.all (fun c => c.before args0 about1) = true
  refine all_split ?_ w_codes
  rw [← List.take_append_drop 24 words1, List.all_append, w_t1, ← List.take_append_drop 24 (words1.drop 24), List.all_append, w_t2, w_t3]
  rfl
set_option maxRecDepth 65536 in
theorem w_case : (Jvm.Cond.and given_1 narrow_1).before args0 about1 = true := by decide +kernel
theorem w_applies : (headSpec (Jvm.Cond.code x code maxLocals ret :: tables_1) room_1).applies x e0.platform about1 = true :=
  (Spec.applies_iff w_frames).mpr ⟨w_running, w_runnable, w_alone, w_named, w_hears, w_ripe, w_room, w_tables⟩
theorem atStart : AtStart classFile x code maxLocals ret World_1 tables_1 room_1 Calls_1 rest_1 Pre_1 launch0 p0 e0 about1 theMethod args0 below0 :=
  ⟨lists_1, trivial, launch0.admits_env _ _ _, launch0.least_env, fairChoices_fair.cas, fairChoices_fair.clock, w_frames, w_args, w_heap, w_applies, trivial, trivial, w_case⟩
end start1
theorem witness_1 : WitnessClaimed_1 := ⟨start1.p0, start1.e0, start1.about1, start1.theMethod, start1.args0, start1.below0, start1.atStart⟩
end Jvm.Pilot.@@N@@
