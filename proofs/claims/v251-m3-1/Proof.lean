import JvmDerived
import JvmDerived.Pilot.@@N@@Statement
import JvmDerived.Pilot.@@N@@Code
set_option linter.unusedVariables false
set_option linter.unusedSimpArgs false
namespace Jvm.RoadKit
open Sem ClassFile Op Lib Jvm.Stand Jvm.Free Jvm.LawKit
section New
variable {p : Program} {l : Launch} {e : Env} {R : Room} {s : State} {m : MethodId} {args : Array Value} {below : List Frame} {meth : Method} {c : Code} {T : State} {locs : List Loc} {cells slots : Nat}
theorem retI (X : Stand p l e R s m args below meth c T locs cells slots) (hx : p.tables.exec = Jvm.exec) {pc : Nat} {Ls : Array Slot} {z : Int32} {rest : List Value} (hret : meth.sig.returnType = some .int) (hd : decode c.code pc = .ok (.ireturn, 1)) {fs : List Frame}
    (hl : ∀ (f : JFrame) (acts : List Action), f.method = m → f.locked = none → f.entered = [] → (doReturn e (T.setTop f) acts (some (.int z))).1 = T.setFrames fs) : Steps p.tables e below (T.setTop (mkF m pc Ls (.int z :: rest))) (T.setFrames fs) := by
  have hm' : T.vm.method? m = some meth := X.method'
  have hn : narrow .int (.int z) = .int z := rfl
  show Steps p.tables e below (T.setTop { method := m, pc := pc, locals := Ls, stack := _ :: rest, locked := none }) _
  jvm_step X.here [X.here.top, hx, hd, hm', hret, hn]
  first | (intro acts; rw [hl _ acts rfl rfl rfl]) | rw [hl _ _ rfl rfl rfl]
  exact Steps.refl _
theorem own_lrem {target : State} (X : Stand p l e R s m args below meth c T locs cells slots) (hx : p.tables.exec = Jvm.exec) {g : JFrame} (hg : g.method = m) {x y : Int64} {rest : List Value} (hd : decode c.code g.pc = .ok (.lrem, 1)) (hs : g.stack = .long y :: .long x :: rest) (hy : y ≠ 0)
    (hr : Steps p.tables e below (T.setTop { g with pc := g.pc + 1, stack := .long (x % y) :: rest }) target) : Steps p.tables e below (T.setTop g) target :=
  XS.lrem X.here hx hg hd hs hy (by rw [lrem_mod]; exact hr)
theorem own_via {tb : Tables} {s0 target : State} (s' : State) (h : Steps tb e below s' target → Steps tb e below s0 target) (k : Steps tb e below s' target) : Steps tb e below s0 target := h k
end New
end Jvm.RoadKit
namespace Jvm.Pilot.@@N@@
open Jvm Jvm.ClassFile Sem Op Lib Jvm.Free Jvm.Stand Jvm.LawKit Jvm.RoadKit Bundle Jvm.Pilot.@@N@@.Jvm.D
theorem d3_0 : decode prog_8_method_2_code 0 = .ok (.aload_n 0, 1) := by decide +kernel
theorem d3_1 : decode prog_8_method_2_code 1 = .ok (.aload_n 1, 1) := by decide +kernel
theorem d3_2 : decode prog_8_method_2_code 2 = .ok (.putfield 15, 3) := by decide +kernel
theorem d3_5 : decode prog_8_method_2_code 5 = .ok (.aload_n 0, 1) := by decide +kernel
theorem d3_6 : decode prog_8_method_2_code 6 = .ok (.iload_n 2, 1) := by decide +kernel
theorem d3_7 : decode prog_8_method_2_code 7 = .ok (.putfield 19, 3) := by decide +kernel
theorem d3_10 : decode prog_8_method_2_code 10 = .ok (.aload_n 0, 1) := by decide +kernel
theorem d3_11 : decode prog_8_method_2_code 11 = .ok (.iload_n 3, 1) := by decide +kernel
theorem d3_12 : decode prog_8_method_2_code 12 = .ok (.putfield 23, 3) := by decide +kernel
theorem d3_15 : decode prog_8_method_2_code 15 = .ok (.aload_n 0, 1) := by decide +kernel
theorem d3_16 : decode prog_8_method_2_code 16 = .ok (.aload 4, 2) := by decide +kernel
theorem d3_18 : decode prog_8_method_2_code 18 = .ok (.putfield 26, 3) := by decide +kernel
theorem d3_21 : decode prog_8_method_2_code 21 = .ok (.aload_n 0, 1) := by decide +kernel
theorem d3_22 : decode prog_8_method_2_code 22 = .ok (.iload 5, 2) := by decide +kernel
theorem d3_24 : decode prog_8_method_2_code 24 = .ok (.putfield 30, 3) := by decide +kernel
theorem d3_27 : decode prog_8_method_2_code 27 = .ok (.return_, 1) := by decide +kernel
theorem pn_3 : plainName "com/example/slot16k/slot16k/Command" = true := by first | (simp [plainName, overriddenIn]; done) | decide +kernel
theorem ef_rm3 (m : MethodId) (a0 : Addr) (a1 : Addr) (p2 : Int32) (p3 : Int32) (a4 : Addr) (p5 : Int32) : entryFrame m #[(.ref a0), (.ref a1), (.int p2), (.int p3), (.ref a4), (.int p5)] 6 = mkF m 0 #[.val (.ref a0), .val (.ref a1), .val (.int p2), .val (.int p3), .val (.ref a4), .val (.int p5)] [] := by first | (simp [entryFrame, mkF, argsToLocals, Value.category]; done) | rfl
def Qrm3 (Z : State) (a0 : Addr) (a1 : Addr) (p2 : Int32) (p3 : Int32) (a4 : Addr) (p5 : Int32) (u_bytes : Value) (u_offset : Value) (u_length : Value) (u_bounds : Value) (u_arguments : Value) (h0 : Heap) (n0 : Nat) (v : Option Value) (h : Heap) (L : List Loc) : Prop := v = none ∧ Fr n0 L ∧ Keep h0 h [a0] ∧ Exa Z h a0 "com/example/slot16k/slot16k/Command" ∧ Fld Z h a0 "com/example/slot16k/slot16k/Command" "bytes" "[B" (.ref a1) ∧ Fld Z h a0 "com/example/slot16k/slot16k/Command" "offset" "I" (.int p2) ∧ Fld Z h a0 "com/example/slot16k/slot16k/Command" "length" "I" (.int p3) ∧ Fld Z h a0 "com/example/slot16k/slot16k/Command" "bounds" "[I" (.ref a4) ∧ Fld Z h a0 "com/example/slot16k/slot16k/Command" "arguments" "I" (.int p5)
set_option maxRecDepth 65536 in
set_option maxHeartbeats 40000000 in
theorem rm3 (l : Launch) (Z : State) (A0 : Array Value) (hw : ∀ d ∈ tables_1, d.before A0 Z = true) (ws : List Jvm.Cond) (a0 : Addr) (a1 : Addr) (p2 : Int32) (p3 : Int32) (a4 : Addr) (p5 : Int32) (u_bytes : Value) (u_offset : Value) (u_length : Value) (u_bounds : Value) (u_arguments : Value) (h0 : Heap) (n0 : Nat) (Z0 : n0 ≤ h0.size) (E_a0 : Exa Z h0 a0 "com/example/slot16k/slot16k/Command") (F_bytes_a0 : Fld Z h0 a0 "com/example/slot16k/slot16k/Command" "bytes" "[B" u_bytes) (F_offset_a0 : Fld Z h0 a0 "com/example/slot16k/slot16k/Command" "offset" "I" u_offset) (F_length_a0 : Fld Z h0 a0 "com/example/slot16k/slot16k/Command" "length" "I" u_length) (F_bounds_a0 : Fld Z h0 a0 "com/example/slot16k/slot16k/Command" "bounds" "[I" u_bounds) (F_arguments_a0 : Fld Z h0 a0 "com/example/slot16k/slot16k/Command" "arguments" "I" u_arguments) (g_a0 : n0 ≤ a0) :
    MetFree l (⟨"com/example/slot16k/slot16k/Command", "standIn", "([BII[II)V"⟩ : MethodName) (head1 (Jvm.Cond.code (⟨"com/example/slot16k/slot16k/Command", "standIn", "([BII[II)V"⟩ : MethodName) prog_8_method_2_code 6 none :: ws) ({ frames := 0, cells := 0, slots := 0, locals := 0 } : Room)) (fun a U => a = #[(.ref a0), (.ref a1), (.int p2), (.int p3), (.ref a4), (.int p5)] ∧ Z.Warmed39 U.vm ∧ U.heap = h0) (fun _ _ _ _ _ => True) (fun _ U o U' => ∃ v L, o = .returned v ∧ Qrm3 Z a0 a1 p2 p3 a4 p5 u_bytes u_offset u_length u_bounds u_arguments h0 n0 v U'.heap L ∧ FrameEnd U o U' L ({ frames := 0, cells := 0, slots := 0, locals := 0 } : Room).cells ({ frames := 0, cells := 0, slots := 0, locals := 0 } : Room).slots) := by
  refine MetFree.of_bodySF (plainFor_of_name pn_3) hisR ?_
  intro p e s m args below meth c s₁ Bd hml0 hP hK
  obtain ⟨rfl, hZ, hh⟩ := hP
  have hx := Bd.exec
  have hby := Bd.bytes
  have hml : c.maxLocals = 6 := hml0
  have hown : s.vm.findClass "com/example/slot16k/slot16k/Command" = some m.cls := findClass_of_methodNamed Bd.named
  have hnm := (name_of_methodNamed Bd.named Bd.method).1
  have X0 : Stand p l e ({ frames := 0, cells := 0, slots := 0, locals := 0 } : Room) s m #[(.ref a0), (.ref a1), (.int p2), (.int p3), (.ref a4), (.int p5)] below meth c s₁ [] 0 0 := Stand.of_body Bd
  have e0 : s₁.heap = h0 := by rw [← hh, Bd.state]; rfl
  have N0 := Fr.nil n0
  have K0 : Keep h0 h0 [a0] := Keep.refl _ _
  have pre0 : ∀ t, Steps p.tables e below (s₁.setTop (mkF m 0 #[.val (.ref a0), .val (.ref a1), .val (.int p2), .val (.int p3), .val (.ref a4), .val (.int p5)] [])) t → Steps p.tables e below (s₁.setTop (entryFrame m #[(.ref a0), (.ref a1), (.int p2), (.int p3), (.ref a4), (.int p5)] 6)) t := fun t k => castTop (ef_rm3 m a0 a1 p2 p3 a4 p5) k
  obtain ⟨T1, h1, X1, e1, W1, st1⟩ := putF X0 hx hZ hown (host := "") (Or.inl (hw _ (List.mem_of_getElem? (i := 16) rfl))) Via.refl e0 F_bytes_a0 E_a0 (Or.inl (hw _ (List.mem_of_getElem? (i := 17) rfl))) (hw _ (List.mem_of_getElem? (i := 3) rfl)) (ty := (.array .byte)) (by decide) rfl rfl (g := (mkF m 2 #[.val (.ref a0), .val (.ref a1), .val (.int p2), .val (.int p3), .val (.ref a4), .val (.int p5)] [(.ref a1), (.ref a0)])) rfl rfl (hb hby d3_2)
  have F_bytes_a0 : Fld Z h1 a0 "com/example/slot16k/slot16k/Command" "bytes" "[B" (.ref a1) := F_bytes_a0.same W1
  have E_a0 : Exa Z h1 a0 "com/example/slot16k/slot16k/Command" := E_a0.wr W1
  have F_offset_a0 : Fld Z h1 a0 "com/example/slot16k/slot16k/Command" "offset" "I" u_offset := F_offset_a0.other W1 (Or.inr (slot_ne (Or.inl (hw _ (List.mem_of_getElem? (i := 19) rfl))) (Or.inl (hw _ (List.mem_of_getElem? (i := 17) rfl))) (by decide) (t := .int) (t' := (.array .byte)) (by decide) (by decide)))
  have F_length_a0 : Fld Z h1 a0 "com/example/slot16k/slot16k/Command" "length" "I" u_length := F_length_a0.other W1 (Or.inr (slot_ne (Or.inl (hw _ (List.mem_of_getElem? (i := 21) rfl))) (Or.inl (hw _ (List.mem_of_getElem? (i := 17) rfl))) (by decide) (t := .int) (t' := (.array .byte)) (by decide) (by decide)))
  have F_bounds_a0 : Fld Z h1 a0 "com/example/slot16k/slot16k/Command" "bounds" "[I" u_bounds := F_bounds_a0.other W1 (Or.inr (slot_ne (Or.inl (hw _ (List.mem_of_getElem? (i := 23) rfl))) (Or.inl (hw _ (List.mem_of_getElem? (i := 17) rfl))) (by decide) (t := (.array .int)) (t' := (.array .byte)) (by decide) (by decide)))
  have F_arguments_a0 : Fld Z h1 a0 "com/example/slot16k/slot16k/Command" "arguments" "I" u_arguments := F_arguments_a0.other W1 (Or.inr (slot_ne (Or.inl (hw _ (List.mem_of_getElem? (i := 25) rfl))) (Or.inl (hw _ (List.mem_of_getElem? (i := 17) rfl))) (by decide) (t := .int) (t' := (.array .byte)) (by decide) (by decide)))
  have Zh1 : n0 ≤ h1.size := Nat.le_trans Z0 (Keep.of_wr W1).1
  have Kh1 : Keep h0 h1 [a0] := K0.wr W1 (Or.inl (by simp))
  have N1 := Fr.snoc X1 N0 g_a0
  obtain ⟨T2, h2, X2, e2, W2, st2⟩ := putF X1 hx hZ hown (host := "") (Or.inl (hw _ (List.mem_of_getElem? (i := 18) rfl))) Via.refl e1 F_offset_a0 E_a0 (Or.inl (hw _ (List.mem_of_getElem? (i := 19) rfl))) (hw _ (List.mem_of_getElem? (i := 3) rfl)) (ty := .int) (by decide) rfl rfl (g := (mkF m 7 #[.val (.ref a0), .val (.ref a1), .val (.int p2), .val (.int p3), .val (.ref a4), .val (.int p5)] [(.int p2), (.ref a0)])) rfl rfl (hb hby d3_7)
  have F_offset_a0 : Fld Z h2 a0 "com/example/slot16k/slot16k/Command" "offset" "I" (.int p2) := F_offset_a0.same W2
  have E_a0 : Exa Z h2 a0 "com/example/slot16k/slot16k/Command" := E_a0.wr W2
  have F_bytes_a0 : Fld Z h2 a0 "com/example/slot16k/slot16k/Command" "bytes" "[B" (.ref a1) := F_bytes_a0.other W2 (Or.inr (slot_ne (Or.inl (hw _ (List.mem_of_getElem? (i := 17) rfl))) (Or.inl (hw _ (List.mem_of_getElem? (i := 19) rfl))) (by decide) (t := (.array .byte)) (t' := .int) (by decide) (by decide)))
  have F_length_a0 : Fld Z h2 a0 "com/example/slot16k/slot16k/Command" "length" "I" u_length := F_length_a0.other W2 (Or.inr (slot_ne (Or.inl (hw _ (List.mem_of_getElem? (i := 21) rfl))) (Or.inl (hw _ (List.mem_of_getElem? (i := 19) rfl))) (by decide) (t := .int) (t' := .int) (by decide) (by decide)))
  have F_bounds_a0 : Fld Z h2 a0 "com/example/slot16k/slot16k/Command" "bounds" "[I" u_bounds := F_bounds_a0.other W2 (Or.inr (slot_ne (Or.inl (hw _ (List.mem_of_getElem? (i := 23) rfl))) (Or.inl (hw _ (List.mem_of_getElem? (i := 19) rfl))) (by decide) (t := (.array .int)) (t' := .int) (by decide) (by decide)))
  have F_arguments_a0 : Fld Z h2 a0 "com/example/slot16k/slot16k/Command" "arguments" "I" u_arguments := F_arguments_a0.other W2 (Or.inr (slot_ne (Or.inl (hw _ (List.mem_of_getElem? (i := 25) rfl))) (Or.inl (hw _ (List.mem_of_getElem? (i := 19) rfl))) (by decide) (t := .int) (t' := .int) (by decide) (by decide)))
  have Zh2 : n0 ≤ h2.size := Nat.le_trans Zh1 (Keep.of_wr W2).1
  have Kh2 : Keep h0 h2 [a0] := Kh1.wr W2 (Or.inl (by simp))
  have N2 := Fr.snoc X2 N1 g_a0
  obtain ⟨T3, h3, X3, e3, W3, st3⟩ := putF X2 hx hZ hown (host := "") (Or.inl (hw _ (List.mem_of_getElem? (i := 20) rfl))) Via.refl e2 F_length_a0 E_a0 (Or.inl (hw _ (List.mem_of_getElem? (i := 21) rfl))) (hw _ (List.mem_of_getElem? (i := 3) rfl)) (ty := .int) (by decide) rfl rfl (g := (mkF m 12 #[.val (.ref a0), .val (.ref a1), .val (.int p2), .val (.int p3), .val (.ref a4), .val (.int p5)] [(.int p3), (.ref a0)])) rfl rfl (hb hby d3_12)
  have F_length_a0 : Fld Z h3 a0 "com/example/slot16k/slot16k/Command" "length" "I" (.int p3) := F_length_a0.same W3
  have E_a0 : Exa Z h3 a0 "com/example/slot16k/slot16k/Command" := E_a0.wr W3
  have F_bytes_a0 : Fld Z h3 a0 "com/example/slot16k/slot16k/Command" "bytes" "[B" (.ref a1) := F_bytes_a0.other W3 (Or.inr (slot_ne (Or.inl (hw _ (List.mem_of_getElem? (i := 17) rfl))) (Or.inl (hw _ (List.mem_of_getElem? (i := 21) rfl))) (by decide) (t := (.array .byte)) (t' := .int) (by decide) (by decide)))
  have F_offset_a0 : Fld Z h3 a0 "com/example/slot16k/slot16k/Command" "offset" "I" (.int p2) := F_offset_a0.other W3 (Or.inr (slot_ne (Or.inl (hw _ (List.mem_of_getElem? (i := 19) rfl))) (Or.inl (hw _ (List.mem_of_getElem? (i := 21) rfl))) (by decide) (t := .int) (t' := .int) (by decide) (by decide)))
  have F_bounds_a0 : Fld Z h3 a0 "com/example/slot16k/slot16k/Command" "bounds" "[I" u_bounds := F_bounds_a0.other W3 (Or.inr (slot_ne (Or.inl (hw _ (List.mem_of_getElem? (i := 23) rfl))) (Or.inl (hw _ (List.mem_of_getElem? (i := 21) rfl))) (by decide) (t := (.array .int)) (t' := .int) (by decide) (by decide)))
  have F_arguments_a0 : Fld Z h3 a0 "com/example/slot16k/slot16k/Command" "arguments" "I" u_arguments := F_arguments_a0.other W3 (Or.inr (slot_ne (Or.inl (hw _ (List.mem_of_getElem? (i := 25) rfl))) (Or.inl (hw _ (List.mem_of_getElem? (i := 21) rfl))) (by decide) (t := .int) (t' := .int) (by decide) (by decide)))
  have Zh3 : n0 ≤ h3.size := Nat.le_trans Zh2 (Keep.of_wr W3).1
  have Kh3 : Keep h0 h3 [a0] := Kh2.wr W3 (Or.inl (by simp))
  have N3 := Fr.snoc X3 N2 g_a0
  obtain ⟨T4, h4, X4, e4, W4, st4⟩ := putF X3 hx hZ hown (host := "") (Or.inl (hw _ (List.mem_of_getElem? (i := 22) rfl))) Via.refl e3 F_bounds_a0 E_a0 (Or.inl (hw _ (List.mem_of_getElem? (i := 23) rfl))) (hw _ (List.mem_of_getElem? (i := 3) rfl)) (ty := (.array .int)) (by decide) rfl rfl (g := (mkF m 18 #[.val (.ref a0), .val (.ref a1), .val (.int p2), .val (.int p3), .val (.ref a4), .val (.int p5)] [(.ref a4), (.ref a0)])) rfl rfl (hb hby d3_18)
  have F_bounds_a0 : Fld Z h4 a0 "com/example/slot16k/slot16k/Command" "bounds" "[I" (.ref a4) := F_bounds_a0.same W4
  have E_a0 : Exa Z h4 a0 "com/example/slot16k/slot16k/Command" := E_a0.wr W4
  have F_bytes_a0 : Fld Z h4 a0 "com/example/slot16k/slot16k/Command" "bytes" "[B" (.ref a1) := F_bytes_a0.other W4 (Or.inr (slot_ne (Or.inl (hw _ (List.mem_of_getElem? (i := 17) rfl))) (Or.inl (hw _ (List.mem_of_getElem? (i := 23) rfl))) (by decide) (t := (.array .byte)) (t' := (.array .int)) (by decide) (by decide)))
  have F_offset_a0 : Fld Z h4 a0 "com/example/slot16k/slot16k/Command" "offset" "I" (.int p2) := F_offset_a0.other W4 (Or.inr (slot_ne (Or.inl (hw _ (List.mem_of_getElem? (i := 19) rfl))) (Or.inl (hw _ (List.mem_of_getElem? (i := 23) rfl))) (by decide) (t := .int) (t' := (.array .int)) (by decide) (by decide)))
  have F_length_a0 : Fld Z h4 a0 "com/example/slot16k/slot16k/Command" "length" "I" (.int p3) := F_length_a0.other W4 (Or.inr (slot_ne (Or.inl (hw _ (List.mem_of_getElem? (i := 21) rfl))) (Or.inl (hw _ (List.mem_of_getElem? (i := 23) rfl))) (by decide) (t := .int) (t' := (.array .int)) (by decide) (by decide)))
  have F_arguments_a0 : Fld Z h4 a0 "com/example/slot16k/slot16k/Command" "arguments" "I" u_arguments := F_arguments_a0.other W4 (Or.inr (slot_ne (Or.inl (hw _ (List.mem_of_getElem? (i := 25) rfl))) (Or.inl (hw _ (List.mem_of_getElem? (i := 23) rfl))) (by decide) (t := .int) (t' := (.array .int)) (by decide) (by decide)))
  have Zh4 : n0 ≤ h4.size := Nat.le_trans Zh3 (Keep.of_wr W4).1
  have Kh4 : Keep h0 h4 [a0] := Kh3.wr W4 (Or.inl (by simp))
  have N4 := Fr.snoc X4 N3 g_a0
  obtain ⟨T5, h5, X5, e5, W5, st5⟩ := putF X4 hx hZ hown (host := "") (Or.inl (hw _ (List.mem_of_getElem? (i := 24) rfl))) Via.refl e4 F_arguments_a0 E_a0 (Or.inl (hw _ (List.mem_of_getElem? (i := 25) rfl))) (hw _ (List.mem_of_getElem? (i := 3) rfl)) (ty := .int) (by decide) rfl rfl (g := (mkF m 24 #[.val (.ref a0), .val (.ref a1), .val (.int p2), .val (.int p3), .val (.ref a4), .val (.int p5)] [(.int p5), (.ref a0)])) rfl rfl (hb hby d3_24)
  have F_arguments_a0 : Fld Z h5 a0 "com/example/slot16k/slot16k/Command" "arguments" "I" (.int p5) := F_arguments_a0.same W5
  have E_a0 : Exa Z h5 a0 "com/example/slot16k/slot16k/Command" := E_a0.wr W5
  have F_bytes_a0 : Fld Z h5 a0 "com/example/slot16k/slot16k/Command" "bytes" "[B" (.ref a1) := F_bytes_a0.other W5 (Or.inr (slot_ne (Or.inl (hw _ (List.mem_of_getElem? (i := 17) rfl))) (Or.inl (hw _ (List.mem_of_getElem? (i := 25) rfl))) (by decide) (t := (.array .byte)) (t' := .int) (by decide) (by decide)))
  have F_offset_a0 : Fld Z h5 a0 "com/example/slot16k/slot16k/Command" "offset" "I" (.int p2) := F_offset_a0.other W5 (Or.inr (slot_ne (Or.inl (hw _ (List.mem_of_getElem? (i := 19) rfl))) (Or.inl (hw _ (List.mem_of_getElem? (i := 25) rfl))) (by decide) (t := .int) (t' := .int) (by decide) (by decide)))
  have F_length_a0 : Fld Z h5 a0 "com/example/slot16k/slot16k/Command" "length" "I" (.int p3) := F_length_a0.other W5 (Or.inr (slot_ne (Or.inl (hw _ (List.mem_of_getElem? (i := 21) rfl))) (Or.inl (hw _ (List.mem_of_getElem? (i := 25) rfl))) (by decide) (t := .int) (t' := .int) (by decide) (by decide)))
  have F_bounds_a0 : Fld Z h5 a0 "com/example/slot16k/slot16k/Command" "bounds" "[I" (.ref a4) := F_bounds_a0.other W5 (Or.inr (slot_ne (Or.inl (hw _ (List.mem_of_getElem? (i := 23) rfl))) (Or.inl (hw _ (List.mem_of_getElem? (i := 25) rfl))) (by decide) (t := (.array .int)) (t' := .int) (by decide) (by decide)))
  have Zh5 : n0 ≤ h5.size := Nat.le_trans Zh4 (Keep.of_wr W5).1
  have Kh5 : Keep h0 h5 [a0] := Kh4.wr W5 (Or.inl (by simp))
  have N5 := Fr.snoc X5 N4 g_a0
  obtain ⟨fs, hr, hrun, hended, hW, hsame⟩ := X5.leave (v := none) (fun _ => rfl)
  refine ⟨_, _, pre0 _ ?_, hrun, hended, _, _, rfl, ?_, ⟨_, rfl⟩, hW, hsame.mono (by decide) (by decide)⟩
  · show Steps p.tables e below (s₁.setTop (mkF m 0 #[.val (.ref a0), .val (.ref a1), .val (.int p2), .val (.int p3), .val (.ref a4), .val (.int p5)] [])) _
    refine XS.aloadN X0.here hx rfl (hb hby d3_0) rfl rfl ?_
    show Steps p.tables e below (s₁.setTop (mkF m 1 #[.val (.ref a0), .val (.ref a1), .val (.int p2), .val (.int p3), .val (.ref a4), .val (.int p5)] [(.ref a0)])) _
    refine XS.aloadN X0.here hx rfl (hb hby d3_1) rfl rfl ?_
    show Steps p.tables e below (s₁.setTop (mkF m 2 #[.val (.ref a0), .val (.ref a1), .val (.int p2), .val (.int p3), .val (.ref a4), .val (.int p5)] [(.ref a1), (.ref a0)])) _
    refine st1 _ ?_
    show Steps p.tables e below (T1.setTop (mkF m 5 #[.val (.ref a0), .val (.ref a1), .val (.int p2), .val (.int p3), .val (.ref a4), .val (.int p5)] [])) _
    refine XS.aloadN X1.here hx rfl (hb hby d3_5) rfl rfl ?_
    show Steps p.tables e below (T1.setTop (mkF m 6 #[.val (.ref a0), .val (.ref a1), .val (.int p2), .val (.int p3), .val (.ref a4), .val (.int p5)] [(.ref a0)])) _
    refine XS.iloadN X1.here hx rfl (hb hby d3_6) rfl ?_
    show Steps p.tables e below (T1.setTop (mkF m 7 #[.val (.ref a0), .val (.ref a1), .val (.int p2), .val (.int p3), .val (.ref a4), .val (.int p5)] [(.int p2), (.ref a0)])) _
    refine st2 _ ?_
    show Steps p.tables e below (T2.setTop (mkF m 10 #[.val (.ref a0), .val (.ref a1), .val (.int p2), .val (.int p3), .val (.ref a4), .val (.int p5)] [])) _
    refine XS.aloadN X2.here hx rfl (hb hby d3_10) rfl rfl ?_
    show Steps p.tables e below (T2.setTop (mkF m 11 #[.val (.ref a0), .val (.ref a1), .val (.int p2), .val (.int p3), .val (.ref a4), .val (.int p5)] [(.ref a0)])) _
    refine XS.iloadN X2.here hx rfl (hb hby d3_11) rfl ?_
    show Steps p.tables e below (T2.setTop (mkF m 12 #[.val (.ref a0), .val (.ref a1), .val (.int p2), .val (.int p3), .val (.ref a4), .val (.int p5)] [(.int p3), (.ref a0)])) _
    refine st3 _ ?_
    show Steps p.tables e below (T3.setTop (mkF m 15 #[.val (.ref a0), .val (.ref a1), .val (.int p2), .val (.int p3), .val (.ref a4), .val (.int p5)] [])) _
    refine XS.aloadN X3.here hx rfl (hb hby d3_15) rfl rfl ?_
    show Steps p.tables e below (T3.setTop (mkF m 16 #[.val (.ref a0), .val (.ref a1), .val (.int p2), .val (.int p3), .val (.ref a4), .val (.int p5)] [(.ref a0)])) _
    refine XS.aload X3.here hx rfl (hb hby d3_16) rfl rfl ?_
    show Steps p.tables e below (T3.setTop (mkF m 18 #[.val (.ref a0), .val (.ref a1), .val (.int p2), .val (.int p3), .val (.ref a4), .val (.int p5)] [(.ref a4), (.ref a0)])) _
    refine st4 _ ?_
    show Steps p.tables e below (T4.setTop (mkF m 21 #[.val (.ref a0), .val (.ref a1), .val (.int p2), .val (.int p3), .val (.ref a4), .val (.int p5)] [])) _
    refine XS.aloadN X4.here hx rfl (hb hby d3_21) rfl rfl ?_
    show Steps p.tables e below (T4.setTop (mkF m 22 #[.val (.ref a0), .val (.ref a1), .val (.int p2), .val (.int p3), .val (.ref a4), .val (.int p5)] [(.ref a0)])) _
    refine XS.iload X4.here hx rfl (hb hby d3_22) rfl ?_
    show Steps p.tables e below (T4.setTop (mkF m 24 #[.val (.ref a0), .val (.ref a1), .val (.int p2), .val (.int p3), .val (.ref a4), .val (.int p5)] [(.int p5), (.ref a0)])) _
    refine st5 _ ?_
    show Steps p.tables e below (T5.setTop (mkF m 27 #[.val (.ref a0), .val (.ref a1), .val (.int p2), .val (.int p3), .val (.ref a4), .val (.int p5)] [])) _
    exact X5.returnOut hx Bd.returns (hb hby d3_27) hr
  · show Qrm3 Z a0 a1 p2 p3 a4 p5 u_bytes u_offset u_length u_bounds u_arguments h0 n0 _ T5.heap _
    rw [e5]
    exact ⟨rfl, N5, Kh5, E_a0, F_bytes_a0, F_offset_a0, F_length_a0, F_bounds_a0, F_arguments_a0⟩
theorem pd_0 : parseMethodDescriptor "([BII[II)V" = some ⟨[(.array .byte), .int, .int, (.array .int), .int], none⟩ := by decide +kernel
theorem d1_0 : decode prog_8_method_1_code 0 = .ok (.aload_n 0, 1) := by decide +kernel
theorem d1_1 : decode prog_8_method_1_code 1 = .ok (.invokespecial 3, 3) := by decide +kernel
theorem d1_4 : decode prog_8_method_1_code 4 = .ok (.aload_n 0, 1) := by decide +kernel
theorem d1_5 : decode prog_8_method_1_code 5 = .ok (.aload_n 1, 1) := by decide +kernel
theorem d1_6 : decode prog_8_method_1_code 6 = .ok (.iload_n 2, 1) := by decide +kernel
theorem d1_7 : decode prog_8_method_1_code 7 = .ok (.iload_n 3, 1) := by decide +kernel
theorem d1_8 : decode prog_8_method_1_code 8 = .ok (.aload 4, 2) := by decide +kernel
theorem d1_10 : decode prog_8_method_1_code 10 = .ok (.iload 5, 2) := by decide +kernel
theorem d1_12 : decode prog_8_method_1_code 12 = .ok (.invokevirtual 9, 3) := by decide +kernel
theorem d1_15 : decode prog_8_method_1_code 15 = .ok (.return_, 1) := by decide +kernel
theorem pn_1 : plainName "com/example/slot16k/slot16k/Command" = true := by first | (simp [plainName, overriddenIn]; done) | decide +kernel
theorem ef_rm1 (m : MethodId) (a0 : Addr) (a1 : Addr) (p2 : Int32) (p3 : Int32) (a4 : Addr) (p5 : Int32) : entryFrame m #[(.ref a0), (.ref a1), (.int p2), (.int p3), (.ref a4), (.int p5)] 6 = mkF m 0 #[.val (.ref a0), .val (.ref a1), .val (.int p2), .val (.int p3), .val (.ref a4), .val (.int p5)] [] := by first | (simp [entryFrame, mkF, argsToLocals, Value.category]; done) | rfl
def Qrm1 (Z : State) (a0 : Addr) (a1 : Addr) (p2 : Int32) (p3 : Int32) (a4 : Addr) (p5 : Int32) (u_bytes : Value) (u_offset : Value) (u_length : Value) (u_bounds : Value) (u_arguments : Value) (h0 : Heap) (n0 : Nat) (v : Option Value) (h : Heap) (L : List Loc) : Prop := v = none ∧ Fr n0 L ∧ Keep h0 h [a0] ∧ Exa Z h a0 "com/example/slot16k/slot16k/Command" ∧ Fld Z h a0 "com/example/slot16k/slot16k/Command" "bytes" "[B" (.ref a1) ∧ Fld Z h a0 "com/example/slot16k/slot16k/Command" "offset" "I" (.int p2) ∧ Fld Z h a0 "com/example/slot16k/slot16k/Command" "length" "I" (.int p3) ∧ Fld Z h a0 "com/example/slot16k/slot16k/Command" "bounds" "[I" (.ref a4) ∧ Fld Z h a0 "com/example/slot16k/slot16k/Command" "arguments" "I" (.int p5)
set_option maxRecDepth 65536 in
set_option maxHeartbeats 40000000 in
theorem rm1 (l : Launch) (Z : State) (A0 : Array Value) (hw : ∀ d ∈ tables_1, d.before A0 Z = true) (ws : List Jvm.Cond) (a0 : Addr) (a1 : Addr) (p2 : Int32) (p3 : Int32) (a4 : Addr) (p5 : Int32) (u_bytes : Value) (u_offset : Value) (u_length : Value) (u_bounds : Value) (u_arguments : Value) (h0 : Heap) (n0 : Nat) (Z0 : n0 ≤ h0.size) (E_a0 : Exa Z h0 a0 "com/example/slot16k/slot16k/Command") (F_bytes_a0 : Fld Z h0 a0 "com/example/slot16k/slot16k/Command" "bytes" "[B" u_bytes) (F_offset_a0 : Fld Z h0 a0 "com/example/slot16k/slot16k/Command" "offset" "I" u_offset) (F_length_a0 : Fld Z h0 a0 "com/example/slot16k/slot16k/Command" "length" "I" u_length) (F_bounds_a0 : Fld Z h0 a0 "com/example/slot16k/slot16k/Command" "bounds" "[I" u_bounds) (F_arguments_a0 : Fld Z h0 a0 "com/example/slot16k/slot16k/Command" "arguments" "I" u_arguments) (g_a0 : n0 ≤ a0) :
    MetFree l (⟨"com/example/slot16k/slot16k/Command", "<init>", "([BII[II)V"⟩ : MethodName) (head1 (Jvm.Cond.code (⟨"com/example/slot16k/slot16k/Command", "<init>", "([BII[II)V"⟩ : MethodName) prog_8_method_1_code 6 none :: ws) ({ frames := 1, cells := 0, slots := 0, locals := 17 } : Room)) (fun a U => a = #[(.ref a0), (.ref a1), (.int p2), (.int p3), (.ref a4), (.int p5)] ∧ Z.Warmed39 U.vm ∧ U.heap = h0) (fun _ _ _ _ _ => True) (fun _ U o U' => ∃ v L, o = .returned v ∧ Qrm1 Z a0 a1 p2 p3 a4 p5 u_bytes u_offset u_length u_bounds u_arguments h0 n0 v U'.heap L ∧ FrameEnd U o U' L ({ frames := 1, cells := 0, slots := 0, locals := 17 } : Room).cells ({ frames := 1, cells := 0, slots := 0, locals := 17 } : Room).slots) := by
  refine MetFree.of_bodySF (plainFor_of_name pn_1) hisR ?_
  intro p e s m args below meth c s₁ Bd hml0 hP hK
  obtain ⟨rfl, hZ, hh⟩ := hP
  have hx := Bd.exec
  have hby := Bd.bytes
  have hml : c.maxLocals = 6 := hml0
  have hown : s.vm.findClass "com/example/slot16k/slot16k/Command" = some m.cls := findClass_of_methodNamed Bd.named
  have hnm := (name_of_methodNamed Bd.named Bd.method).1
  have X0 : Stand p l e ({ frames := 1, cells := 0, slots := 0, locals := 17 } : Room) s m #[(.ref a0), (.ref a1), (.int p2), (.int p3), (.ref a4), (.int p5)] below meth c s₁ [] 0 0 := Stand.of_body Bd
  have e0 : s₁.heap = h0 := by rw [← hh, Bd.state]; rfl
  have N0 := Fr.nil n0
  have K0 : Keep h0 h0 [a0] := Keep.refl _ _
  have pre0 : ∀ t, Steps p.tables e below (s₁.setTop (mkF m 0 #[.val (.ref a0), .val (.ref a1), .val (.int p2), .val (.int p3), .val (.ref a4), .val (.int p5)] [])) t → Steps p.tables e below (s₁.setTop (entryFrame m #[(.ref a0), (.ref a1), (.int p2), (.int p3), (.ref a4), (.int p5)] 6)) t := fun t k => castTop (ef_rm1 m a0 a1 p2 p3 a4 p5) k
  obtain ⟨T1, X1, e1, st1⟩ := initO X0 hx hZ hown (hw _ (List.mem_of_getElem? (i := 8) rfl)) (hw _ (List.mem_of_getElem? (i := 9) rfl)) (hw _ (List.mem_of_getElem? (i := 10) rfl)) e0 (g := (mkF m 1 #[.val (.ref a0), .val (.ref a1), .val (.int p2), .val (.int p3), .val (.ref a4), .val (.int p5)] [(.ref a0)])) rfl (by rw [hml]; rfl) rfl (hb hby d1_1) (by decide) (W := 0) (by show 2 * 0 + _ ≤ _; exact Nat.le_of_eq rfl) (by decide)
  obtain ⟨cq2, kq2, q2a, q2b, q2c⟩ := isOf hZ e1 E_a0
  obtain ⟨_, _, ⟨T2, L2, k2, n2⟩, -, X2, ⟨Lc2, hQ2, l2, y2, z2⟩, st2⟩ := X1.virtualBack hx (y := (⟨"com/example/slot16k/slot16k/Command", "standIn", "([BII[II)V"⟩ : MethodName)) (z := (⟨"com/example/slot16k/slot16k/Command", "standIn", "([BII[II)V"⟩ : MethodName)) hown (mvT hZ (hw _ (List.mem_of_getElem? (i := 11) rfl))) (mvT hZ (hw _ (List.mem_of_getElem? (i := 12) rfl))) (notFace_of_selects (args := #[]) (mvT hZ (hw _ (List.mem_of_getElem? (i := 14) rfl)))) (mvT hZ (hw _ (List.mem_of_getElem? (i := 14) rfl))) (mvT hZ (hw _ (List.mem_of_getElem? (i := 13) rfl))) (by decide) (backOf (W := 0) (rm3 l Z A0 hw [] a0 a1 p2 p3 a4 p5 u_bytes u_offset u_length u_bounds u_arguments h0 n0 Z0 E_a0 F_bytes_a0 F_offset_a0 F_length_a0 F_bounds_a0 F_arguments_a0 g_a0) hZ (hw _ (List.mem_of_getElem? (i := 15) rfl)) (hw _ (List.mem_of_getElem? (i := 4) rfl)) (by decide) (by decide)) q2a q2c (g := (mkF m 12 #[.val (.ref a0), .val (.ref a1), .val (.int p2), .val (.int p3), .val (.ref a4), .val (.int p5)] [(.int p5), (.ref a4), (.int p3), (.int p2), (.ref a1), (.ref a0)])) rfl (by rw [hml]; rfl) (Steps.refl _) (argsL := [(.ref a1), (.int p2), (.int p3), (.ref a4), (.int p5)]) (rest := []) (lenOf pd_0 rfl) rfl (by show 2 * 0 + _ ≤ _; exact Nat.le_of_eq rfl) (hb hby d1_12) (fun _ _ => ⟨rfl, e1, (by decide : 0 + 0 ≤ _), (by decide : 0 + 0 ≤ _)⟩)
  dsimp only [Pt.U, Pt.locs, Pt.cells, Pt.slots] at X2 l2 y2 z2 st2 hQ2
  subst l2 y2 z2
  obtain ⟨rfl, N2q, Kc2, P2_0, P2_1, P2_2, P2_3, P2_4, P2_5⟩ := hQ2
  have N2 := Fr.app N0 N2q
  have E_a0 : Exa Z T2.heap a0 "com/example/slot16k/slot16k/Command" := E_a0.keep Kc2
  have ZT2_heap : n0 ≤ T2.heap.size := Nat.le_trans Z0 Kc2.1
  have KT2_heap : Keep h0 T2.heap [a0] := K0.trans Kc2 (allS (Or.inl (by simp)) all0)
  have E_a0 : Exa Z T2.heap a0 "com/example/slot16k/slot16k/Command" := P2_0
  have F_bytes_a0 : Fld Z T2.heap a0 "com/example/slot16k/slot16k/Command" "bytes" "[B" (.ref a1) := P2_1
  have F_offset_a0 : Fld Z T2.heap a0 "com/example/slot16k/slot16k/Command" "offset" "I" (.int p2) := P2_2
  have F_length_a0 : Fld Z T2.heap a0 "com/example/slot16k/slot16k/Command" "length" "I" (.int p3) := P2_3
  have F_bounds_a0 : Fld Z T2.heap a0 "com/example/slot16k/slot16k/Command" "bounds" "[I" (.ref a4) := P2_4
  have F_arguments_a0 : Fld Z T2.heap a0 "com/example/slot16k/slot16k/Command" "arguments" "I" (.int p5) := P2_5
  obtain ⟨fs, hr, hrun, hended, hW, hsame⟩ := X2.leave (v := none) (fun _ => rfl)
  refine ⟨_, _, pre0 _ ?_, hrun, hended, _, _, rfl, ?_, ⟨_, rfl⟩, hW, hsame.mono (by decide) (by decide)⟩
  · show Steps p.tables e below (s₁.setTop (mkF m 0 #[.val (.ref a0), .val (.ref a1), .val (.int p2), .val (.int p3), .val (.ref a4), .val (.int p5)] [])) _
    refine XS.aloadN X0.here hx rfl (hb hby d1_0) rfl rfl ?_
    show Steps p.tables e below (s₁.setTop (mkF m 1 #[.val (.ref a0), .val (.ref a1), .val (.int p2), .val (.int p3), .val (.ref a4), .val (.int p5)] [(.ref a0)])) _
    refine st1 _ ?_
    show Steps p.tables e below (T1.setTop (mkF m 4 #[.val (.ref a0), .val (.ref a1), .val (.int p2), .val (.int p3), .val (.ref a4), .val (.int p5)] [])) _
    refine XS.aloadN X1.here hx rfl (hb hby d1_4) rfl rfl ?_
    show Steps p.tables e below (T1.setTop (mkF m 5 #[.val (.ref a0), .val (.ref a1), .val (.int p2), .val (.int p3), .val (.ref a4), .val (.int p5)] [(.ref a0)])) _
    refine XS.aloadN X1.here hx rfl (hb hby d1_5) rfl rfl ?_
    show Steps p.tables e below (T1.setTop (mkF m 6 #[.val (.ref a0), .val (.ref a1), .val (.int p2), .val (.int p3), .val (.ref a4), .val (.int p5)] [(.ref a1), (.ref a0)])) _
    refine XS.iloadN X1.here hx rfl (hb hby d1_6) rfl ?_
    show Steps p.tables e below (T1.setTop (mkF m 7 #[.val (.ref a0), .val (.ref a1), .val (.int p2), .val (.int p3), .val (.ref a4), .val (.int p5)] [(.int p2), (.ref a1), (.ref a0)])) _
    refine XS.iloadN X1.here hx rfl (hb hby d1_7) rfl ?_
    show Steps p.tables e below (T1.setTop (mkF m 8 #[.val (.ref a0), .val (.ref a1), .val (.int p2), .val (.int p3), .val (.ref a4), .val (.int p5)] [(.int p3), (.int p2), (.ref a1), (.ref a0)])) _
    refine XS.aload X1.here hx rfl (hb hby d1_8) rfl rfl ?_
    show Steps p.tables e below (T1.setTop (mkF m 10 #[.val (.ref a0), .val (.ref a1), .val (.int p2), .val (.int p3), .val (.ref a4), .val (.int p5)] [(.ref a4), (.int p3), (.int p2), (.ref a1), (.ref a0)])) _
    refine XS.iload X1.here hx rfl (hb hby d1_10) rfl ?_
    show Steps p.tables e below (T1.setTop (mkF m 12 #[.val (.ref a0), .val (.ref a1), .val (.int p2), .val (.int p3), .val (.ref a4), .val (.int p5)] [(.int p5), (.ref a4), (.int p3), (.int p2), (.ref a1), (.ref a0)])) _
    refine st2.trans ?_
    show Steps p.tables e below (T2.setTop (mkF m 15 #[.val (.ref a0), .val (.ref a1), .val (.int p2), .val (.int p3), .val (.ref a4), .val (.int p5)] [])) _
    exact X2.returnOut hx Bd.returns (hb hby d1_15) hr
  · show Qrm1 Z a0 a1 p2 p3 a4 p5 u_bytes u_offset u_length u_bounds u_arguments h0 n0 _ T2.heap _
    exact ⟨rfl, N2, KT2_heap, E_a0, F_bytes_a0, F_offset_a0, F_length_a0, F_bounds_a0, F_arguments_a0⟩
theorem d4_0 : decode prog_8_method_12_code 0 = .ok (.aload_n 0, 1) := by decide +kernel
theorem d4_1 : decode prog_8_method_12_code 1 = .ok (.getfield 19, 3) := by decide +kernel
theorem d4_4 : decode prog_8_method_12_code 4 = .ok (.aload_n 0, 1) := by decide +kernel
theorem d4_5 : decode prog_8_method_12_code 5 = .ok (.getfield 26, 3) := by decide +kernel
theorem d4_8 : decode prog_8_method_12_code 8 = .ok (.iconst 2, 1) := by decide +kernel
theorem d4_9 : decode prog_8_method_12_code 9 = .ok (.iload_n 1, 1) := by decide +kernel
theorem d4_10 : decode prog_8_method_12_code 10 = .ok (.imul, 1) := by decide +kernel
theorem d4_11 : decode prog_8_method_12_code 11 = .ok (.iconst 1, 1) := by decide +kernel
theorem d4_12 : decode prog_8_method_12_code 12 = .ok (.iadd, 1) := by decide +kernel
theorem d4_13 : decode prog_8_method_12_code 13 = .ok (.iaload, 1) := by decide +kernel
theorem d4_14 : decode prog_8_method_12_code 14 = .ok (.iadd, 1) := by decide +kernel
theorem d4_15 : decode prog_8_method_12_code 15 = .ok (.ireturn, 1) := by decide +kernel
theorem pn_4 : plainName "com/example/slot16k/slot16k/Command" = true := by first | (simp [plainName, overriddenIn]; done) | decide +kernel
theorem ef_rm4 (m : MethodId) (a0 : Addr) (p1 : Int32) : entryFrame m #[(.ref a0), (.int p1)] 2 = mkF m 0 #[.val (.ref a0), .val (.int p1)] [] := by first | (simp [entryFrame, mkF, argsToLocals, Value.category]; done) | rfl
def Qrm4 (Z : State) (a0 : Addr) (p1 : Int32) (off : Int32) (bb : Addr) (kk : ClassId) (nn : Int32) (vs : List Value) (dv : Value) (xx : Int32) (h0 : Heap) (n0 : Nat) (v : Option Value) (h : Heap) (L : List Loc) : Prop := v = some (.int (off + xx)) ∧ Fr n0 L ∧ h = h0
set_option maxRecDepth 65536 in
set_option maxHeartbeats 40000000 in
theorem rm4 (l : Launch) (Z : State) (A0 : Array Value) (hw : ∀ d ∈ tables_1, d.before A0 Z = true) (ws : List Jvm.Cond) (a0 : Addr) (p1 : Int32) (off : Int32) (bb : Addr) (kk : ClassId) (nn : Int32) (vs : List Value) (dv : Value) (xx : Int32) (h0 : Heap) (n0 : Nat) (Z0 : n0 ≤ h0.size) (F_offset_a0 : Fld Z h0 a0 "com/example/slot16k/slot16k/Command" "offset" "I" (.int off)) (F_bounds_a0 : Fld Z h0 a0 "com/example/slot16k/slot16k/Command" "bounds" "[I" (.ref bb)) (V_bb : Arv Z h0 bb kk .int nn vs dv) (hin : ¬ ((((2 : Int32) * p1) + (1 : Int32)) < 0) ∧ (((2 : Int32) * p1) + (1 : Int32)) < nn) (hat : vs.getD ((((2 : Int32) * p1) + (1 : Int32))).toNatClampNeg dv = .int xx) :
    MetFree l (⟨"com/example/slot16k/slot16k/Command", "end", "(I)I"⟩ : MethodName) (head1 (Jvm.Cond.code (⟨"com/example/slot16k/slot16k/Command", "end", "(I)I"⟩ : MethodName) prog_8_method_12_code 2 (some .int) :: ws) ({ frames := 0, cells := 0, slots := 0, locals := 0 } : Room)) (fun a U => a = #[(.ref a0), (.int p1)] ∧ Z.Warmed39 U.vm ∧ U.heap = h0) (fun _ _ _ _ _ => True) (fun _ U o U' => ∃ v L, o = .returned v ∧ Qrm4 Z a0 p1 off bb kk nn vs dv xx h0 n0 v U'.heap L ∧ FrameEnd U o U' L ({ frames := 0, cells := 0, slots := 0, locals := 0 } : Room).cells ({ frames := 0, cells := 0, slots := 0, locals := 0 } : Room).slots) := by
  refine MetFree.of_bodySF (plainFor_of_name pn_4) hisR ?_
  intro p e s m args below meth c s₁ Bd hml0 hP hK
  obtain ⟨rfl, hZ, hh⟩ := hP
  have hx := Bd.exec
  have hby := Bd.bytes
  have hml : c.maxLocals = 2 := hml0
  have hown : s.vm.findClass "com/example/slot16k/slot16k/Command" = some m.cls := findClass_of_methodNamed Bd.named
  have hnm := (name_of_methodNamed Bd.named Bd.method).1
  have X0 : Stand p l e ({ frames := 0, cells := 0, slots := 0, locals := 0 } : Room) s m #[(.ref a0), (.int p1)] below meth c s₁ [] 0 0 := Stand.of_body Bd
  have e0 : s₁.heap = h0 := by rw [← hh, Bd.state]; rfl
  have N0 := Fr.nil n0
  have K0 : Keep h0 h0 [] := Keep.refl _ _
  have pre0 : ∀ t, Steps p.tables e below (s₁.setTop (mkF m 0 #[.val (.ref a0), .val (.int p1)] [])) t → Steps p.tables e below (s₁.setTop (entryFrame m #[(.ref a0), (.int p1)] 2)) t := fun t k => castTop (ef_rm4 m a0 p1) k
  obtain ⟨T1, X1, e1, st1⟩ := getF X0 hx hZ hown (host := "") (Or.inl (hw _ (List.mem_of_getElem? (i := 18) rfl))) Via.refl e0 F_offset_a0 (g := (mkF m 1 #[.val (.ref a0), .val (.int p1)] [(.ref a0)])) rfl rfl (hb hby d4_1)
  obtain ⟨T2, X2, e2, st2⟩ := getF X1 hx hZ hown (host := "") (Or.inl (hw _ (List.mem_of_getElem? (i := 22) rfl))) Via.refl e1 F_bounds_a0 (g := (mkF m 5 #[.val (.ref a0), .val (.int p1)] [(.ref a0), (.int off)])) rfl rfl (hb hby d4_5)
  obtain ⟨cl3, Ar3, -, S3, M3, H3, -⟩ := V_bb
  have hin3 := inb_of S3 hin
  have hat3 : cl3.slots[((((2 : Int32) * p1) + (1 : Int32))).toNatClampNeg]? = some (.int xx) := H3.at hin3 hat
  obtain ⟨fs, hr, hrun, hended, hW, hsame⟩ := X2.leave (v := some (.int (off + xx))) (fun h => by rw [Bd.returns] at h; cases h)
  refine ⟨_, _, pre0 _ ?_, hrun, hended, _, _, rfl, ?_, ⟨_, rfl⟩, hW, hsame.mono (by decide) (by decide)⟩
  · show Steps p.tables e below (s₁.setTop (mkF m 0 #[.val (.ref a0), .val (.int p1)] [])) _
    refine XS.aloadN X0.here hx rfl (hb hby d4_0) rfl rfl ?_
    show Steps p.tables e below (s₁.setTop (mkF m 1 #[.val (.ref a0), .val (.int p1)] [(.ref a0)])) _
    refine st1 _ ?_
    show Steps p.tables e below (T1.setTop (mkF m 4 #[.val (.ref a0), .val (.int p1)] [(.int off)])) _
    refine XS.aloadN X1.here hx rfl (hb hby d4_4) rfl rfl ?_
    show Steps p.tables e below (T1.setTop (mkF m 5 #[.val (.ref a0), .val (.int p1)] [(.ref a0), (.int off)])) _
    refine st2 _ ?_
    show Steps p.tables e below (T2.setTop (mkF m 8 #[.val (.ref a0), .val (.int p1)] [(.ref bb), (.int off)])) _
    refine XS.iconst X2.here hx rfl (hb hby d4_8) ?_
    show Steps p.tables e below (T2.setTop (mkF m 9 #[.val (.ref a0), .val (.int p1)] [(.int (2 : Int32)), (.ref bb), (.int off)])) _
    refine XS.iloadN X2.here hx rfl (hb hby d4_9) rfl ?_
    show Steps p.tables e below (T2.setTop (mkF m 10 #[.val (.ref a0), .val (.int p1)] [(.int p1), (.int (2 : Int32)), (.ref bb), (.int off)])) _
    refine XS.imul X2.here hx rfl (hb hby d4_10) rfl ?_
    show Steps p.tables e below (T2.setTop (mkF m 11 #[.val (.ref a0), .val (.int p1)] [(.int ((2 : Int32) * p1)), (.ref bb), (.int off)])) _
    refine XS.iconst X2.here hx rfl (hb hby d4_11) ?_
    show Steps p.tables e below (T2.setTop (mkF m 12 #[.val (.ref a0), .val (.int p1)] [(.int (1 : Int32)), (.int ((2 : Int32) * p1)), (.ref bb), (.int off)])) _
    refine XS.iadd X2.here hx rfl (hb hby d4_12) rfl ?_
    show Steps p.tables e below (T2.setTop (mkF m 13 #[.val (.ref a0), .val (.int p1)] [(.int (((2 : Int32) * p1) + (1 : Int32))), (.ref bb), (.int off)])) _
    refine X2.iaload hx (j := (((2 : Int32) * p1) + (1 : Int32))) (v := (.int xx)) (by rw [e2]; exact Ar3.1) (State.isArrayOf_alike hZ.alike Ar3.2.1) Ar3.2.2 hin3 hat3 (g := (mkF m 13 #[.val (.ref a0), .val (.int p1)] [(.int (((2 : Int32) * p1) + (1 : Int32))), (.ref bb), (.int off)])) rfl rfl (hb hby d4_13) _ ?_
    show Steps p.tables e below (T2.setTop (mkF m 14 #[.val (.ref a0), .val (.int p1)] [(.int xx), (.int off)])) _
    refine XS.iadd X2.here hx rfl (hb hby d4_14) rfl ?_
    show Steps p.tables e below (T2.setTop (mkF m 15 #[.val (.ref a0), .val (.int p1)] [(.int (off + xx))])) _
    exact retI X2 hx Bd.returns (hb hby d4_15) hr
  · show Qrm4 Z a0 p1 off bb kk nn vs dv xx h0 n0 _ T2.heap _
    rw [e2]
    exact ⟨rfl, N0, rfl⟩
theorem own_and7 (z : Int32) : ¬ ((z &&& (7 : Int32)) < 0) ∧ (z &&& (7 : Int32)).toNatClampNeg ≤ 7 := by
  have a := c_mask z 7 3 (by decide) (by decide)
  have e3 : ((2 ^ 3 : Nat) : Int) = 8 := by decide
  rw [e3] at a
  have e0 : (0 : Int32).toInt = 0 := by decide
  constructor
  · rw [Int32.lt_iff_toInt_lt, e0]; omega
  · show (z &&& (7 : Int32)).toInt.toNat ≤ 7
    omega
theorem pd_1 : parseMethodDescriptor "(I)I" = some ⟨[.int], some .int⟩ := by decide +kernel
theorem pn_0 : plainName "com/example/slot16k/slot16k/CommandEndPinLaw" = true := by first | (simp [plainName, overriddenIn]; done) | decide +kernel
theorem ef_rm0 (m : MethodId) (p0 : Int32) (p1 : Int32) (p2 : Int32) (p3 : Int32) (p4 : Int32) (p5 : Int32) : entryFrame m #[(.int p0), (.int p1), (.int p2), (.int p3), (.int p4), (.int p5)] maxLocals = mkF m 0 #[.val (.int p0), .val (.int p1), .val (.int p2), .val (.int p3), .val (.int p4), .val (.int p5), .unset, .unset, .unset, .unset, .unset, .unset] [] := by first | (simp [entryFrame, mkF, argsToLocals, Value.category, maxLocals]; done) | rfl
def Qrm0 (Z : State) (p0 : Int32) (p1 : Int32) (p2 : Int32) (p3 : Int32) (p4 : Int32) (p5 : Int32) (h0 : Heap) (n0 : Nat) (v : Option Value) (h : Heap) (L : List Loc) : Prop := v = some (.int (1 : Int32)) ∧ Fr n0 L
set_option maxRecDepth 65536 in
set_option maxHeartbeats 40000000 in
theorem rm0 (l : Launch) (Z : State) (A0 : Array Value) (hw : ∀ d ∈ tables_1, d.before A0 Z = true) (ws : List Jvm.Cond) (p0 : Int32) (p1 : Int32) (p2 : Int32) (p3 : Int32) (p4 : Int32) (p5 : Int32) (h0 : Heap) (n0 : Nat) (Z0 : n0 ≤ h0.size) :
    MetFree l x (head1 (Jvm.Cond.code x code maxLocals ret :: ws) room_1) (fun a U => a = #[(.int p0), (.int p1), (.int p2), (.int p3), (.int p4), (.int p5)] ∧ Z.Warmed39 U.vm ∧ U.heap = h0) (fun _ _ _ _ _ => True) (fun _ U o U' => ∃ v L, o = .returned v ∧ Qrm0 Z p0 p1 p2 p3 p4 p5 h0 n0 v U'.heap L ∧ FrameEnd U o U' L room_1.cells room_1.slots) := by
  refine MetFree.of_bodySF (plainFor_of_name pn_0) hisR ?_
  intro p e s m args below meth c s₁ Bd hml0 hP hK
  obtain ⟨rfl, hZ, hh⟩ := hP
  have hx := Bd.exec
  have hby := Bd.bytes
  have hml : c.maxLocals = 12 := hml0
  have hown : s.vm.findClass "com/example/slot16k/slot16k/CommandEndPinLaw" = some m.cls := findClass_of_methodNamed Bd.named
  have hnm := (name_of_methodNamed Bd.named Bd.method).1
  have X0 : Stand p l e room_1 s m #[(.int p0), (.int p1), (.int p2), (.int p3), (.int p4), (.int p5)] below meth c s₁ [] 0 0 := Stand.of_body Bd
  have e0 : s₁.heap = h0 := by rw [← hh, Bd.state]; rfl
  have N0 := Fr.nil n0
  have K0 : Keep h0 h0 [] := Keep.refl _ _
  have pre0 : ∀ t, Steps p.tables e below (s₁.setTop (mkF m 0 #[.val (.int p0), .val (.int p1), .val (.int p2), .val (.int p3), .val (.int p4), .val (.int p5), .unset, .unset, .unset, .unset, .unset, .unset] [])) t → Steps p.tables e below (s₁.setTop (entryFrame m #[(.int p0), (.int p1), (.int p2), (.int p3), (.int p4), (.int p5)] maxLocals)) t := fun t k => castTop (ef_rm0 m p0 p1 p2 p3 p4 p5) k
  obtain ⟨T1, h1, k1, X1, e1, E1, A1, st1⟩ := newP X0 hx hZ (hw _ (List.mem_of_getElem? (i := 0) rfl)) e0 (g := (mkF m 2 #[.val (.int p0), .val (.int p1), .val (.int p2), .val (.int p3), .val (.int p4), .val (.int p5), .unset, .unset, .unset, .unset, .unset, .unset] [(.int (6 : Int32))])) rfl (hb hby at_2) rfl (by decide) (cap := 6) (by decide) (by decide) (by decide) (by decide)
  obtain ⟨bs, g1⟩ : ∃ z, z = h0.size := ⟨_, rfl⟩
  rw [← g1] at A1 st1
  have g_bs : n0 ≤ bs := Nat.le_trans Z0 (Nat.le_of_eq g1.symm)
  have sz_bs : h0.size ≤ bs := Nat.le_trans K0.1 (Nat.le_of_eq g1.symm)
  have Zh1 : n0 ≤ h1.size := Nat.le_trans Z0 E1.1
  have Kh1 : Keep h0 h1 [] := K0.ext E1
  have V_bs : Arv Z h1 bs k1 .int (6 : Int32) [(.int (0 : Int32)), (.int (0 : Int32)), (.int (0 : Int32)), (.int (0 : Int32)), (.int (0 : Int32)), (.int (0 : Int32))] (.int (0 : Int32)) := (Arv.new A1 (by decide)).pad (pad_rep [] (.int (0 : Int32)) 6)
  obtain ⟨cl2, Ar2, q2, S2, M2, H2, G2⟩ := V_bs
  have hin2 := inb_of S2 (j := (0 : Int32)) ⟨by decide, by decide⟩
  obtain ⟨T2, h2, X2, e2, W2, st2⟩ := stI X1 hx hZ e1 Ar2 (j := (0 : Int32)) hin2 (g := (mkF m 10 #[.val (.int p0), .val (.int p1), .val (.int p2), .val (.int p3), .val (.int p4), .val (.int p5), .val (.ref bs), .unset, .unset, .unset, .unset, .unset] [(.int p1), (.int (0 : Int32)), (.ref bs)])) rfl rfl (hb hby at_10)
  have V_bs : Arv Z h2 bs k1 .int (6 : Int32) [(.int p1), (.int (0 : Int32)), (.int (0 : Int32)), (.int (0 : Int32)), (.int (0 : Int32)), (.int (0 : Int32))] (.int (0 : Int32)) := Arv.set Ar2 q2 S2 M2 H2 G2 rfl W2 0 rfl (Nat.le_of_ble_eq_true rfl)
  have Zh2 : n0 ≤ h2.size := Nat.le_trans Zh1 (Keep.of_wr W2).1
  have Kh2 : Keep h0 h2 [] := Kh1.wr W2 (Or.inr sz_bs)
  have N2 := Fr.snoc X2 N0 g_bs
  obtain ⟨cl3, Ar3, q3, S3, M3, H3, G3⟩ := V_bs
  have hin3 := inb_of S3 (j := (1 : Int32)) ⟨by decide, by decide⟩
  obtain ⟨T3, h3, X3, e3, W3, st3⟩ := stI X2 hx hZ e2 Ar3 (j := (1 : Int32)) hin3 (g := (mkF m 15 #[.val (.int p0), .val (.int p1), .val (.int p2), .val (.int p3), .val (.int p4), .val (.int p5), .val (.ref bs), .unset, .unset, .unset, .unset, .unset] [(.int p2), (.int (1 : Int32)), (.ref bs)])) rfl rfl (hb hby at_15)
  have V_bs : Arv Z h3 bs k1 .int (6 : Int32) [(.int p1), (.int p2), (.int (0 : Int32)), (.int (0 : Int32)), (.int (0 : Int32)), (.int (0 : Int32))] (.int (0 : Int32)) := Arv.set Ar3 q3 S3 M3 H3 G3 rfl W3 1 rfl (Nat.le_of_ble_eq_true rfl)
  have Zh3 : n0 ≤ h3.size := Nat.le_trans Zh2 (Keep.of_wr W3).1
  have Kh3 : Keep h0 h3 [] := Kh2.wr W3 (Or.inr sz_bs)
  have N3 := Fr.snoc X3 N2 g_bs
  obtain ⟨cl4, Ar4, q4, S4, M4, H4, G4⟩ := V_bs
  have hin4 := inb_of S4 (j := (2 : Int32)) ⟨by decide, by decide⟩
  obtain ⟨T4, h4, X4, e4, W4, st4⟩ := stI X3 hx hZ e3 Ar4 (j := (2 : Int32)) hin4 (g := (mkF m 20 #[.val (.int p0), .val (.int p1), .val (.int p2), .val (.int p3), .val (.int p4), .val (.int p5), .val (.ref bs), .unset, .unset, .unset, .unset, .unset] [(.int p3), (.int (2 : Int32)), (.ref bs)])) rfl rfl (hb hby at_20)
  have V_bs : Arv Z h4 bs k1 .int (6 : Int32) [(.int p1), (.int p2), (.int p3), (.int (0 : Int32)), (.int (0 : Int32)), (.int (0 : Int32))] (.int (0 : Int32)) := Arv.set Ar4 q4 S4 M4 H4 G4 rfl W4 2 rfl (Nat.le_of_ble_eq_true rfl)
  have Zh4 : n0 ≤ h4.size := Nat.le_trans Zh3 (Keep.of_wr W4).1
  have Kh4 : Keep h0 h4 [] := Kh3.wr W4 (Or.inr sz_bs)
  have N4 := Fr.snoc X4 N3 g_bs
  obtain ⟨cl5, Ar5, q5, S5, M5, H5, G5⟩ := V_bs
  have hin5 := inb_of S5 (j := (3 : Int32)) ⟨by decide, by decide⟩
  obtain ⟨T5, h5, X5, e5, W5, st5⟩ := stI X4 hx hZ e4 Ar5 (j := (3 : Int32)) hin5 (g := (mkF m 26 #[.val (.int p0), .val (.int p1), .val (.int p2), .val (.int p3), .val (.int p4), .val (.int p5), .val (.ref bs), .unset, .unset, .unset, .unset, .unset] [(.int p4), (.int (3 : Int32)), (.ref bs)])) rfl rfl (hb hby at_26)
  have V_bs : Arv Z h5 bs k1 .int (6 : Int32) [(.int p1), (.int p2), (.int p3), (.int p4), (.int (0 : Int32)), (.int (0 : Int32))] (.int (0 : Int32)) := Arv.set Ar5 q5 S5 M5 H5 G5 rfl W5 3 rfl (Nat.le_of_ble_eq_true rfl)
  have Zh5 : n0 ≤ h5.size := Nat.le_trans Zh4 (Keep.of_wr W5).1
  have Kh5 : Keep h0 h5 [] := Kh4.wr W5 (Or.inr sz_bs)
  have N5 := Fr.snoc X5 N4 g_bs
  obtain ⟨cl6, Ar6, q6, S6, M6, H6, G6⟩ := V_bs
  have hin6 := inb_of S6 (j := (4 : Int32)) ⟨by decide, by decide⟩
  obtain ⟨T6, h6, X6, e6, W6, st6⟩ := stI X5 hx hZ e5 Ar6 (j := (4 : Int32)) hin6 (g := (mkF m 32 #[.val (.int p0), .val (.int p1), .val (.int p2), .val (.int p3), .val (.int p4), .val (.int p5), .val (.ref bs), .unset, .unset, .unset, .unset, .unset] [(.int p5), (.int (4 : Int32)), (.ref bs)])) rfl rfl (hb hby at_32)
  have V_bs : Arv Z h6 bs k1 .int (6 : Int32) [(.int p1), (.int p2), (.int p3), (.int p4), (.int p5), (.int (0 : Int32))] (.int (0 : Int32)) := Arv.set Ar6 q6 S6 M6 H6 G6 rfl W6 4 rfl (Nat.le_of_ble_eq_true rfl)
  have Zh6 : n0 ≤ h6.size := Nat.le_trans Zh5 (Keep.of_wr W6).1
  have Kh6 : Keep h0 h6 [] := Kh5.wr W6 (Or.inr sz_bs)
  have N6 := Fr.snoc X6 N5 g_bs
  obtain ⟨cl7, Ar7, q7, S7, M7, H7, G7⟩ := V_bs
  have hin7 := inb_of S7 (j := (5 : Int32)) ⟨by decide, by decide⟩
  obtain ⟨T7, h7, X7, e7, W7, st7⟩ := stI X6 hx hZ e6 Ar7 (j := (5 : Int32)) hin7 (g := (mkF m 40 #[.val (.int p0), .val (.int p1), .val (.int p2), .val (.int p3), .val (.int p4), .val (.int p5), .val (.ref bs), .unset, .unset, .unset, .unset, .unset] [(.int (p1 ^^^ p5)), (.int (5 : Int32)), (.ref bs)])) rfl rfl (hb hby at_40)
  have V_bs : Arv Z h7 bs k1 .int (6 : Int32) [(.int p1), (.int p2), (.int p3), (.int p4), (.int p5), (.int (p1 ^^^ p5))] (.int (0 : Int32)) := Arv.set Ar7 q7 S7 M7 H7 G7 rfl W7 5 rfl (Nat.le_of_ble_eq_true rfl)
  have Zh7 : n0 ≤ h7.size := Nat.le_trans Zh6 (Keep.of_wr W7).1
  have Kh7 : Keep h0 h7 [] := Kh6.wr W7 (Or.inr sz_bs)
  have N7 := Fr.snoc X7 N6 g_bs
  obtain ⟨T8, h8, k8, X8, e8, E8, A8, st8⟩ := newP X7 hx hZ (hw _ (List.mem_of_getElem? (i := 1) rfl)) e7 (g := (mkF m 46 #[.val (.int p0), .val (.int p1), .val (.int p2), .val (.int p3), .val (.int p4), .val (.int p5), .val (.ref bs), .unset, .unset, .unset, .unset, .unset] [(.int (p5 &&& (7 : Int32)))])) rfl (hb hby at_46) rfl (own_and7 p5).1 (cap := 7) (own_and7 p5).2 (by decide) (by decide) (by decide)
  obtain ⟨yb, g8⟩ : ∃ z, z = h7.size := ⟨_, rfl⟩
  rw [← g8] at A8 st8
  have ne_bs_yb : bs ≠ yb := Nat.ne_of_lt (Nat.lt_of_lt_of_le V_bs.lt (Nat.le_of_eq g8.symm))
  have g_yb : n0 ≤ yb := Nat.le_trans Zh7 (Nat.le_of_eq g8.symm)
  have sz_yb : h0.size ≤ yb := Nat.le_trans Kh7.1 (Nat.le_of_eq g8.symm)
  have V_bs : Arv Z h8 bs k1 .int (6 : Int32) [(.int p1), (.int p2), (.int p3), (.int p4), (.int p5), (.int (p1 ^^^ p5))] (.int (0 : Int32)) := V_bs.ext E8
  have Zh8 : n0 ≤ h8.size := Nat.le_trans Zh7 E8.1
  have Kh8 : Keep h0 h8 [] := Kh7.ext E8
  have V_yb : Arv Z h8 yb k8 .byte (p5 &&& (7 : Int32)) [] (.int (0 : Int32)) := Arv.new A8 (own_and7 p5).1
  obtain ⟨T9, h9, X9, e9, E9, A9, D9, -, st9⟩ := newO X8 hx hZ hown (hw _ (List.mem_of_getElem? (i := 2) rfl)) (hw _ (List.mem_of_getElem? (i := 3) rfl)) (hw _ (List.mem_of_getElem? (i := 4) rfl)) e8 (g := (mkF m 50 #[.val (.int p0), .val (.int p1), .val (.int p2), .val (.int p3), .val (.int p4), .val (.int p5), .val (.ref bs), .val (.ref yb), .unset, .unset, .unset, .unset] [])) rfl (hb hby at_50) (by decide) (by decide)
  obtain ⟨cm, g9⟩ : ∃ z, z = h8.size := ⟨_, rfl⟩
  rw [← g9] at A9 D9 st9
  have ne_bs_cm : bs ≠ cm := Nat.ne_of_lt (Nat.lt_of_lt_of_le V_bs.lt (Nat.le_of_eq g9.symm))
  have ne_yb_cm : yb ≠ cm := Nat.ne_of_lt (Nat.lt_of_lt_of_le V_yb.lt (Nat.le_of_eq g9.symm))
  have g_cm : n0 ≤ cm := Nat.le_trans Zh8 (Nat.le_of_eq g9.symm)
  have sz_cm : h0.size ≤ cm := Nat.le_trans Kh8.1 (Nat.le_of_eq g9.symm)
  have V_bs : Arv Z h9 bs k1 .int (6 : Int32) [(.int p1), (.int p2), (.int p3), (.int p4), (.int p5), (.int (p1 ^^^ p5))] (.int (0 : Int32)) := V_bs.ext E9
  have V_yb : Arv Z h9 yb k8 .byte (p5 &&& (7 : Int32)) [] (.int (0 : Int32)) := V_yb.ext E9
  have Zh9 : n0 ≤ h9.size := Nat.le_trans Zh8 E9.1
  have Kh9 : Keep h0 h9 [] := Kh8.ext E9
  have E_cm : Exa Z h9 cm "com/example/slot16k/slot16k/Command" := A9
  have F_bytes_cm : Fld Z h9 cm "com/example/slot16k/slot16k/Command" "bytes" "[B" .null := D9 (Or.inl (hw _ (List.mem_of_getElem? (i := 17) rfl))) (ty := (.array .byte)) (by decide)
  have F_offset_cm : Fld Z h9 cm "com/example/slot16k/slot16k/Command" "offset" "I" (.int (0 : Int32)) := D9 (Or.inl (hw _ (List.mem_of_getElem? (i := 19) rfl))) (ty := .int) (by decide)
  have F_length_cm : Fld Z h9 cm "com/example/slot16k/slot16k/Command" "length" "I" (.int (0 : Int32)) := D9 (Or.inl (hw _ (List.mem_of_getElem? (i := 21) rfl))) (ty := .int) (by decide)
  have F_bounds_cm : Fld Z h9 cm "com/example/slot16k/slot16k/Command" "bounds" "[I" .null := D9 (Or.inl (hw _ (List.mem_of_getElem? (i := 23) rfl))) (ty := (.array .int)) (by decide)
  have F_arguments_cm : Fld Z h9 cm "com/example/slot16k/slot16k/Command" "arguments" "I" (.int (0 : Int32)) := D9 (Or.inl (hw _ (List.mem_of_getElem? (i := 25) rfl))) (ty := .int) (by decide)
  obtain ⟨_, _, ⟨T10, L10, k10, n10⟩, -, X10, ⟨Lc10, hQ10, l10, y10, z10⟩, st10⟩ := X9.specialBack hx (y := (⟨"com/example/slot16k/slot16k/Command", "<init>", "([BII[II)V"⟩ : MethodName)) rfl hown (mvT hZ (hw _ (List.mem_of_getElem? (i := 5) rfl))) (mvT hZ (hw _ (List.mem_of_getElem? (i := 6) rfl))) (mvT hZ (hw _ (List.mem_of_getElem? (i := 7) rfl))) (by decide) (backOf (W := 1) (rm1 l Z A0 hw [] cm yb p0 (p4 &&& (255 : Int32)) bs (3 : Int32) .null (.int (0 : Int32)) (.int (0 : Int32)) .null (.int (0 : Int32)) h9 n0 Zh9 E_cm F_bytes_cm F_offset_cm F_length_cm F_bounds_cm F_arguments_cm g_cm) hZ (hw _ (List.mem_of_getElem? (i := 7) rfl)) (hw _ (List.mem_of_getElem? (i := 4) rfl)) (by decide) (by decide)) (g := (mkF m 66 #[.val (.int p0), .val (.int p1), .val (.int p2), .val (.int p3), .val (.int p4), .val (.int p5), .val (.ref bs), .val (.ref yb), .unset, .unset, .unset, .unset] [(.int (3 : Int32)), (.ref bs), (.int (p4 &&& (255 : Int32))), (.int p0), (.ref yb), (.ref cm), (.ref cm)])) rfl (by rw [hml]; rfl) (Steps.refl _) (a := cm) (argsL := [(.ref yb), (.int p0), (.int (p4 &&& (255 : Int32))), (.ref bs), (.int (3 : Int32))]) (rest := [(.ref cm)]) (lenOf pd_0 rfl) rfl (by show 2 * 0 + _ ≤ _; exact Nat.le_of_eq rfl) (hb hby at_66) (fun _ _ => ⟨rfl, e9, (by decide : 3 + 0 ≤ _), (by decide : 18 + 0 ≤ _)⟩)
  dsimp only [Pt.U, Pt.locs, Pt.cells, Pt.slots] at X10 l10 y10 z10 st10 hQ10
  subst l10 y10 z10
  obtain ⟨rfl, N10q, Kc10, P10_0, P10_1, P10_2, P10_3, P10_4, P10_5⟩ := hQ10
  have N10 := Fr.app N7 N10q
  have V_bs : Arv Z T10.heap bs k1 .int (6 : Int32) [(.int p1), (.int p2), (.int p3), (.int p4), (.int p5), (.int (p1 ^^^ p5))] (.int (0 : Int32)) := V_bs.keep Kc10 (ninS ne_bs_cm nin0)
  have V_yb : Arv Z T10.heap yb k8 .byte (p5 &&& (7 : Int32)) [] (.int (0 : Int32)) := V_yb.keep Kc10 (ninS ne_yb_cm nin0)
  have E_cm : Exa Z T10.heap cm "com/example/slot16k/slot16k/Command" := E_cm.keep Kc10
  have ZT10_heap : n0 ≤ T10.heap.size := Nat.le_trans Zh9 Kc10.1
  have KT10_heap : Keep h0 T10.heap [] := Kh9.trans Kc10 (allS (Or.inr sz_cm) all0)
  have E_cm : Exa Z T10.heap cm "com/example/slot16k/slot16k/Command" := P10_0
  have F_bytes_cm : Fld Z T10.heap cm "com/example/slot16k/slot16k/Command" "bytes" "[B" (.ref yb) := P10_1
  have F_offset_cm : Fld Z T10.heap cm "com/example/slot16k/slot16k/Command" "offset" "I" (.int p0) := P10_2
  have F_length_cm : Fld Z T10.heap cm "com/example/slot16k/slot16k/Command" "length" "I" (.int (p4 &&& (255 : Int32))) := P10_3
  have F_bounds_cm : Fld Z T10.heap cm "com/example/slot16k/slot16k/Command" "bounds" "[I" (.ref bs) := P10_4
  have F_arguments_cm : Fld Z T10.heap cm "com/example/slot16k/slot16k/Command" "arguments" "I" (.int (3 : Int32)) := P10_5
  obtain ⟨cq11, kq11, q11a, q11b, q11c⟩ := isOf hZ rfl E_cm
  obtain ⟨_, _, ⟨T11, L11, k11, n11⟩, -, X11, ⟨Lc11, hQ11, l11, y11, z11⟩, st11⟩ := X10.virtualBack hx (y := (⟨"com/example/slot16k/slot16k/Command", "end", "(I)I"⟩ : MethodName)) (z := (⟨"com/example/slot16k/slot16k/Command", "end", "(I)I"⟩ : MethodName)) hown (mvT hZ (hw _ (List.mem_of_getElem? (i := 26) rfl))) (mvT hZ (hw _ (List.mem_of_getElem? (i := 27) rfl))) (notFace_of_selects (args := #[]) (mvT hZ (hw _ (List.mem_of_getElem? (i := 29) rfl)))) (mvT hZ (hw _ (List.mem_of_getElem? (i := 29) rfl))) (mvT hZ (hw _ (List.mem_of_getElem? (i := 28) rfl))) (by decide) (backOf (W := 0) (rm4 l Z A0 hw [] cm (0 : Int32) p0 bs k1 (6 : Int32) [(.int p1), (.int p2), (.int p3), (.int p4), (.int p5), (.int (p1 ^^^ p5))] (.int (0 : Int32)) p2 T10.heap n0 ZT10_heap F_offset_cm F_bounds_cm V_bs (⟨by decide, by decide⟩) (rfl)) hZ (hw _ (List.mem_of_getElem? (i := 30) rfl)) (hw _ (List.mem_of_getElem? (i := 4) rfl)) (by decide) (by decide)) q11a q11c (g := (mkF m 74 #[.val (.int p0), .val (.int p1), .val (.int p2), .val (.int p3), .val (.int p4), .val (.int p5), .val (.ref bs), .val (.ref yb), .val (.ref cm), .unset, .unset, .unset] [(.int (0 : Int32)), (.ref cm)])) rfl (by rw [hml]; rfl) (Steps.refl _) (argsL := [(.int (0 : Int32))]) (rest := []) (lenOf pd_1 rfl) rfl (by show 2 * 0 + _ ≤ _; exact Nat.le_of_eq rfl) (hb hby at_74) (fun _ _ => ⟨rfl, rfl, (by decide : 3 + 0 ≤ _), (by decide : 18 + 0 ≤ _)⟩)
  dsimp only [Pt.U, Pt.locs, Pt.cells, Pt.slots] at X11 l11 y11 z11 st11 hQ11
  subst l11 y11 z11
  obtain ⟨rfl, N11q, eh11⟩ := hQ11
  have N11 := Fr.app N10 N11q
  obtain ⟨cq12, kq12, q12a, q12b, q12c⟩ := isOf hZ eh11 E_cm
  obtain ⟨_, _, ⟨T12, L12, k12, n12⟩, -, X12, ⟨Lc12, hQ12, l12, y12, z12⟩, st12⟩ := X11.virtualBack hx (y := (⟨"com/example/slot16k/slot16k/Command", "end", "(I)I"⟩ : MethodName)) (z := (⟨"com/example/slot16k/slot16k/Command", "end", "(I)I"⟩ : MethodName)) hown (mvT hZ (hw _ (List.mem_of_getElem? (i := 26) rfl))) (mvT hZ (hw _ (List.mem_of_getElem? (i := 27) rfl))) (notFace_of_selects (args := #[]) (mvT hZ (hw _ (List.mem_of_getElem? (i := 29) rfl)))) (mvT hZ (hw _ (List.mem_of_getElem? (i := 29) rfl))) (mvT hZ (hw _ (List.mem_of_getElem? (i := 28) rfl))) (by decide) (backOf (W := 0) (rm4 l Z A0 hw [] cm (1 : Int32) p0 bs k1 (6 : Int32) [(.int p1), (.int p2), (.int p3), (.int p4), (.int p5), (.int (p1 ^^^ p5))] (.int (0 : Int32)) p4 T10.heap n0 ZT10_heap F_offset_cm F_bounds_cm V_bs (⟨by decide, by decide⟩) (rfl)) hZ (hw _ (List.mem_of_getElem? (i := 30) rfl)) (hw _ (List.mem_of_getElem? (i := 4) rfl)) (by decide) (by decide)) q12a q12c (g := (mkF m 93 #[.val (.int p0), .val (.int p1), .val (.int p2), .val (.int p3), .val (.int p4), .val (.int p5), .val (.ref bs), .val (.ref yb), .val (.ref cm), .val (.int (1 : Int32)), .unset, .unset] [(.int (1 : Int32)), (.ref cm)])) rfl (by rw [hml]; rfl) (Steps.refl _) (argsL := [(.int (1 : Int32))]) (rest := []) (lenOf pd_1 rfl) rfl (by show 2 * 0 + _ ≤ _; exact Nat.le_of_eq rfl) (hb hby at_93) (fun _ _ => ⟨rfl, eh11, (by decide : 3 + 0 ≤ _), (by decide : 18 + 0 ≤ _)⟩)
  dsimp only [Pt.U, Pt.locs, Pt.cells, Pt.slots] at X12 l12 y12 z12 st12 hQ12
  subst l12 y12 z12
  obtain ⟨rfl, N12q, eh12⟩ := hQ12
  have N12 := Fr.app N11 N12q
  obtain ⟨cq13, kq13, q13a, q13b, q13c⟩ := isOf hZ eh12 E_cm
  obtain ⟨_, _, ⟨T13, L13, k13, n13⟩, -, X13, ⟨Lc13, hQ13, l13, y13, z13⟩, st13⟩ := X12.virtualBack hx (y := (⟨"com/example/slot16k/slot16k/Command", "end", "(I)I"⟩ : MethodName)) (z := (⟨"com/example/slot16k/slot16k/Command", "end", "(I)I"⟩ : MethodName)) hown (mvT hZ (hw _ (List.mem_of_getElem? (i := 26) rfl))) (mvT hZ (hw _ (List.mem_of_getElem? (i := 27) rfl))) (notFace_of_selects (args := #[]) (mvT hZ (hw _ (List.mem_of_getElem? (i := 29) rfl)))) (mvT hZ (hw _ (List.mem_of_getElem? (i := 29) rfl))) (mvT hZ (hw _ (List.mem_of_getElem? (i := 28) rfl))) (by decide) (backOf (W := 0) (rm4 l Z A0 hw [] cm (2 : Int32) p0 bs k1 (6 : Int32) [(.int p1), (.int p2), (.int p3), (.int p4), (.int p5), (.int (p1 ^^^ p5))] (.int (0 : Int32)) (p1 ^^^ p5) T10.heap n0 ZT10_heap F_offset_cm F_bounds_cm V_bs (⟨by decide, by decide⟩) (rfl)) hZ (hw _ (List.mem_of_getElem? (i := 30) rfl)) (hw _ (List.mem_of_getElem? (i := 4) rfl)) (by decide) (by decide)) q13a q13c (g := (mkF m 113 #[.val (.int p0), .val (.int p1), .val (.int p2), .val (.int p3), .val (.int p4), .val (.int p5), .val (.ref bs), .val (.ref yb), .val (.ref cm), .val (.int (1 : Int32)), .val (.int (1 : Int32)), .unset] [(.int (2 : Int32)), (.ref cm)])) rfl (by rw [hml]; rfl) (Steps.refl _) (argsL := [(.int (2 : Int32))]) (rest := []) (lenOf pd_1 rfl) rfl (by show 2 * 0 + _ ≤ _; exact Nat.le_of_eq rfl) (hb hby at_113) (fun _ _ => ⟨rfl, eh12, (by decide : 3 + 0 ≤ _), (by decide : 18 + 0 ≤ _)⟩)
  dsimp only [Pt.U, Pt.locs, Pt.cells, Pt.slots] at X13 l13 y13 z13 st13 hQ13
  subst l13 y13 z13
  obtain ⟨rfl, N13q, eh13⟩ := hQ13
  have N13 := Fr.app N12 N13q
  obtain ⟨fs, hr, hrun, hended, hW, hsame⟩ := X13.leave (v := some (.int (1 : Int32))) (fun h => by rw [Bd.returns] at h; cases h)
  refine ⟨_, _, pre0 _ ?_, hrun, hended, _, _, rfl, ?_, ⟨_, rfl⟩, hW, hsame.mono (by decide) (by decide)⟩
  · show Steps p.tables e below (s₁.setTop (mkF m 0 #[.val (.int p0), .val (.int p1), .val (.int p2), .val (.int p3), .val (.int p4), .val (.int p5), .unset, .unset, .unset, .unset, .unset, .unset] [])) _
    refine XS.bipush X0.here hx rfl (hb hby at_0) ?_
    show Steps p.tables e below (s₁.setTop (mkF m 2 #[.val (.int p0), .val (.int p1), .val (.int p2), .val (.int p3), .val (.int p4), .val (.int p5), .unset, .unset, .unset, .unset, .unset, .unset] [(.int (6 : Int32))])) _
    refine st1 _ ?_
    show Steps p.tables e below (T1.setTop (mkF m 4 #[.val (.int p0), .val (.int p1), .val (.int p2), .val (.int p3), .val (.int p4), .val (.int p5), .unset, .unset, .unset, .unset, .unset, .unset] [(.ref bs)])) _
    refine XS.astore X1.here hx rfl (hb hby at_4) rfl rfl (l' := #[.val (.int p0), .val (.int p1), .val (.int p2), .val (.int p3), .val (.int p4), .val (.int p5), .val (.ref bs), .unset, .unset, .unset, .unset, .unset]) rfl ?_
    show Steps p.tables e below (T1.setTop (mkF m 6 #[.val (.int p0), .val (.int p1), .val (.int p2), .val (.int p3), .val (.int p4), .val (.int p5), .val (.ref bs), .unset, .unset, .unset, .unset, .unset] [])) _
    refine XS.aload X1.here hx rfl (hb hby at_6) rfl rfl ?_
    show Steps p.tables e below (T1.setTop (mkF m 8 #[.val (.int p0), .val (.int p1), .val (.int p2), .val (.int p3), .val (.int p4), .val (.int p5), .val (.ref bs), .unset, .unset, .unset, .unset, .unset] [(.ref bs)])) _
    refine XS.iconst X1.here hx rfl (hb hby at_8) ?_
    show Steps p.tables e below (T1.setTop (mkF m 9 #[.val (.int p0), .val (.int p1), .val (.int p2), .val (.int p3), .val (.int p4), .val (.int p5), .val (.ref bs), .unset, .unset, .unset, .unset, .unset] [(.int (0 : Int32)), (.ref bs)])) _
    refine XS.iloadN X1.here hx rfl (hb hby at_9) rfl ?_
    show Steps p.tables e below (T1.setTop (mkF m 10 #[.val (.int p0), .val (.int p1), .val (.int p2), .val (.int p3), .val (.int p4), .val (.int p5), .val (.ref bs), .unset, .unset, .unset, .unset, .unset] [(.int p1), (.int (0 : Int32)), (.ref bs)])) _
    refine st2 _ ?_
    show Steps p.tables e below (T2.setTop (mkF m 11 #[.val (.int p0), .val (.int p1), .val (.int p2), .val (.int p3), .val (.int p4), .val (.int p5), .val (.ref bs), .unset, .unset, .unset, .unset, .unset] [])) _
    refine XS.aload X2.here hx rfl (hb hby at_11) rfl rfl ?_
    show Steps p.tables e below (T2.setTop (mkF m 13 #[.val (.int p0), .val (.int p1), .val (.int p2), .val (.int p3), .val (.int p4), .val (.int p5), .val (.ref bs), .unset, .unset, .unset, .unset, .unset] [(.ref bs)])) _
    refine XS.iconst X2.here hx rfl (hb hby at_13) ?_
    show Steps p.tables e below (T2.setTop (mkF m 14 #[.val (.int p0), .val (.int p1), .val (.int p2), .val (.int p3), .val (.int p4), .val (.int p5), .val (.ref bs), .unset, .unset, .unset, .unset, .unset] [(.int (1 : Int32)), (.ref bs)])) _
    refine XS.iloadN X2.here hx rfl (hb hby at_14) rfl ?_
    show Steps p.tables e below (T2.setTop (mkF m 15 #[.val (.int p0), .val (.int p1), .val (.int p2), .val (.int p3), .val (.int p4), .val (.int p5), .val (.ref bs), .unset, .unset, .unset, .unset, .unset] [(.int p2), (.int (1 : Int32)), (.ref bs)])) _
    refine st3 _ ?_
    show Steps p.tables e below (T3.setTop (mkF m 16 #[.val (.int p0), .val (.int p1), .val (.int p2), .val (.int p3), .val (.int p4), .val (.int p5), .val (.ref bs), .unset, .unset, .unset, .unset, .unset] [])) _
    refine XS.aload X3.here hx rfl (hb hby at_16) rfl rfl ?_
    show Steps p.tables e below (T3.setTop (mkF m 18 #[.val (.int p0), .val (.int p1), .val (.int p2), .val (.int p3), .val (.int p4), .val (.int p5), .val (.ref bs), .unset, .unset, .unset, .unset, .unset] [(.ref bs)])) _
    refine XS.iconst X3.here hx rfl (hb hby at_18) ?_
    show Steps p.tables e below (T3.setTop (mkF m 19 #[.val (.int p0), .val (.int p1), .val (.int p2), .val (.int p3), .val (.int p4), .val (.int p5), .val (.ref bs), .unset, .unset, .unset, .unset, .unset] [(.int (2 : Int32)), (.ref bs)])) _
    refine XS.iloadN X3.here hx rfl (hb hby at_19) rfl ?_
    show Steps p.tables e below (T3.setTop (mkF m 20 #[.val (.int p0), .val (.int p1), .val (.int p2), .val (.int p3), .val (.int p4), .val (.int p5), .val (.ref bs), .unset, .unset, .unset, .unset, .unset] [(.int p3), (.int (2 : Int32)), (.ref bs)])) _
    refine st4 _ ?_
    show Steps p.tables e below (T4.setTop (mkF m 21 #[.val (.int p0), .val (.int p1), .val (.int p2), .val (.int p3), .val (.int p4), .val (.int p5), .val (.ref bs), .unset, .unset, .unset, .unset, .unset] [])) _
    refine XS.aload X4.here hx rfl (hb hby at_21) rfl rfl ?_
    show Steps p.tables e below (T4.setTop (mkF m 23 #[.val (.int p0), .val (.int p1), .val (.int p2), .val (.int p3), .val (.int p4), .val (.int p5), .val (.ref bs), .unset, .unset, .unset, .unset, .unset] [(.ref bs)])) _
    refine XS.iconst X4.here hx rfl (hb hby at_23) ?_
    show Steps p.tables e below (T4.setTop (mkF m 24 #[.val (.int p0), .val (.int p1), .val (.int p2), .val (.int p3), .val (.int p4), .val (.int p5), .val (.ref bs), .unset, .unset, .unset, .unset, .unset] [(.int (3 : Int32)), (.ref bs)])) _
    refine XS.iload X4.here hx rfl (hb hby at_24) rfl ?_
    show Steps p.tables e below (T4.setTop (mkF m 26 #[.val (.int p0), .val (.int p1), .val (.int p2), .val (.int p3), .val (.int p4), .val (.int p5), .val (.ref bs), .unset, .unset, .unset, .unset, .unset] [(.int p4), (.int (3 : Int32)), (.ref bs)])) _
    refine st5 _ ?_
    show Steps p.tables e below (T5.setTop (mkF m 27 #[.val (.int p0), .val (.int p1), .val (.int p2), .val (.int p3), .val (.int p4), .val (.int p5), .val (.ref bs), .unset, .unset, .unset, .unset, .unset] [])) _
    refine XS.aload X5.here hx rfl (hb hby at_27) rfl rfl ?_
    show Steps p.tables e below (T5.setTop (mkF m 29 #[.val (.int p0), .val (.int p1), .val (.int p2), .val (.int p3), .val (.int p4), .val (.int p5), .val (.ref bs), .unset, .unset, .unset, .unset, .unset] [(.ref bs)])) _
    refine XS.iconst X5.here hx rfl (hb hby at_29) ?_
    show Steps p.tables e below (T5.setTop (mkF m 30 #[.val (.int p0), .val (.int p1), .val (.int p2), .val (.int p3), .val (.int p4), .val (.int p5), .val (.ref bs), .unset, .unset, .unset, .unset, .unset] [(.int (4 : Int32)), (.ref bs)])) _
    refine XS.iload X5.here hx rfl (hb hby at_30) rfl ?_
    show Steps p.tables e below (T5.setTop (mkF m 32 #[.val (.int p0), .val (.int p1), .val (.int p2), .val (.int p3), .val (.int p4), .val (.int p5), .val (.ref bs), .unset, .unset, .unset, .unset, .unset] [(.int p5), (.int (4 : Int32)), (.ref bs)])) _
    refine st6 _ ?_
    show Steps p.tables e below (T6.setTop (mkF m 33 #[.val (.int p0), .val (.int p1), .val (.int p2), .val (.int p3), .val (.int p4), .val (.int p5), .val (.ref bs), .unset, .unset, .unset, .unset, .unset] [])) _
    refine XS.aload X6.here hx rfl (hb hby at_33) rfl rfl ?_
    show Steps p.tables e below (T6.setTop (mkF m 35 #[.val (.int p0), .val (.int p1), .val (.int p2), .val (.int p3), .val (.int p4), .val (.int p5), .val (.ref bs), .unset, .unset, .unset, .unset, .unset] [(.ref bs)])) _
    refine XS.iconst X6.here hx rfl (hb hby at_35) ?_
    show Steps p.tables e below (T6.setTop (mkF m 36 #[.val (.int p0), .val (.int p1), .val (.int p2), .val (.int p3), .val (.int p4), .val (.int p5), .val (.ref bs), .unset, .unset, .unset, .unset, .unset] [(.int (5 : Int32)), (.ref bs)])) _
    refine XS.iloadN X6.here hx rfl (hb hby at_36) rfl ?_
    show Steps p.tables e below (T6.setTop (mkF m 37 #[.val (.int p0), .val (.int p1), .val (.int p2), .val (.int p3), .val (.int p4), .val (.int p5), .val (.ref bs), .unset, .unset, .unset, .unset, .unset] [(.int p1), (.int (5 : Int32)), (.ref bs)])) _
    refine XS.iload X6.here hx rfl (hb hby at_37) rfl ?_
    show Steps p.tables e below (T6.setTop (mkF m 39 #[.val (.int p0), .val (.int p1), .val (.int p2), .val (.int p3), .val (.int p4), .val (.int p5), .val (.ref bs), .unset, .unset, .unset, .unset, .unset] [(.int p5), (.int p1), (.int (5 : Int32)), (.ref bs)])) _
    refine XS.ixor X6.here hx rfl (hb hby at_39) rfl ?_
    show Steps p.tables e below (T6.setTop (mkF m 40 #[.val (.int p0), .val (.int p1), .val (.int p2), .val (.int p3), .val (.int p4), .val (.int p5), .val (.ref bs), .unset, .unset, .unset, .unset, .unset] [(.int (p1 ^^^ p5)), (.int (5 : Int32)), (.ref bs)])) _
    refine st7 _ ?_
    show Steps p.tables e below (T7.setTop (mkF m 41 #[.val (.int p0), .val (.int p1), .val (.int p2), .val (.int p3), .val (.int p4), .val (.int p5), .val (.ref bs), .unset, .unset, .unset, .unset, .unset] [])) _
    refine XS.iload X7.here hx rfl (hb hby at_41) rfl ?_
    show Steps p.tables e below (T7.setTop (mkF m 43 #[.val (.int p0), .val (.int p1), .val (.int p2), .val (.int p3), .val (.int p4), .val (.int p5), .val (.ref bs), .unset, .unset, .unset, .unset, .unset] [(.int p5)])) _
    refine XS.bipush X7.here hx rfl (hb hby at_43) ?_
    show Steps p.tables e below (T7.setTop (mkF m 45 #[.val (.int p0), .val (.int p1), .val (.int p2), .val (.int p3), .val (.int p4), .val (.int p5), .val (.ref bs), .unset, .unset, .unset, .unset, .unset] [(.int (7 : Int32)), (.int p5)])) _
    refine XS.iand X7.here hx rfl (hb hby at_45) rfl ?_
    show Steps p.tables e below (T7.setTop (mkF m 46 #[.val (.int p0), .val (.int p1), .val (.int p2), .val (.int p3), .val (.int p4), .val (.int p5), .val (.ref bs), .unset, .unset, .unset, .unset, .unset] [(.int (p5 &&& (7 : Int32)))])) _
    refine st8 _ ?_
    show Steps p.tables e below (T8.setTop (mkF m 48 #[.val (.int p0), .val (.int p1), .val (.int p2), .val (.int p3), .val (.int p4), .val (.int p5), .val (.ref bs), .unset, .unset, .unset, .unset, .unset] [(.ref yb)])) _
    refine XS.astore X8.here hx rfl (hb hby at_48) rfl rfl (l' := #[.val (.int p0), .val (.int p1), .val (.int p2), .val (.int p3), .val (.int p4), .val (.int p5), .val (.ref bs), .val (.ref yb), .unset, .unset, .unset, .unset]) rfl ?_
    show Steps p.tables e below (T8.setTop (mkF m 50 #[.val (.int p0), .val (.int p1), .val (.int p2), .val (.int p3), .val (.int p4), .val (.int p5), .val (.ref bs), .val (.ref yb), .unset, .unset, .unset, .unset] [])) _
    refine st9 _ ?_
    show Steps p.tables e below (T9.setTop (mkF m 53 #[.val (.int p0), .val (.int p1), .val (.int p2), .val (.int p3), .val (.int p4), .val (.int p5), .val (.ref bs), .val (.ref yb), .unset, .unset, .unset, .unset] [(.ref cm)])) _
    refine XS.dup X9.here hx rfl (hb hby at_53) rfl rfl ?_
    show Steps p.tables e below (T9.setTop (mkF m 54 #[.val (.int p0), .val (.int p1), .val (.int p2), .val (.int p3), .val (.int p4), .val (.int p5), .val (.ref bs), .val (.ref yb), .unset, .unset, .unset, .unset] [(.ref cm), (.ref cm)])) _
    refine XS.aload X9.here hx rfl (hb hby at_54) rfl rfl ?_
    show Steps p.tables e below (T9.setTop (mkF m 56 #[.val (.int p0), .val (.int p1), .val (.int p2), .val (.int p3), .val (.int p4), .val (.int p5), .val (.ref bs), .val (.ref yb), .unset, .unset, .unset, .unset] [(.ref yb), (.ref cm), (.ref cm)])) _
    refine XS.iloadN X9.here hx rfl (hb hby at_56) rfl ?_
    show Steps p.tables e below (T9.setTop (mkF m 57 #[.val (.int p0), .val (.int p1), .val (.int p2), .val (.int p3), .val (.int p4), .val (.int p5), .val (.ref bs), .val (.ref yb), .unset, .unset, .unset, .unset] [(.int p0), (.ref yb), (.ref cm), (.ref cm)])) _
    refine XS.iload X9.here hx rfl (hb hby at_57) rfl ?_
    show Steps p.tables e below (T9.setTop (mkF m 59 #[.val (.int p0), .val (.int p1), .val (.int p2), .val (.int p3), .val (.int p4), .val (.int p5), .val (.ref bs), .val (.ref yb), .unset, .unset, .unset, .unset] [(.int p4), (.int p0), (.ref yb), (.ref cm), (.ref cm)])) _
    refine XS.sipush X9.here hx rfl (hb hby at_59) ?_
    show Steps p.tables e below (T9.setTop (mkF m 62 #[.val (.int p0), .val (.int p1), .val (.int p2), .val (.int p3), .val (.int p4), .val (.int p5), .val (.ref bs), .val (.ref yb), .unset, .unset, .unset, .unset] [(.int (255 : Int32)), (.int p4), (.int p0), (.ref yb), (.ref cm), (.ref cm)])) _
    refine XS.iand X9.here hx rfl (hb hby at_62) rfl ?_
    show Steps p.tables e below (T9.setTop (mkF m 63 #[.val (.int p0), .val (.int p1), .val (.int p2), .val (.int p3), .val (.int p4), .val (.int p5), .val (.ref bs), .val (.ref yb), .unset, .unset, .unset, .unset] [(.int (p4 &&& (255 : Int32))), (.int p0), (.ref yb), (.ref cm), (.ref cm)])) _
    refine XS.aload X9.here hx rfl (hb hby at_63) rfl rfl ?_
    show Steps p.tables e below (T9.setTop (mkF m 65 #[.val (.int p0), .val (.int p1), .val (.int p2), .val (.int p3), .val (.int p4), .val (.int p5), .val (.ref bs), .val (.ref yb), .unset, .unset, .unset, .unset] [(.ref bs), (.int (p4 &&& (255 : Int32))), (.int p0), (.ref yb), (.ref cm), (.ref cm)])) _
    refine XS.iconst X9.here hx rfl (hb hby at_65) ?_
    show Steps p.tables e below (T9.setTop (mkF m 66 #[.val (.int p0), .val (.int p1), .val (.int p2), .val (.int p3), .val (.int p4), .val (.int p5), .val (.ref bs), .val (.ref yb), .unset, .unset, .unset, .unset] [(.int (3 : Int32)), (.ref bs), (.int (p4 &&& (255 : Int32))), (.int p0), (.ref yb), (.ref cm), (.ref cm)])) _
    refine st10.trans ?_
    show Steps p.tables e below (T10.setTop (mkF m 69 #[.val (.int p0), .val (.int p1), .val (.int p2), .val (.int p3), .val (.int p4), .val (.int p5), .val (.ref bs), .val (.ref yb), .unset, .unset, .unset, .unset] [(.ref cm)])) _
    refine XS.astore X10.here hx rfl (hb hby at_69) rfl rfl (l' := #[.val (.int p0), .val (.int p1), .val (.int p2), .val (.int p3), .val (.int p4), .val (.int p5), .val (.ref bs), .val (.ref yb), .val (.ref cm), .unset, .unset, .unset]) rfl ?_
    show Steps p.tables e below (T10.setTop (mkF m 71 #[.val (.int p0), .val (.int p1), .val (.int p2), .val (.int p3), .val (.int p4), .val (.int p5), .val (.ref bs), .val (.ref yb), .val (.ref cm), .unset, .unset, .unset] [])) _
    refine XS.aload X10.here hx rfl (hb hby at_71) rfl rfl ?_
    show Steps p.tables e below (T10.setTop (mkF m 73 #[.val (.int p0), .val (.int p1), .val (.int p2), .val (.int p3), .val (.int p4), .val (.int p5), .val (.ref bs), .val (.ref yb), .val (.ref cm), .unset, .unset, .unset] [(.ref cm)])) _
    refine XS.iconst X10.here hx rfl (hb hby at_73) ?_
    show Steps p.tables e below (T10.setTop (mkF m 74 #[.val (.int p0), .val (.int p1), .val (.int p2), .val (.int p3), .val (.int p4), .val (.int p5), .val (.ref bs), .val (.ref yb), .val (.ref cm), .unset, .unset, .unset] [(.int (0 : Int32)), (.ref cm)])) _
    refine st11.trans ?_
    show Steps p.tables e below (T11.setTop (mkF m 77 #[.val (.int p0), .val (.int p1), .val (.int p2), .val (.int p3), .val (.int p4), .val (.int p5), .val (.ref bs), .val (.ref yb), .val (.ref cm), .unset, .unset, .unset] [(.int (p0 + p2))])) _
    refine XS.iloadN X11.here hx rfl (hb hby at_77) rfl ?_
    show Steps p.tables e below (T11.setTop (mkF m 78 #[.val (.int p0), .val (.int p1), .val (.int p2), .val (.int p3), .val (.int p4), .val (.int p5), .val (.ref bs), .val (.ref yb), .val (.ref cm), .unset, .unset, .unset] [(.int p0), (.int (p0 + p2))])) _
    refine XS.iloadN X11.here hx rfl (hb hby at_78) rfl ?_
    show Steps p.tables e below (T11.setTop (mkF m 79 #[.val (.int p0), .val (.int p1), .val (.int p2), .val (.int p3), .val (.int p4), .val (.int p5), .val (.ref bs), .val (.ref yb), .val (.ref cm), .unset, .unset, .unset] [(.int p2), (.int p0), (.int (p0 + p2))])) _
    refine XS.iadd X11.here hx rfl (hb hby at_79) rfl ?_
    show Steps p.tables e below (T11.setTop (mkF m 80 #[.val (.int p0), .val (.int p1), .val (.int p2), .val (.int p3), .val (.int p4), .val (.int p5), .val (.ref bs), .val (.ref yb), .val (.ref cm), .unset, .unset, .unset] [(.int (p0 + p2)), (.int (p0 + p2))])) _
    refine XS.icmpNo X11.here hx rfl (hb hby at_80) rfl (teq (rfl : (p0 + p2) = (p0 + p2))).2 ?_
    show Steps p.tables e below (T11.setTop (mkF m 83 #[.val (.int p0), .val (.int p1), .val (.int p2), .val (.int p3), .val (.int p4), .val (.int p5), .val (.ref bs), .val (.ref yb), .val (.ref cm), .unset, .unset, .unset] [])) _
    refine XS.iconst X11.here hx rfl (hb hby at_83) ?_
    show Steps p.tables e below (T11.setTop (mkF m 84 #[.val (.int p0), .val (.int p1), .val (.int p2), .val (.int p3), .val (.int p4), .val (.int p5), .val (.ref bs), .val (.ref yb), .val (.ref cm), .unset, .unset, .unset] [(.int (1 : Int32))])) _
    refine XS.goto X11.here hx rfl (pc0 := 84) (pc' := 88) rfl (hb hby at_84) (by decide) (by decide) ?_
    show Steps p.tables e below (T11.setTop (mkF m 88 #[.val (.int p0), .val (.int p1), .val (.int p2), .val (.int p3), .val (.int p4), .val (.int p5), .val (.ref bs), .val (.ref yb), .val (.ref cm), .unset, .unset, .unset] [(.int (1 : Int32))])) _
    refine XS.istore X11.here hx rfl (hb hby at_88) rfl (l' := #[.val (.int p0), .val (.int p1), .val (.int p2), .val (.int p3), .val (.int p4), .val (.int p5), .val (.ref bs), .val (.ref yb), .val (.ref cm), .val (.int (1 : Int32)), .unset, .unset]) rfl ?_
    show Steps p.tables e below (T11.setTop (mkF m 90 #[.val (.int p0), .val (.int p1), .val (.int p2), .val (.int p3), .val (.int p4), .val (.int p5), .val (.ref bs), .val (.ref yb), .val (.ref cm), .val (.int (1 : Int32)), .unset, .unset] [])) _
    refine XS.aload X11.here hx rfl (hb hby at_90) rfl rfl ?_
    show Steps p.tables e below (T11.setTop (mkF m 92 #[.val (.int p0), .val (.int p1), .val (.int p2), .val (.int p3), .val (.int p4), .val (.int p5), .val (.ref bs), .val (.ref yb), .val (.ref cm), .val (.int (1 : Int32)), .unset, .unset] [(.ref cm)])) _
    refine XS.iconst X11.here hx rfl (hb hby at_92) ?_
    show Steps p.tables e below (T11.setTop (mkF m 93 #[.val (.int p0), .val (.int p1), .val (.int p2), .val (.int p3), .val (.int p4), .val (.int p5), .val (.ref bs), .val (.ref yb), .val (.ref cm), .val (.int (1 : Int32)), .unset, .unset] [(.int (1 : Int32)), (.ref cm)])) _
    refine st12.trans ?_
    show Steps p.tables e below (T12.setTop (mkF m 96 #[.val (.int p0), .val (.int p1), .val (.int p2), .val (.int p3), .val (.int p4), .val (.int p5), .val (.ref bs), .val (.ref yb), .val (.ref cm), .val (.int (1 : Int32)), .unset, .unset] [(.int (p0 + p4))])) _
    refine XS.iloadN X12.here hx rfl (hb hby at_96) rfl ?_
    show Steps p.tables e below (T12.setTop (mkF m 97 #[.val (.int p0), .val (.int p1), .val (.int p2), .val (.int p3), .val (.int p4), .val (.int p5), .val (.ref bs), .val (.ref yb), .val (.ref cm), .val (.int (1 : Int32)), .unset, .unset] [(.int p0), (.int (p0 + p4))])) _
    refine XS.iload X12.here hx rfl (hb hby at_97) rfl ?_
    show Steps p.tables e below (T12.setTop (mkF m 99 #[.val (.int p0), .val (.int p1), .val (.int p2), .val (.int p3), .val (.int p4), .val (.int p5), .val (.ref bs), .val (.ref yb), .val (.ref cm), .val (.int (1 : Int32)), .unset, .unset] [(.int p4), (.int p0), (.int (p0 + p4))])) _
    refine XS.iadd X12.here hx rfl (hb hby at_99) rfl ?_
    show Steps p.tables e below (T12.setTop (mkF m 100 #[.val (.int p0), .val (.int p1), .val (.int p2), .val (.int p3), .val (.int p4), .val (.int p5), .val (.ref bs), .val (.ref yb), .val (.ref cm), .val (.int (1 : Int32)), .unset, .unset] [(.int (p0 + p4)), (.int (p0 + p4))])) _
    refine XS.icmpNo X12.here hx rfl (hb hby at_100) rfl (teq (rfl : (p0 + p4) = (p0 + p4))).2 ?_
    show Steps p.tables e below (T12.setTop (mkF m 103 #[.val (.int p0), .val (.int p1), .val (.int p2), .val (.int p3), .val (.int p4), .val (.int p5), .val (.ref bs), .val (.ref yb), .val (.ref cm), .val (.int (1 : Int32)), .unset, .unset] [])) _
    refine XS.iconst X12.here hx rfl (hb hby at_103) ?_
    show Steps p.tables e below (T12.setTop (mkF m 104 #[.val (.int p0), .val (.int p1), .val (.int p2), .val (.int p3), .val (.int p4), .val (.int p5), .val (.ref bs), .val (.ref yb), .val (.ref cm), .val (.int (1 : Int32)), .unset, .unset] [(.int (1 : Int32))])) _
    refine XS.goto X12.here hx rfl (pc0 := 104) (pc' := 108) rfl (hb hby at_104) (by decide) (by decide) ?_
    show Steps p.tables e below (T12.setTop (mkF m 108 #[.val (.int p0), .val (.int p1), .val (.int p2), .val (.int p3), .val (.int p4), .val (.int p5), .val (.ref bs), .val (.ref yb), .val (.ref cm), .val (.int (1 : Int32)), .unset, .unset] [(.int (1 : Int32))])) _
    refine XS.istore X12.here hx rfl (hb hby at_108) rfl (l' := #[.val (.int p0), .val (.int p1), .val (.int p2), .val (.int p3), .val (.int p4), .val (.int p5), .val (.ref bs), .val (.ref yb), .val (.ref cm), .val (.int (1 : Int32)), .val (.int (1 : Int32)), .unset]) rfl ?_
    show Steps p.tables e below (T12.setTop (mkF m 110 #[.val (.int p0), .val (.int p1), .val (.int p2), .val (.int p3), .val (.int p4), .val (.int p5), .val (.ref bs), .val (.ref yb), .val (.ref cm), .val (.int (1 : Int32)), .val (.int (1 : Int32)), .unset] [])) _
    refine XS.aload X12.here hx rfl (hb hby at_110) rfl rfl ?_
    show Steps p.tables e below (T12.setTop (mkF m 112 #[.val (.int p0), .val (.int p1), .val (.int p2), .val (.int p3), .val (.int p4), .val (.int p5), .val (.ref bs), .val (.ref yb), .val (.ref cm), .val (.int (1 : Int32)), .val (.int (1 : Int32)), .unset] [(.ref cm)])) _
    refine XS.iconst X12.here hx rfl (hb hby at_112) ?_
    show Steps p.tables e below (T12.setTop (mkF m 113 #[.val (.int p0), .val (.int p1), .val (.int p2), .val (.int p3), .val (.int p4), .val (.int p5), .val (.ref bs), .val (.ref yb), .val (.ref cm), .val (.int (1 : Int32)), .val (.int (1 : Int32)), .unset] [(.int (2 : Int32)), (.ref cm)])) _
    refine st13.trans ?_
    show Steps p.tables e below (T13.setTop (mkF m 116 #[.val (.int p0), .val (.int p1), .val (.int p2), .val (.int p3), .val (.int p4), .val (.int p5), .val (.ref bs), .val (.ref yb), .val (.ref cm), .val (.int (1 : Int32)), .val (.int (1 : Int32)), .unset] [(.int (p0 + (p1 ^^^ p5)))])) _
    refine XS.iloadN X13.here hx rfl (hb hby at_116) rfl ?_
    show Steps p.tables e below (T13.setTop (mkF m 117 #[.val (.int p0), .val (.int p1), .val (.int p2), .val (.int p3), .val (.int p4), .val (.int p5), .val (.ref bs), .val (.ref yb), .val (.ref cm), .val (.int (1 : Int32)), .val (.int (1 : Int32)), .unset] [(.int p0), (.int (p0 + (p1 ^^^ p5)))])) _
    refine XS.iloadN X13.here hx rfl (hb hby at_117) rfl ?_
    show Steps p.tables e below (T13.setTop (mkF m 118 #[.val (.int p0), .val (.int p1), .val (.int p2), .val (.int p3), .val (.int p4), .val (.int p5), .val (.ref bs), .val (.ref yb), .val (.ref cm), .val (.int (1 : Int32)), .val (.int (1 : Int32)), .unset] [(.int p1), (.int p0), (.int (p0 + (p1 ^^^ p5)))])) _
    refine XS.iload X13.here hx rfl (hb hby at_118) rfl ?_
    show Steps p.tables e below (T13.setTop (mkF m 120 #[.val (.int p0), .val (.int p1), .val (.int p2), .val (.int p3), .val (.int p4), .val (.int p5), .val (.ref bs), .val (.ref yb), .val (.ref cm), .val (.int (1 : Int32)), .val (.int (1 : Int32)), .unset] [(.int p5), (.int p1), (.int p0), (.int (p0 + (p1 ^^^ p5)))])) _
    refine XS.ixor X13.here hx rfl (hb hby at_120) rfl ?_
    show Steps p.tables e below (T13.setTop (mkF m 121 #[.val (.int p0), .val (.int p1), .val (.int p2), .val (.int p3), .val (.int p4), .val (.int p5), .val (.ref bs), .val (.ref yb), .val (.ref cm), .val (.int (1 : Int32)), .val (.int (1 : Int32)), .unset] [(.int (p1 ^^^ p5)), (.int p0), (.int (p0 + (p1 ^^^ p5)))])) _
    refine XS.iadd X13.here hx rfl (hb hby at_121) rfl ?_
    show Steps p.tables e below (T13.setTop (mkF m 122 #[.val (.int p0), .val (.int p1), .val (.int p2), .val (.int p3), .val (.int p4), .val (.int p5), .val (.ref bs), .val (.ref yb), .val (.ref cm), .val (.int (1 : Int32)), .val (.int (1 : Int32)), .unset] [(.int (p0 + (p1 ^^^ p5))), (.int (p0 + (p1 ^^^ p5)))])) _
    refine XS.icmpNo X13.here hx rfl (hb hby at_122) rfl (teq (rfl : (p0 + (p1 ^^^ p5)) = (p0 + (p1 ^^^ p5)))).2 ?_
    show Steps p.tables e below (T13.setTop (mkF m 125 #[.val (.int p0), .val (.int p1), .val (.int p2), .val (.int p3), .val (.int p4), .val (.int p5), .val (.ref bs), .val (.ref yb), .val (.ref cm), .val (.int (1 : Int32)), .val (.int (1 : Int32)), .unset] [])) _
    refine XS.iconst X13.here hx rfl (hb hby at_125) ?_
    show Steps p.tables e below (T13.setTop (mkF m 126 #[.val (.int p0), .val (.int p1), .val (.int p2), .val (.int p3), .val (.int p4), .val (.int p5), .val (.ref bs), .val (.ref yb), .val (.ref cm), .val (.int (1 : Int32)), .val (.int (1 : Int32)), .unset] [(.int (1 : Int32))])) _
    refine XS.goto X13.here hx rfl (pc0 := 126) (pc' := 130) rfl (hb hby at_126) (by decide) (by decide) ?_
    show Steps p.tables e below (T13.setTop (mkF m 130 #[.val (.int p0), .val (.int p1), .val (.int p2), .val (.int p3), .val (.int p4), .val (.int p5), .val (.ref bs), .val (.ref yb), .val (.ref cm), .val (.int (1 : Int32)), .val (.int (1 : Int32)), .unset] [(.int (1 : Int32))])) _
    refine XS.istore X13.here hx rfl (hb hby at_130) rfl (l' := #[.val (.int p0), .val (.int p1), .val (.int p2), .val (.int p3), .val (.int p4), .val (.int p5), .val (.ref bs), .val (.ref yb), .val (.ref cm), .val (.int (1 : Int32)), .val (.int (1 : Int32)), .val (.int (1 : Int32))]) rfl ?_
    show Steps p.tables e below (T13.setTop (mkF m 132 #[.val (.int p0), .val (.int p1), .val (.int p2), .val (.int p3), .val (.int p4), .val (.int p5), .val (.ref bs), .val (.ref yb), .val (.ref cm), .val (.int (1 : Int32)), .val (.int (1 : Int32)), .val (.int (1 : Int32))] [])) _
    refine XS.iload X13.here hx rfl (hb hby at_132) rfl ?_
    show Steps p.tables e below (T13.setTop (mkF m 134 #[.val (.int p0), .val (.int p1), .val (.int p2), .val (.int p3), .val (.int p4), .val (.int p5), .val (.ref bs), .val (.ref yb), .val (.ref cm), .val (.int (1 : Int32)), .val (.int (1 : Int32)), .val (.int (1 : Int32))] [(.int (1 : Int32))])) _
    refine XS.ifNo X13.here hx rfl (hb hby at_134) rfl ((if0 _ _).trans (feq (by decide : ¬ ((1 : Int32) = (0 : Int32)))).1) ?_
    show Steps p.tables e below (T13.setTop (mkF m 137 #[.val (.int p0), .val (.int p1), .val (.int p2), .val (.int p3), .val (.int p4), .val (.int p5), .val (.ref bs), .val (.ref yb), .val (.ref cm), .val (.int (1 : Int32)), .val (.int (1 : Int32)), .val (.int (1 : Int32))] [])) _
    refine XS.iload X13.here hx rfl (hb hby at_137) rfl ?_
    show Steps p.tables e below (T13.setTop (mkF m 139 #[.val (.int p0), .val (.int p1), .val (.int p2), .val (.int p3), .val (.int p4), .val (.int p5), .val (.ref bs), .val (.ref yb), .val (.ref cm), .val (.int (1 : Int32)), .val (.int (1 : Int32)), .val (.int (1 : Int32))] [(.int (1 : Int32))])) _
    refine XS.ifNo X13.here hx rfl (hb hby at_139) rfl ((if0 _ _).trans (feq (by decide : ¬ ((1 : Int32) = (0 : Int32)))).1) ?_
    show Steps p.tables e below (T13.setTop (mkF m 142 #[.val (.int p0), .val (.int p1), .val (.int p2), .val (.int p3), .val (.int p4), .val (.int p5), .val (.ref bs), .val (.ref yb), .val (.ref cm), .val (.int (1 : Int32)), .val (.int (1 : Int32)), .val (.int (1 : Int32))] [])) _
    refine XS.iload X13.here hx rfl (hb hby at_142) rfl ?_
    show Steps p.tables e below (T13.setTop (mkF m 144 #[.val (.int p0), .val (.int p1), .val (.int p2), .val (.int p3), .val (.int p4), .val (.int p5), .val (.ref bs), .val (.ref yb), .val (.ref cm), .val (.int (1 : Int32)), .val (.int (1 : Int32)), .val (.int (1 : Int32))] [(.int (1 : Int32))])) _
    refine XS.ifNo X13.here hx rfl (hb hby at_144) rfl ((if0 _ _).trans (feq (by decide : ¬ ((1 : Int32) = (0 : Int32)))).1) ?_
    show Steps p.tables e below (T13.setTop (mkF m 147 #[.val (.int p0), .val (.int p1), .val (.int p2), .val (.int p3), .val (.int p4), .val (.int p5), .val (.ref bs), .val (.ref yb), .val (.ref cm), .val (.int (1 : Int32)), .val (.int (1 : Int32)), .val (.int (1 : Int32))] [])) _
    refine XS.iconst X13.here hx rfl (hb hby at_147) ?_
    show Steps p.tables e below (T13.setTop (mkF m 148 #[.val (.int p0), .val (.int p1), .val (.int p2), .val (.int p3), .val (.int p4), .val (.int p5), .val (.ref bs), .val (.ref yb), .val (.ref cm), .val (.int (1 : Int32)), .val (.int (1 : Int32)), .val (.int (1 : Int32))] [(.int (1 : Int32))])) _
    refine XS.goto X13.here hx rfl (pc0 := 148) (pc' := 152) rfl (hb hby at_148) (by decide) (by decide) ?_
    show Steps p.tables e below (T13.setTop (mkF m 152 #[.val (.int p0), .val (.int p1), .val (.int p2), .val (.int p3), .val (.int p4), .val (.int p5), .val (.ref bs), .val (.ref yb), .val (.ref cm), .val (.int (1 : Int32)), .val (.int (1 : Int32)), .val (.int (1 : Int32))] [(.int (1 : Int32))])) _
    exact retN X13 hx (t := .boolean) Bd.returns (by simp) (hb hby at_152) hr
  · show Qrm0 Z p0 p1 p2 p3 p4 p5 h0 n0 _ T13.heap _
    rw [eh13]
    exact ⟨rfl, N13⟩
set_option maxRecDepth 65536 in
set_option maxHeartbeats 40000000 in
theorem comes_1 {Post : Tables → Env → Array Value → State → Outcome → State → Prop} (hpost : ∀ tb e args s v u, (limb_1_1.after args s (.returned v) u = true ∧ limb_1_2.after args s (.returned v) u = true ∧ True) → FrameEnd s (.returned v) u (Jvm.fieldLocs frame_1_writes args s ++ Jvm.arrayLocs frame_1_arrays args s ++ Jvm.staticLocs frame_1_statics s) 16 128 → Post tb e args s (.returned v) u) :
    ArmFor flags0 classFile x code maxLocals ret World_1 tables_1 room_1 Calls_1 rest_1 Pre_1 Post := by
  intro l hfl _ _ p e ha hc hk s m args below hf hA hF happ hP
  obtain ⟨hcalls, hrest, hpre⟩ := hP
  obtain ⟨-, -, -, hnamed, -, -, -, hat⟩ := (Spec.applies_iff hf).mp happ
  obtain ⟨hg, hn⟩ := and_e (Cond.before_iff.mp (show (Jvm.Cond.and given_1 narrow_1).before args s = true from hpre))
  obtain ⟨g1, g2⟩ := and_e hg
  obtain ⟨g3, g4⟩ := and_e g2
  obtain ⟨g5, g6⟩ := and_e g4
  obtain ⟨g7, g8⟩ := and_e g6
  obtain ⟨g9, g10⟩ := and_e g8
  obtain ⟨g11, g12⟩ := and_e g10
  obtain ⟨w0, w1, w2, w3, w4, w5, rfl⟩ : ∃ w0 w1 w2 w3 w4 w5 : Value, args = #[w0, w1, w2, w3, w4, w5] := by
    have hs : args.size = 6 := by simpa [Cond.value, given_1] using g1
    obtain ⟨L⟩ := args
    match L, hs with
    | [w0, w1, w2, w3, w4, w5], _ => exact ⟨w0, w1, w2, w3, w4, w5, rfl⟩
  have hw := fun d (hd : d ∈ tables_1) => atoms_spec (ws := Jvm.Cond.code x code maxLocals ret :: tables_1) hat d (List.mem_cons_of_mem _ hd)
  obtain ⟨i0, ei0⟩ := is_v g3
  obtain rfl : w0 = (.int i0) := Option.some.inj ei0
  obtain ⟨i1, ei1⟩ := is_v g5
  obtain rfl : w1 = (.int i1) := Option.some.inj ei1
  obtain ⟨i2, ei2⟩ := is_v g7
  obtain rfl : w2 = (.int i2) := Option.some.inj ei2
  obtain ⟨i3, ei3⟩ := is_v g9
  obtain rfl : w3 = (.int i3) := Option.some.inj ei3
  obtain ⟨i4, ei4⟩ := is_v g11
  obtain rfl : w4 = (.int i4) := Option.some.inj ei4
  obtain ⟨i5, ei5⟩ := is_v g12
  obtain rfl : w5 = (.int i5) := Option.some.inj ei5
  obtain ⟨n, o, h1, h2, h3, _, L, rfl, ⟨rfl, N⟩, hq⟩ := rm0 l s _ hw tables_1 i0 i1 i2 i3 i4 i5  s.heap s.heap.size (Nat.le_refl _) p e ha hc hk s m _ below hf ((Spec.applies_iff_loose hf).mp happ).1 ⟨rfl, State.Warmed39.refl s, rfl⟩ trivial
  refine ⟨n, _, h1, h2, h3, hpost _ _ _ _ _ _ ⟨Cond.after_iff.mpr rfl, Cond.after_iff.mpr (eq_i res_at (Term.int_eval (1)) rfl), trivial⟩ ⟨hq.1, hq.2.1, (hq.2.2.sift fun y hy => Or.inr (N y hy)).mono (by decide) (by decide)⟩⟩
theorem main_1_1 : Claimed_1_1 := comes_1 fun _ _ _ _ _ _ h hF => ⟨h.1, hF⟩
theorem main_1_2 : Claimed_1_2 := comes_1 fun _ _ _ _ _ _ h hF => ⟨h.2.1, hF⟩
end Jvm.Pilot.@@N@@
namespace Jvm.Pilot.@@N@@
open Jvm Jvm.ClassFile Sem Op Lib Jvm.Free Jvm.Stand Jvm.Pilot.@@N@@.Jvm.D
/-! MADE BY PROGRAM (witnessworld.py) out of the Statement's table words and the real class files: 9 classes; the members and pool entries that the words name. The judged class is class 1, her method 1. -/
namespace start1
open Jvm.ClassFile
def u (s : String) : CpInfo := .utf8 (stringToUtf16 s)
/-- a pool by its gaps: so many unusable entries, then the entry; so many at the end -/
def gap : Nat → List CpInfo → List CpInfo
  | 0, r => r
  | n + 1, r => .unusable :: gap n r
def poolList (es : List (Nat × CpInfo)) (last : Nat) : List CpInfo := es.foldr (fun e r => gap e.1 (e.2 :: r)) (gap last [])
def pool (es : List (Nat × CpInfo)) (last : Nat) : Array CpInfo := ⟨poolList es last⟩
def fileOf (pool : Array CpInfo) (this : Nat) (attrs : Array Attribute := #[]) (ms : Array MethodInfo := #[]) (fl : Nat := 33) (sup : Nat := 0) (ifs : Array Nat := #[]) (fds : Array FieldInfo := #[]) : ClassFile where
  minorVersion := 0
  majorVersion := 65
  constantPool := pool
  accessFlags := fl
  thisClass := this
  superClass := sup
  interfaces := ifs
  fields := fds
  methods := ms
  attributes := attrs
def plain (name : String) (sup : Option ClassId) : Class where
  name := name
  kind := .ordinary
  loader := none
  accessFlags := 33
  super := sup
  interfaces := #[]
  cf := none
  fields := #[]
  methods := #[]
  instanceTypes := #[]
  staticTypes := #[]
  resolved := #[]
  callSites := []
  init := .initialized
  statics := none
  mirror := none

def pool0 : Array CpInfo := pool [(5, u "<init>"), (0, u "()V"), (1, .class_ 10), (1, u "java/lang/Object")] 113

def k0c0 : Code := { maxStack := 0, maxLocals := 1, code := object_method_1_code, exceptionTable := #[], attributes := #[] }
def k0m0 : Method := { name := "<init>", desc := "()V", sig := { parameters := [], returnType := none }, accessFlags := 1, code := some k0c0 }
/-- java/lang/Object -/
def k0 : Class := { plain "java/lang/Object" none with
  accessFlags := 33
  interfaces := #[]
  cf := some (fileOf pool0 8 #[] #[{ accessFlags := 1, nameIndex := 5, descriptorIndex := 6, attributes := #[] }] 33 0 #[] #[])
  fields := #[]
  methods := #[k0m0]
  instanceTypes := #[]
  staticTypes := #[]
  resolved := Array.replicate 124 none
  statics := none }

def pool1 : Array CpInfo := pool [(2, .class_ 4), (1, u "java/lang/Object"), (0, u "<init>"), (0, u "()V"), (0, .class_ 8), (0, u "com/example/slot16k/slot16k/Command"), (0, .methodref 7 10), (0, .nameAndType 5 11), (0, u "([BII[II)V"), (0, .methodref 7 13), (0, .nameAndType 14 15), (0, u "end"), (0, u "(I)I"), (0, .class_ 17), (0, u "com/example/slot16k/slot16k/CommandEndPinLaw"), (2, u "law"), (0, u "(IIIIII)Z")] 7

def k1m0 : Method := { name := "<init>", desc := "()V", sig := { parameters := [], returnType := none }, accessFlags := 1, code := none }
def k1c1 : Code := { maxStack := 7, maxLocals := 12, code := code, exceptionTable := #[], attributes := #[] }
def k1m1 : Method := { name := "law", desc := "(IIIIII)Z", sig := { parameters := [.int, .int, .int, .int, .int, .int], returnType := some .boolean }, accessFlags := 9, code := some k1c1 }
/-- com/example/slot16k/slot16k/CommandEndPinLaw -/
def k1 : Class := { plain "com/example/slot16k/slot16k/CommandEndPinLaw" (some 0) with
  accessFlags := 49
  interfaces := #[]
  cf := some (fileOf pool1 16 #[] #[{ accessFlags := 1, nameIndex := 5, descriptorIndex := 6, attributes := #[] }, { accessFlags := 9, nameIndex := 20, descriptorIndex := 21, attributes := #[] }] 49 2 #[] #[])
  fields := #[]
  methods := #[k1m0, k1m1]
  instanceTypes := #[]
  staticTypes := #[]
  resolved := Array.replicate 29 none
  statics := none }

def pool2 : Array CpInfo := pool [(3, .methodref 4 5), (0, .class_ 6), (0, .nameAndType 7 8), (0, u "java/lang/Object"), (0, u "<init>"), (0, u "()V"), (0, .methodref 10 11), (0, .class_ 12), (0, .nameAndType 13 14), (0, u "com/example/slot16k/slot16k/Command"), (0, u "standIn"), (0, u "([BII[II)V"), (0, .fieldref 10 16), (0, .nameAndType 17 18), (0, u "bytes"), (0, u "[B"), (0, .fieldref 10 20), (0, .nameAndType 21 22), (0, u "offset"), (0, u "I"), (0, .fieldref 10 24), (0, .nameAndType 25 22), (0, u "length"), (0, .fieldref 10 27), (0, .nameAndType 28 29), (0, u "bounds"), (0, u "[I"), (0, .fieldref 10 31), (0, .nameAndType 32 22), (0, u "arguments"), (20, u "MAX_LENGTH"), (10, u "(I)I"), (0, u "end")] 2

def k2c0 : Code := { maxStack := 6, maxLocals := 6, code := prog_8_method_1_code, exceptionTable := #[], attributes := #[] }
def k2m0 : Method := { name := "<init>", desc := "([BII[II)V", sig := { parameters := [(.array .byte), .int, .int, (.array .int), .int], returnType := none }, accessFlags := 0, code := some k2c0 }
def k2c1 : Code := { maxStack := 2, maxLocals := 6, code := prog_8_method_2_code, exceptionTable := #[], attributes := #[] }
def k2m1 : Method := { name := "standIn", desc := "([BII[II)V", sig := { parameters := [(.array .byte), .int, .int, (.array .int), .int], returnType := none }, accessFlags := 0, code := some k2c1 }
def k2c2 : Code := { maxStack := 4, maxLocals := 2, code := prog_8_method_12_code, exceptionTable := #[], attributes := #[] }
def k2m2 : Method := { name := "end", desc := "(I)I", sig := { parameters := [.int], returnType := some .int }, accessFlags := 0, code := some k2c2 }
/-- com/example/slot16k/slot16k/Command -/
def k2 : Class := { plain "com/example/slot16k/slot16k/Command" (some 0) with
  accessFlags := 48
  interfaces := #[]
  cf := some (fileOf pool2 10 #[] #[{ accessFlags := 0, nameIndex := 7, descriptorIndex := 14, attributes := #[] }, { accessFlags := 0, nameIndex := 13, descriptorIndex := 14, attributes := #[] }, { accessFlags := 0, nameIndex := 65, descriptorIndex := 64, attributes := #[] }] 48 4 #[] #[{ accessFlags := 24, nameIndex := 53, descriptorIndex := 22, attributes := #[] }, { accessFlags := 2, nameIndex := 17, descriptorIndex := 18, attributes := #[] }, { accessFlags := 2, nameIndex := 21, descriptorIndex := 22, attributes := #[] }, { accessFlags := 2, nameIndex := 25, descriptorIndex := 22, attributes := #[] }, { accessFlags := 2, nameIndex := 28, descriptorIndex := 29, attributes := #[] }, { accessFlags := 2, nameIndex := 32, descriptorIndex := 22, attributes := #[] }])
  fields := #[{ name := "MAX_LENGTH", type := .int, accessFlags := 24, slot := 0, constantValue := 0 }, { name := "bytes", type := (.array .byte), accessFlags := 2, slot := 0, constantValue := 0 }, { name := "offset", type := .int, accessFlags := 2, slot := 1, constantValue := 0 }, { name := "length", type := .int, accessFlags := 2, slot := 2, constantValue := 0 }, { name := "bounds", type := (.array .int), accessFlags := 2, slot := 3, constantValue := 0 }, { name := "arguments", type := .int, accessFlags := 2, slot := 4, constantValue := 0 }]
  methods := #[k2m0, k2m1, k2m2]
  instanceTypes := #[(.array .byte), .int, .int, (.array .int), .int]
  staticTypes := #[.int]
  resolved := Array.replicate 68 none
  statics := none }

def pool3 : Array CpInfo := pool [(1, u "java/lang/Cloneable"), (0, .class_ 1), (0, u "java/lang/Object"), (0, .class_ 3)] 3

/-- java/lang/Cloneable -/
def k3 : Class := { plain "java/lang/Cloneable" (some 0) with
  accessFlags := 1537
  interfaces := #[]
  cf := some (fileOf pool3 2 #[] #[] 1537 4 #[] #[])
  fields := #[]
  methods := #[]
  instanceTypes := #[]
  staticTypes := #[]
  resolved := Array.replicate 8 none
  statics := none }

def pool4 : Array CpInfo := pool [(1, u "java/io/Serializable"), (0, .class_ 1), (0, u "java/lang/Object"), (0, .class_ 3)] 3

/-- java/io/Serializable -/
def k4 : Class := { plain "java/io/Serializable" (some 0) with
  accessFlags := 1537
  interfaces := #[]
  cf := some (fileOf pool4 2 #[] #[] 1537 4 #[] #[])
  fields := #[]
  methods := #[]
  instanceTypes := #[]
  staticTypes := #[]
  resolved := Array.replicate 8 none
  statics := none }

/-- the primitive byte -/
def k5 : Class := { plain "byte" none with kind := .primitive 'B', accessFlags := 0x411 }
/-- [B -/
def k6 : Class := { plain "[B" (some 0) with kind := .array 5 .byte, interfaces := #[3, 4], accessFlags := 1041 }

/-- the primitive int -/
def k7 : Class := { plain "int" none with kind := .primitive 'I', accessFlags := 0x411 }
/-- [I -/
def k8 : Class := { plain "[I" (some 0) with kind := .array 7 .int, interfaces := #[3, 4], accessFlags := 1041 }

def heap : Heap := #[]
def classes : Array Class := #[k0, k1, k2, k3, k4, k5, k6, k7, k8]
def interned : List (Array UInt16 × Addr) := []
def slotsUsed : Nat := 0
def theMethod : MethodId := ⟨1, 1⟩
def args0 : Array Value := #[.int 5, .int 5, .int 5, .int 5, .int 5, .int 5]
def aboutOver (below : List Frame) : State where
  vm := { classes := classes, interned := interned.toArray }
  heap := heap
  slotsUsed := slotsUsed
  threads := #[{ frames := .invoking theMethod args0 :: below }]
def below0 : List Frame := [.native { method := ⟨0, 0⟩, args := #[] }]
def about1 : State := aboutOver below0
def p0 : Program := .bare "" "" ""
def e0 : Env := launch0.env 0 0 0
theorem w_frames : about1.frames = Frame.invoking theMethod args0 :: below0 := rfl
set_option maxRecDepth 65536 in
theorem w_args : argsFit about1.vm theMethod args0 = true := by decide +kernel
set_option maxRecDepth 65536 in
theorem w_heap : heapFits about1 = true := by decide +kernel
set_option maxRecDepth 65536 in
theorem w_runnable : about1.curStatus? = some .runnable := by decide +kernel
set_option maxRecDepth 65536 in
theorem w_alone : about1.alone = true := by decide +kernel
set_option maxRecDepth 65536 in
theorem w_named : about1.methodNamed? x = some theMethod := by decide +kernel
set_option maxRecDepth 65536 in
theorem w_hears : about1.hears theMethod below0 = true := by decide +kernel
set_option maxRecDepth 65536 in
theorem w_ripe : about1.ripe theMethod args0 below0 = true := by decide +kernel
theorem w_running : about1.status = .running := rfl
set_option maxRecDepth 65536 in
theorem w_room : about1.hasRoom e0.platform room_1 = true :=
  launch0.hasRoom_least _ room_1 (by decide +kernel) (by decide +kernel) (by decide +kernel) (by decide +kernel) (by decide +kernel) (by decide +kernel)
theorem allAtoms_all (ts : List Jvm.Cond) (a : Array Jvm.Value) (st : Jvm.State) : (allAtoms ts).before a st = ts.all (fun c => c.before a st) := by
  induction ts with
  | nil => rfl
  | cons c t ih =>
    show (Jvm.Cond.and c (allAtoms t)).before a st = _
    rw [Jvm.Cond.before_and, ih, List.all_cons]
def words1 : List Jvm.Cond := Jvm.Cond.code x code maxLocals ret :: tables_1
/-- a 'code' word, met by the world's own term for the bytes: nothing is compared byte by byte -/
theorem code_word {y : MethodName} {bytes : ByteArray} {mx : Nat} {rt : Option FieldType} {a : Array Value} {s : State} {m : MethodId} {meth : Method} {c : Code} (h1 : s.methodNamed? y = some m) (h2 : s.vm.method? m = some meth) (h3 : meth.code = some c) (h4 : c.code = bytes)
    (h5 : (c.maxLocals == mx && c.exceptionTable.isEmpty && decide (c.maxStack ≤ mostOperands) && decide (meth.sig.returnType = rt) && !meth.locks && decide (parseMethodDescriptor y.desc = some meth.sig)) = true) : (Jvm.Cond.code y bytes mx rt).before a s = true := by
  simp only [Bool.and_eq_true, beq_iff_eq, Bool.not_eq_true', decide_eq_true_eq] at h5
  obtain ⟨⟨⟨⟨⟨g1, g2⟩, g3⟩, g4⟩, g5⟩, g6⟩ := h5
  simp [Cond.before, Cond.holds, Cond.value, h1, h2, h3, h4, g1, g2, g3, g4, g5, g6]
def isCode : Jvm.Cond → Bool
  | .code _ _ _ _ => true
  | _ => false
theorem all_split {L : List Jvm.Cond} {P : Jvm.Cond → Bool} (h1 : L.all (fun c => isCode c || P c) = true) (h2 : ∀ c ∈ L.filter isCode, P c = true) : L.all P = true := by
  refine List.all_eq_true.mpr fun c hc => ?_
  have h := List.all_eq_true.mp h1 c hc
  rcases Bool.eq_false_or_eq_true (isCode c) with hi | hi
  · exact h2 c (List.mem_filter.mpr ⟨hc, hi⟩)
  · simpa [hi] using h
set_option maxRecDepth 65536 in
theorem w_c0 : (Jvm.Cond.code x code maxLocals ret).before args0 about1 = true := code_word (m := ⟨1, 1⟩) (meth := k1m1) (c := k1c1) (by decide +kernel) rfl rfl rfl (by decide +kernel)
set_option maxRecDepth 65536 in
theorem w_c1 : (Jvm.Cond.code ({ cls := "com/example/slot16k/slot16k/Command", name := "<init>", desc := "([BII[II)V" } : Jvm.MethodName) prog_8_method_1_code (6 : Nat) (Option.none : Option Jvm.ClassFile.FieldType)).before args0 about1 = true := code_word (m := ⟨2, 0⟩) (meth := k2m0) (c := k2c0) (by decide +kernel) rfl rfl rfl (by decide +kernel)
set_option maxRecDepth 65536 in
theorem w_c2 : (Jvm.Cond.code ({ cls := "java/lang/Object", name := "<init>", desc := "()V" } : Jvm.MethodName) object_method_1_code (1 : Nat) (Option.none : Option Jvm.ClassFile.FieldType)).before args0 about1 = true := code_word (m := ⟨0, 0⟩) (meth := k0m0) (c := k0c0) (by decide +kernel) rfl rfl rfl (by decide +kernel)
set_option maxRecDepth 65536 in
theorem w_c3 : (Jvm.Cond.code ({ cls := "com/example/slot16k/slot16k/Command", name := "standIn", desc := "([BII[II)V" } : Jvm.MethodName) prog_8_method_2_code (6 : Nat) (Option.none : Option Jvm.ClassFile.FieldType)).before args0 about1 = true := code_word (m := ⟨2, 1⟩) (meth := k2m1) (c := k2c1) (by decide +kernel) rfl rfl rfl (by decide +kernel)
set_option maxRecDepth 65536 in
theorem w_c4 : (Jvm.Cond.code ({ cls := "com/example/slot16k/slot16k/Command", name := "end", desc := "(I)I" } : Jvm.MethodName) prog_8_method_12_code (2 : Nat) (Option.some Jvm.ClassFile.FieldType.int)).before args0 about1 = true := code_word (m := ⟨2, 2⟩) (meth := k2m2) (c := k2c2) (by decide +kernel) rfl rfl rfl (by decide +kernel)
def codes1 : List Jvm.Cond := [Jvm.Cond.code x code maxLocals ret, Jvm.Cond.code ({ cls := "com/example/slot16k/slot16k/Command", name := "<init>", desc := "([BII[II)V" } : Jvm.MethodName) prog_8_method_1_code (6 : Nat) (Option.none : Option Jvm.ClassFile.FieldType), Jvm.Cond.code ({ cls := "java/lang/Object", name := "<init>", desc := "()V" } : Jvm.MethodName) object_method_1_code (1 : Nat) (Option.none : Option Jvm.ClassFile.FieldType), Jvm.Cond.code ({ cls := "com/example/slot16k/slot16k/Command", name := "standIn", desc := "([BII[II)V" } : Jvm.MethodName) prog_8_method_2_code (6 : Nat) (Option.none : Option Jvm.ClassFile.FieldType), Jvm.Cond.code ({ cls := "com/example/slot16k/slot16k/Command", name := "end", desc := "(I)I" } : Jvm.MethodName) prog_8_method_12_code (2 : Nat) (Option.some Jvm.ClassFile.FieldType.int)]
set_option maxRecDepth 65536 in
theorem codes_eq : words1.filter isCode = codes1 := rfl
theorem w_codes : ∀ c ∈ words1.filter isCode, c.before args0 about1 = true := by
  rw [codes_eq]
  intro c hc
  simp only [codes1, List.mem_cons, List.not_mem_nil, or_false] at hc
  rcases hc with rfl | rfl | rfl | rfl | rfl
  · exact w_c0
  · exact w_c1
  · exact w_c2
  · exact w_c3
  · exact w_c4
set_option maxRecDepth 65536 in
theorem w_t1 : (words1.take 24).all (fun c => isCode c || c.before args0 about1) = true := by decide +kernel
set_option maxRecDepth 65536 in
theorem w_t2 : (words1.drop 24).all (fun c => isCode c || c.before args0 about1) = true := by decide +kernel
theorem w_tables : (allAtoms (Jvm.Cond.code x code maxLocals ret :: tables_1)).before args0 about1 = true := by
  rw [allAtoms_all]
  show words1.all (fun c => c.before args0 about1) = true
  refine all_split ?_ w_codes
  rw [← List.take_append_drop 24 words1, List.all_append, w_t1, w_t2]
  rfl
set_option maxRecDepth 65536 in
theorem w_case : (Jvm.Cond.and given_1 narrow_1).before args0 about1 = true := by decide +kernel
theorem w_applies : (headSpec (Jvm.Cond.code x code maxLocals ret :: tables_1) room_1).applies x e0.platform about1 = true :=
  (Spec.applies_iff w_frames).mpr ⟨w_running, w_runnable, w_alone, w_named, w_hears, w_ripe, w_room, w_tables⟩
theorem atStart : AtStart classFile x code maxLocals ret World_1 tables_1 room_1 Calls_1 rest_1 Pre_1 launch0 p0 e0 about1 theMethod args0 below0 :=
  ⟨lists_1, trivial, launch0.admits_env _ _ _, launch0.least_env, fairChoices_fair.cas, fairChoices_fair.clock, w_frames, w_args, w_heap, w_applies, trivial, trivial, w_case⟩
end start1
theorem witness_1 : WitnessClaimed_1 := ⟨start1.p0, start1.e0, start1.about1, start1.theMethod, start1.args0, start1.below0, start1.atStart⟩
end Jvm.Pilot.@@N@@
