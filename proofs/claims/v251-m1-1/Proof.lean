import JvmDerived
import JvmDerived.Pilot.@@N@@Statement
import JvmDerived.Pilot.@@N@@Code
set_option linter.unusedVariables false
set_option linter.unusedSimpArgs false
namespace Jvm.RoadKit
open Sem ClassFile Op Lib Jvm.Stand Jvm.Free Jvm.LawKit
section New
variable {p : Program} {l : Launch} {e : Env} {R : Room} {s : State} {m : MethodId} {args : Array Value} {below : List Frame} {meth : Method} {c : Code} {T : State} {locs : List Loc} {cells slots : Nat}
theorem retI (X : Stand p l e R s m args below meth c T locs cells slots) (hx : p.tables.exec = Jvm.exec) {pc : Nat} {Ls : Array Slot} {z : Int32} {rest : List Value} (hret : meth.sig.returnType = some .int) (hd : decode c.code pc = .ok (.ireturn, 1)) {fs : List Frame}
    (hl : ∀ (f : JFrame) (acts : List Action), f.method = m → f.locked = none → f.entered = [] → (doReturn e (T.setTop f) acts (some (.int z))).1 = T.setFrames fs) : Steps p.tables e below (T.setTop (mkF m pc Ls (.int z :: rest))) (T.setFrames fs) := by
  have hm' : T.vm.method? m = some meth := X.method'
  have hn : narrow .int (.int z) = .int z := rfl
  show Steps p.tables e below (T.setTop { method := m, pc := pc, locals := Ls, stack := _ :: rest, locked := none }) _
  jvm_step X.here [X.here.top, hx, hd, hm', hret, hn]
  first | (intro acts; rw [hl _ acts rfl rfl rfl]) | rw [hl _ _ rfl rfl rfl]
  exact Steps.refl _
theorem own_lrem {target : State} (X : Stand p l e R s m args below meth c T locs cells slots) (hx : p.tables.exec = Jvm.exec) {g : JFrame} (hg : g.method = m) {x y : Int64} {rest : List Value} (hd : decode c.code g.pc = .ok (.lrem, 1)) (hs : g.stack = .long y :: .long x :: rest) (hy : y ≠ 0)
    (hr : Steps p.tables e below (T.setTop { g with pc := g.pc + 1, stack := .long (x % y) :: rest }) target) : Steps p.tables e below (T.setTop g) target :=
  XS.lrem X.here hx hg hd hs hy (by rw [lrem_mod]; exact hr)
theorem own_retJ (Y : Stand p l e R s m args below meth c T locs cells slots) (hexec : p.tables.exec = Jvm.exec) {pc : Nat} {Ls : Array Slot} {w : Int64} (hret : meth.sig.returnType = some .long)
    (hdg : decode c.code pc = .ok (.lreturn, 1)) {fs : List Frame} (hleave : ∀ (f : JFrame) (acts : List Action), f.method = m → f.locked = none → f.entered = [] → (doReturn e (T.setTop f) acts (some (.long w))).1 = T.setFrames fs) :
    Steps p.tables e below (T.setTop (mkF m pc Ls [.long w])) (T.setFrames fs) := Y.lreturnOut hexec hret hdg hleave
theorem own_retR (X : Stand p l e R s m args below meth c T locs cells slots) (hx : p.tables.exec = Jvm.exec) {pc : Nat} {Ls : Array Slot} {w : Value} {t : FieldType} {rest : List Value} (hret : meth.sig.returnType = some t) (hn : narrow t w = w) (ht : t.isReference = true) (hw : w.isRef = true)
    (hd : decode c.code pc = .ok (.areturn, 1)) {fs : List Frame} (hl : ∀ (f : JFrame) (acts : List Action), f.method = m → f.locked = none → f.entered = [] → (doReturn e (T.setTop f) acts (some w)).1 = T.setFrames fs) :
    Steps p.tables e below (T.setTop (mkF m pc Ls (w :: rest))) (T.setFrames fs) := retOut X hx hret hn (Or.inr (Or.inr (Or.inr (Or.inr ⟨rfl, ht, hw⟩)))) hd hl
theorem own_via {tb : Tables} {s0 target : State} (s' : State) (h : Steps tb e below s' target → Steps tb e below s0 target) (k : Steps tb e below s' target) : Steps tb e below s0 target := h k
end New
end Jvm.RoadKit
namespace Jvm.Pilot.@@N@@
open Jvm Jvm.ClassFile Sem Op Lib Jvm.Free Jvm.Stand Jvm.LawKit Jvm.RoadKit Bundle Jvm.Pilot.@@N@@.Jvm.D
theorem d3_0 : decode prog_8_method_2_code 0 = .ok (.aload_n 0, 1) := by decide +kernel
theorem d3_1 : decode prog_8_method_2_code 1 = .ok (.aload_n 1, 1) := by decide +kernel
theorem d3_2 : decode prog_8_method_2_code 2 = .ok (.putfield 15, 3) := by decide +kernel
theorem d3_5 : decode prog_8_method_2_code 5 = .ok (.aload_n 0, 1) := by decide +kernel
theorem d3_6 : decode prog_8_method_2_code 6 = .ok (.iload_n 2, 1) := by decide +kernel
theorem d3_7 : decode prog_8_method_2_code 7 = .ok (.putfield 19, 3) := by decide +kernel
theorem d3_10 : decode prog_8_method_2_code 10 = .ok (.aload_n 0, 1) := by decide +kernel
theorem d3_11 : decode prog_8_method_2_code 11 = .ok (.iload_n 3, 1) := by decide +kernel
theorem d3_12 : decode prog_8_method_2_code 12 = .ok (.putfield 23, 3) := by decide +kernel
theorem d3_15 : decode prog_8_method_2_code 15 = .ok (.aload_n 0, 1) := by decide +kernel
theorem d3_16 : decode prog_8_method_2_code 16 = .ok (.aload 4, 2) := by decide +kernel
theorem d3_18 : decode prog_8_method_2_code 18 = .ok (.putfield 26, 3) := by decide +kernel
theorem d3_21 : decode prog_8_method_2_code 21 = .ok (.aload_n 0, 1) := by decide +kernel
theorem d3_22 : decode prog_8_method_2_code 22 = .ok (.iload 5, 2) := by decide +kernel
theorem d3_24 : decode prog_8_method_2_code 24 = .ok (.putfield 30, 3) := by decide +kernel
theorem d3_27 : decode prog_8_method_2_code 27 = .ok (.return_, 1) := by decide +kernel
theorem pn_3 : plainName "com/example/slot16k/slot16k/Command" = true := by first | (simp [plainName, overriddenIn]; done) | decide +kernel
theorem ef_rm3 (m : MethodId) (a0 : Addr) (a1 : Addr) (p2 : Int32) (p3 : Int32) (a4 : Addr) (p5 : Int32) : entryFrame m #[(.ref a0), (.ref a1), (.int p2), (.int p3), (.ref a4), (.int p5)] 6 = mkF m 0 #[.val (.ref a0), .val (.ref a1), .val (.int p2), .val (.int p3), .val (.ref a4), .val (.int p5)] [] := by first | (simp [entryFrame, mkF, argsToLocals, Value.category]; done) | rfl
def Qrm3 (Z : State) (a0 : Addr) (a1 : Addr) (p2 : Int32) (p3 : Int32) (a4 : Addr) (p5 : Int32) (u_bytes : Value) (u_offset : Value) (u_length : Value) (u_bounds : Value) (u_arguments : Value) (h0 : Heap) (n0 : Nat) (v : Option Value) (h : Heap) (L : List Loc) : Prop := v = none ∧ Fr n0 L ∧ Keep h0 h [a0] ∧ Exa Z h a0 "com/example/slot16k/slot16k/Command" ∧ Fld Z h a0 "com/example/slot16k/slot16k/Command" "bytes" "[B" (.ref a1) ∧ Fld Z h a0 "com/example/slot16k/slot16k/Command" "offset" "I" (.int p2) ∧ Fld Z h a0 "com/example/slot16k/slot16k/Command" "length" "I" (.int p3) ∧ Fld Z h a0 "com/example/slot16k/slot16k/Command" "bounds" "[I" (.ref a4) ∧ Fld Z h a0 "com/example/slot16k/slot16k/Command" "arguments" "I" (.int p5)
set_option maxRecDepth 65536 in
set_option maxHeartbeats 40000000 in
theorem rm3 (l : Launch) (Z : State) (A0 : Array Value) (hw : ∀ d ∈ tables_1, d.before A0 Z = true) (ws : List Jvm.Cond) (a0 : Addr) (a1 : Addr) (p2 : Int32) (p3 : Int32) (a4 : Addr) (p5 : Int32) (u_bytes : Value) (u_offset : Value) (u_length : Value) (u_bounds : Value) (u_arguments : Value) (h0 : Heap) (n0 : Nat) (Z0 : n0 ≤ h0.size) (E_a0 : Exa Z h0 a0 "com/example/slot16k/slot16k/Command") (F_bytes_a0 : Fld Z h0 a0 "com/example/slot16k/slot16k/Command" "bytes" "[B" u_bytes) (F_offset_a0 : Fld Z h0 a0 "com/example/slot16k/slot16k/Command" "offset" "I" u_offset) (F_length_a0 : Fld Z h0 a0 "com/example/slot16k/slot16k/Command" "length" "I" u_length) (F_bounds_a0 : Fld Z h0 a0 "com/example/slot16k/slot16k/Command" "bounds" "[I" u_bounds) (F_arguments_a0 : Fld Z h0 a0 "com/example/slot16k/slot16k/Command" "arguments" "I" u_arguments) (g_a0 : n0 ≤ a0) :
    MetFree l (⟨"com/example/slot16k/slot16k/Command", "standIn", "([BII[II)V"⟩ : MethodName) (head1 (Jvm.Cond.code (⟨"com/example/slot16k/slot16k/Command", "standIn", "([BII[II)V"⟩ : MethodName) prog_8_method_2_code 6 none :: ws) ({ frames := 0, cells := 0, slots := 0, locals := 0 } : Room)) (fun a U => a = #[(.ref a0), (.ref a1), (.int p2), (.int p3), (.ref a4), (.int p5)] ∧ Z.Warmed39 U.vm ∧ U.heap = h0) (fun _ _ _ _ _ => True) (fun _ U o U' => ∃ v L, o = .returned v ∧ Qrm3 Z a0 a1 p2 p3 a4 p5 u_bytes u_offset u_length u_bounds u_arguments h0 n0 v U'.heap L ∧ FrameEnd U o U' L ({ frames := 0, cells := 0, slots := 0, locals := 0 } : Room).cells ({ frames := 0, cells := 0, slots := 0, locals := 0 } : Room).slots) := by
  refine MetFree.of_bodySF (plainFor_of_name pn_3) hisR ?_
  intro p e s m args below meth c s₁ Bd hml0 hP hK
  obtain ⟨rfl, hZ, hh⟩ := hP
  have hx := Bd.exec
  have hby := Bd.bytes
  have hml : c.maxLocals = 6 := hml0
  have hown : s.vm.findClass "com/example/slot16k/slot16k/Command" = some m.cls := findClass_of_methodNamed Bd.named
  have hnm := (name_of_methodNamed Bd.named Bd.method).1
  have X0 : Stand p l e ({ frames := 0, cells := 0, slots := 0, locals := 0 } : Room) s m #[(.ref a0), (.ref a1), (.int p2), (.int p3), (.ref a4), (.int p5)] below meth c s₁ [] 0 0 := Stand.of_body Bd
  have e0 : s₁.heap = h0 := by rw [← hh, Bd.state]; rfl
  have N0 := Fr.nil n0
  have K0 : Keep h0 h0 [a0] := Keep.refl _ _
  have pre0 : ∀ t, Steps p.tables e below (s₁.setTop (mkF m 0 #[.val (.ref a0), .val (.ref a1), .val (.int p2), .val (.int p3), .val (.ref a4), .val (.int p5)] [])) t → Steps p.tables e below (s₁.setTop (entryFrame m #[(.ref a0), (.ref a1), (.int p2), (.int p3), (.ref a4), (.int p5)] 6)) t := fun t k => castTop (ef_rm3 m a0 a1 p2 p3 a4 p5) k
  obtain ⟨T1, h1, X1, e1, W1, st1⟩ := putF X0 hx hZ hown (host := "") (Or.inl (hw _ (List.mem_of_getElem? (i := 16) rfl))) Via.refl e0 F_bytes_a0 E_a0 (Or.inl (hw _ (List.mem_of_getElem? (i := 17) rfl))) (hw _ (List.mem_of_getElem? (i := 3) rfl)) (ty := (.array .byte)) (by decide) rfl rfl (g := (mkF m 2 #[.val (.ref a0), .val (.ref a1), .val (.int p2), .val (.int p3), .val (.ref a4), .val (.int p5)] [(.ref a1), (.ref a0)])) rfl rfl (hb hby d3_2)
  have F_bytes_a0 : Fld Z h1 a0 "com/example/slot16k/slot16k/Command" "bytes" "[B" (.ref a1) := F_bytes_a0.same W1
  have E_a0 : Exa Z h1 a0 "com/example/slot16k/slot16k/Command" := E_a0.wr W1
  have F_offset_a0 : Fld Z h1 a0 "com/example/slot16k/slot16k/Command" "offset" "I" u_offset := F_offset_a0.other W1 (Or.inr (slot_ne (Or.inl (hw _ (List.mem_of_getElem? (i := 19) rfl))) (Or.inl (hw _ (List.mem_of_getElem? (i := 17) rfl))) (by decide) (t := .int) (t' := (.array .byte)) (by decide) (by decide)))
  have F_length_a0 : Fld Z h1 a0 "com/example/slot16k/slot16k/Command" "length" "I" u_length := F_length_a0.other W1 (Or.inr (slot_ne (Or.inl (hw _ (List.mem_of_getElem? (i := 21) rfl))) (Or.inl (hw _ (List.mem_of_getElem? (i := 17) rfl))) (by decide) (t := .int) (t' := (.array .byte)) (by decide) (by decide)))
  have F_bounds_a0 : Fld Z h1 a0 "com/example/slot16k/slot16k/Command" "bounds" "[I" u_bounds := F_bounds_a0.other W1 (Or.inr (slot_ne (Or.inl (hw _ (List.mem_of_getElem? (i := 23) rfl))) (Or.inl (hw _ (List.mem_of_getElem? (i := 17) rfl))) (by decide) (t := (.array .int)) (t' := (.array .byte)) (by decide) (by decide)))
  have F_arguments_a0 : Fld Z h1 a0 "com/example/slot16k/slot16k/Command" "arguments" "I" u_arguments := F_arguments_a0.other W1 (Or.inr (slot_ne (Or.inl (hw _ (List.mem_of_getElem? (i := 25) rfl))) (Or.inl (hw _ (List.mem_of_getElem? (i := 17) rfl))) (by decide) (t := .int) (t' := (.array .byte)) (by decide) (by decide)))
  have Zh1 : n0 ≤ h1.size := Nat.le_trans Z0 (Keep.of_wr W1).1
  have Kh1 : Keep h0 h1 [a0] := K0.wr W1 (Or.inl (by simp))
  have N1 := Fr.snoc X1 N0 g_a0
  obtain ⟨T2, h2, X2, e2, W2, st2⟩ := putF X1 hx hZ hown (host := "") (Or.inl (hw _ (List.mem_of_getElem? (i := 18) rfl))) Via.refl e1 F_offset_a0 E_a0 (Or.inl (hw _ (List.mem_of_getElem? (i := 19) rfl))) (hw _ (List.mem_of_getElem? (i := 3) rfl)) (ty := .int) (by decide) rfl rfl (g := (mkF m 7 #[.val (.ref a0), .val (.ref a1), .val (.int p2), .val (.int p3), .val (.ref a4), .val (.int p5)] [(.int p2), (.ref a0)])) rfl rfl (hb hby d3_7)
  have F_offset_a0 : Fld Z h2 a0 "com/example/slot16k/slot16k/Command" "offset" "I" (.int p2) := F_offset_a0.same W2
  have E_a0 : Exa Z h2 a0 "com/example/slot16k/slot16k/Command" := E_a0.wr W2
  have F_bytes_a0 : Fld Z h2 a0 "com/example/slot16k/slot16k/Command" "bytes" "[B" (.ref a1) := F_bytes_a0.other W2 (Or.inr (slot_ne (Or.inl (hw _ (List.mem_of_getElem? (i := 17) rfl))) (Or.inl (hw _ (List.mem_of_getElem? (i := 19) rfl))) (by decide) (t := (.array .byte)) (t' := .int) (by decide) (by decide)))
  have F_length_a0 : Fld Z h2 a0 "com/example/slot16k/slot16k/Command" "length" "I" u_length := F_length_a0.other W2 (Or.inr (slot_ne (Or.inl (hw _ (List.mem_of_getElem? (i := 21) rfl))) (Or.inl (hw _ (List.mem_of_getElem? (i := 19) rfl))) (by decide) (t := .int) (t' := .int) (by decide) (by decide)))
  have F_bounds_a0 : Fld Z h2 a0 "com/example/slot16k/slot16k/Command" "bounds" "[I" u_bounds := F_bounds_a0.other W2 (Or.inr (slot_ne (Or.inl (hw _ (List.mem_of_getElem? (i := 23) rfl))) (Or.inl (hw _ (List.mem_of_getElem? (i := 19) rfl))) (by decide) (t := (.array .int)) (t' := .int) (by decide) (by decide)))
  have F_arguments_a0 : Fld Z h2 a0 "com/example/slot16k/slot16k/Command" "arguments" "I" u_arguments := F_arguments_a0.other W2 (Or.inr (slot_ne (Or.inl (hw _ (List.mem_of_getElem? (i := 25) rfl))) (Or.inl (hw _ (List.mem_of_getElem? (i := 19) rfl))) (by decide) (t := .int) (t' := .int) (by decide) (by decide)))
  have Zh2 : n0 ≤ h2.size := Nat.le_trans Zh1 (Keep.of_wr W2).1
  have Kh2 : Keep h0 h2 [a0] := Kh1.wr W2 (Or.inl (by simp))
  have N2 := Fr.snoc X2 N1 g_a0
  obtain ⟨T3, h3, X3, e3, W3, st3⟩ := putF X2 hx hZ hown (host := "") (Or.inl (hw _ (List.mem_of_getElem? (i := 20) rfl))) Via.refl e2 F_length_a0 E_a0 (Or.inl (hw _ (List.mem_of_getElem? (i := 21) rfl))) (hw _ (List.mem_of_getElem? (i := 3) rfl)) (ty := .int) (by decide) rfl rfl (g := (mkF m 12 #[.val (.ref a0), .val (.ref a1), .val (.int p2), .val (.int p3), .val (.ref a4), .val (.int p5)] [(.int p3), (.ref a0)])) rfl rfl (hb hby d3_12)
  have F_length_a0 : Fld Z h3 a0 "com/example/slot16k/slot16k/Command" "length" "I" (.int p3) := F_length_a0.same W3
  have E_a0 : Exa Z h3 a0 "com/example/slot16k/slot16k/Command" := E_a0.wr W3
  have F_bytes_a0 : Fld Z h3 a0 "com/example/slot16k/slot16k/Command" "bytes" "[B" (.ref a1) := F_bytes_a0.other W3 (Or.inr (slot_ne (Or.inl (hw _ (List.mem_of_getElem? (i := 17) rfl))) (Or.inl (hw _ (List.mem_of_getElem? (i := 21) rfl))) (by decide) (t := (.array .byte)) (t' := .int) (by decide) (by decide)))
  have F_offset_a0 : Fld Z h3 a0 "com/example/slot16k/slot16k/Command" "offset" "I" (.int p2) := F_offset_a0.other W3 (Or.inr (slot_ne (Or.inl (hw _ (List.mem_of_getElem? (i := 19) rfl))) (Or.inl (hw _ (List.mem_of_getElem? (i := 21) rfl))) (by decide) (t := .int) (t' := .int) (by decide) (by decide)))
  have F_bounds_a0 : Fld Z h3 a0 "com/example/slot16k/slot16k/Command" "bounds" "[I" u_bounds := F_bounds_a0.other W3 (Or.inr (slot_ne (Or.inl (hw _ (List.mem_of_getElem? (i := 23) rfl))) (Or.inl (hw _ (List.mem_of_getElem? (i := 21) rfl))) (by decide) (t := (.array .int)) (t' := .int) (by decide) (by decide)))
  have F_arguments_a0 : Fld Z h3 a0 "com/example/slot16k/slot16k/Command" "arguments" "I" u_arguments := F_arguments_a0.other W3 (Or.inr (slot_ne (Or.inl (hw _ (List.mem_of_getElem? (i := 25) rfl))) (Or.inl (hw _ (List.mem_of_getElem? (i := 21) rfl))) (by decide) (t := .int) (t' := .int) (by decide) (by decide)))
  have Zh3 : n0 ≤ h3.size := Nat.le_trans Zh2 (Keep.of_wr W3).1
  have Kh3 : Keep h0 h3 [a0] := Kh2.wr W3 (Or.inl (by simp))
  have N3 := Fr.snoc X3 N2 g_a0
  obtain ⟨T4, h4, X4, e4, W4, st4⟩ := putF X3 hx hZ hown (host := "") (Or.inl (hw _ (List.mem_of_getElem? (i := 22) rfl))) Via.refl e3 F_bounds_a0 E_a0 (Or.inl (hw _ (List.mem_of_getElem? (i := 23) rfl))) (hw _ (List.mem_of_getElem? (i := 3) rfl)) (ty := (.array .int)) (by decide) rfl rfl (g := (mkF m 18 #[.val (.ref a0), .val (.ref a1), .val (.int p2), .val (.int p3), .val (.ref a4), .val (.int p5)] [(.ref a4), (.ref a0)])) rfl rfl (hb hby d3_18)
  have F_bounds_a0 : Fld Z h4 a0 "com/example/slot16k/slot16k/Command" "bounds" "[I" (.ref a4) := F_bounds_a0.same W4
  have E_a0 : Exa Z h4 a0 "com/example/slot16k/slot16k/Command" := E_a0.wr W4
  have F_bytes_a0 : Fld Z h4 a0 "com/example/slot16k/slot16k/Command" "bytes" "[B" (.ref a1) := F_bytes_a0.other W4 (Or.inr (slot_ne (Or.inl (hw _ (List.mem_of_getElem? (i := 17) rfl))) (Or.inl (hw _ (List.mem_of_getElem? (i := 23) rfl))) (by decide) (t := (.array .byte)) (t' := (.array .int)) (by decide) (by decide)))
  have F_offset_a0 : Fld Z h4 a0 "com/example/slot16k/slot16k/Command" "offset" "I" (.int p2) := F_offset_a0.other W4 (Or.inr (slot_ne (Or.inl (hw _ (List.mem_of_getElem? (i := 19) rfl))) (Or.inl (hw _ (List.mem_of_getElem? (i := 23) rfl))) (by decide) (t := .int) (t' := (.array .int)) (by decide) (by decide)))
  have F_length_a0 : Fld Z h4 a0 "com/example/slot16k/slot16k/Command" "length" "I" (.int p3) := F_length_a0.other W4 (Or.inr (slot_ne (Or.inl (hw _ (List.mem_of_getElem? (i := 21) rfl))) (Or.inl (hw _ (List.mem_of_getElem? (i := 23) rfl))) (by decide) (t := .int) (t' := (.array .int)) (by decide) (by decide)))
  have F_arguments_a0 : Fld Z h4 a0 "com/example/slot16k/slot16k/Command" "arguments" "I" u_arguments := F_arguments_a0.other W4 (Or.inr (slot_ne (Or.inl (hw _ (List.mem_of_getElem? (i := 25) rfl))) (Or.inl (hw _ (List.mem_of_getElem? (i := 23) rfl))) (by decide) (t := .int) (t' := (.array .int)) (by decide) (by decide)))
  have Zh4 : n0 ≤ h4.size := Nat.le_trans Zh3 (Keep.of_wr W4).1
  have Kh4 : Keep h0 h4 [a0] := Kh3.wr W4 (Or.inl (by simp))
  have N4 := Fr.snoc X4 N3 g_a0
  obtain ⟨T5, h5, X5, e5, W5, st5⟩ := putF X4 hx hZ hown (host := "") (Or.inl (hw _ (List.mem_of_getElem? (i := 24) rfl))) Via.refl e4 F_arguments_a0 E_a0 (Or.inl (hw _ (List.mem_of_getElem? (i := 25) rfl))) (hw _ (List.mem_of_getElem? (i := 3) rfl)) (ty := .int) (by decide) rfl rfl (g := (mkF m 24 #[.val (.ref a0), .val (.ref a1), .val (.int p2), .val (.int p3), .val (.ref a4), .val (.int p5)] [(.int p5), (.ref a0)])) rfl rfl (hb hby d3_24)
  have F_arguments_a0 : Fld Z h5 a0 "com/example/slot16k/slot16k/Command" "arguments" "I" (.int p5) := F_arguments_a0.same W5
  have E_a0 : Exa Z h5 a0 "com/example/slot16k/slot16k/Command" := E_a0.wr W5
  have F_bytes_a0 : Fld Z h5 a0 "com/example/slot16k/slot16k/Command" "bytes" "[B" (.ref a1) := F_bytes_a0.other W5 (Or.inr (slot_ne (Or.inl (hw _ (List.mem_of_getElem? (i := 17) rfl))) (Or.inl (hw _ (List.mem_of_getElem? (i := 25) rfl))) (by decide) (t := (.array .byte)) (t' := .int) (by decide) (by decide)))
  have F_offset_a0 : Fld Z h5 a0 "com/example/slot16k/slot16k/Command" "offset" "I" (.int p2) := F_offset_a0.other W5 (Or.inr (slot_ne (Or.inl (hw _ (List.mem_of_getElem? (i := 19) rfl))) (Or.inl (hw _ (List.mem_of_getElem? (i := 25) rfl))) (by decide) (t := .int) (t' := .int) (by decide) (by decide)))
  have F_length_a0 : Fld Z h5 a0 "com/example/slot16k/slot16k/Command" "length" "I" (.int p3) := F_length_a0.other W5 (Or.inr (slot_ne (Or.inl (hw _ (List.mem_of_getElem? (i := 21) rfl))) (Or.inl (hw _ (List.mem_of_getElem? (i := 25) rfl))) (by decide) (t := .int) (t' := .int) (by decide) (by decide)))
  have F_bounds_a0 : Fld Z h5 a0 "com/example/slot16k/slot16k/Command" "bounds" "[I" (.ref a4) := F_bounds_a0.other W5 (Or.inr (slot_ne (Or.inl (hw _ (List.mem_of_getElem? (i := 23) rfl))) (Or.inl (hw _ (List.mem_of_getElem? (i := 25) rfl))) (by decide) (t := (.array .int)) (t' := .int) (by decide) (by decide)))
  have Zh5 : n0 ≤ h5.size := Nat.le_trans Zh4 (Keep.of_wr W5).1
  have Kh5 : Keep h0 h5 [a0] := Kh4.wr W5 (Or.inl (by simp))
  have N5 := Fr.snoc X5 N4 g_a0
  obtain ⟨fs, hr, hrun, hended, hW, hsame⟩ := X5.leave (v := none) (fun _ => rfl)
  refine ⟨_, _, pre0 _ ?_, hrun, hended, _, _, rfl, ?_, ⟨_, rfl⟩, hW, hsame.mono (by decide) (by decide)⟩
  · show Steps p.tables e below (s₁.setTop (mkF m 0 #[.val (.ref a0), .val (.ref a1), .val (.int p2), .val (.int p3), .val (.ref a4), .val (.int p5)] [])) _
    refine XS.aloadN X0.here hx rfl (hb hby d3_0) rfl rfl ?_
    show Steps p.tables e below (s₁.setTop (mkF m 1 #[.val (.ref a0), .val (.ref a1), .val (.int p2), .val (.int p3), .val (.ref a4), .val (.int p5)] [(.ref a0)])) _
    refine XS.aloadN X0.here hx rfl (hb hby d3_1) rfl rfl ?_
    show Steps p.tables e below (s₁.setTop (mkF m 2 #[.val (.ref a0), .val (.ref a1), .val (.int p2), .val (.int p3), .val (.ref a4), .val (.int p5)] [(.ref a1), (.ref a0)])) _
    refine st1 _ ?_
    show Steps p.tables e below (T1.setTop (mkF m 5 #[.val (.ref a0), .val (.ref a1), .val (.int p2), .val (.int p3), .val (.ref a4), .val (.int p5)] [])) _
    refine XS.aloadN X1.here hx rfl (hb hby d3_5) rfl rfl ?_
    show Steps p.tables e below (T1.setTop (mkF m 6 #[.val (.ref a0), .val (.ref a1), .val (.int p2), .val (.int p3), .val (.ref a4), .val (.int p5)] [(.ref a0)])) _
    refine XS.iloadN X1.here hx rfl (hb hby d3_6) rfl ?_
    show Steps p.tables e below (T1.setTop (mkF m 7 #[.val (.ref a0), .val (.ref a1), .val (.int p2), .val (.int p3), .val (.ref a4), .val (.int p5)] [(.int p2), (.ref a0)])) _
    refine st2 _ ?_
    show Steps p.tables e below (T2.setTop (mkF m 10 #[.val (.ref a0), .val (.ref a1), .val (.int p2), .val (.int p3), .val (.ref a4), .val (.int p5)] [])) _
    refine XS.aloadN X2.here hx rfl (hb hby d3_10) rfl rfl ?_
    show Steps p.tables e below (T2.setTop (mkF m 11 #[.val (.ref a0), .val (.ref a1), .val (.int p2), .val (.int p3), .val (.ref a4), .val (.int p5)] [(.ref a0)])) _
    refine XS.iloadN X2.here hx rfl (hb hby d3_11) rfl ?_
    show Steps p.tables e below (T2.setTop (mkF m 12 #[.val (.ref a0), .val (.ref a1), .val (.int p2), .val (.int p3), .val (.ref a4), .val (.int p5)] [(.int p3), (.ref a0)])) _
    refine st3 _ ?_
    show Steps p.tables e below (T3.setTop (mkF m 15 #[.val (.ref a0), .val (.ref a1), .val (.int p2), .val (.int p3), .val (.ref a4), .val (.int p5)] [])) _
    refine XS.aloadN X3.here hx rfl (hb hby d3_15) rfl rfl ?_
    show Steps p.tables e below (T3.setTop (mkF m 16 #[.val (.ref a0), .val (.ref a1), .val (.int p2), .val (.int p3), .val (.ref a4), .val (.int p5)] [(.ref a0)])) _
    refine XS.aload X3.here hx rfl (hb hby d3_16) rfl rfl ?_
    show Steps p.tables e below (T3.setTop (mkF m 18 #[.val (.ref a0), .val (.ref a1), .val (.int p2), .val (.int p3), .val (.ref a4), .val (.int p5)] [(.ref a4), (.ref a0)])) _
    refine st4 _ ?_
    show Steps p.tables e below (T4.setTop (mkF m 21 #[.val (.ref a0), .val (.ref a1), .val (.int p2), .val (.int p3), .val (.ref a4), .val (.int p5)] [])) _
    refine XS.aloadN X4.here hx rfl (hb hby d3_21) rfl rfl ?_
    show Steps p.tables e below (T4.setTop (mkF m 22 #[.val (.ref a0), .val (.ref a1), .val (.int p2), .val (.int p3), .val (.ref a4), .val (.int p5)] [(.ref a0)])) _
    refine XS.iload X4.here hx rfl (hb hby d3_22) rfl ?_
    show Steps p.tables e below (T4.setTop (mkF m 24 #[.val (.ref a0), .val (.ref a1), .val (.int p2), .val (.int p3), .val (.ref a4), .val (.int p5)] [(.int p5), (.ref a0)])) _
    refine st5 _ ?_
    show Steps p.tables e below (T5.setTop (mkF m 27 #[.val (.ref a0), .val (.ref a1), .val (.int p2), .val (.int p3), .val (.ref a4), .val (.int p5)] [])) _
    exact X5.returnOut hx Bd.returns (hb hby d3_27) hr
  · show Qrm3 Z a0 a1 p2 p3 a4 p5 u_bytes u_offset u_length u_bounds u_arguments h0 n0 _ T5.heap _
    rw [e5]
    exact ⟨rfl, N5, Kh5, E_a0, F_bytes_a0, F_offset_a0, F_length_a0, F_bounds_a0, F_arguments_a0⟩
theorem pd_0 : parseMethodDescriptor "([BII[II)V" = some ⟨[(.array .byte), .int, .int, (.array .int), .int], none⟩ := by decide +kernel
theorem d1_0 : decode prog_8_method_1_code 0 = .ok (.aload_n 0, 1) := by decide +kernel
theorem d1_1 : decode prog_8_method_1_code 1 = .ok (.invokespecial 3, 3) := by decide +kernel
theorem d1_4 : decode prog_8_method_1_code 4 = .ok (.aload_n 0, 1) := by decide +kernel
theorem d1_5 : decode prog_8_method_1_code 5 = .ok (.aload_n 1, 1) := by decide +kernel
theorem d1_6 : decode prog_8_method_1_code 6 = .ok (.iload_n 2, 1) := by decide +kernel
theorem d1_7 : decode prog_8_method_1_code 7 = .ok (.iload_n 3, 1) := by decide +kernel
theorem d1_8 : decode prog_8_method_1_code 8 = .ok (.aload 4, 2) := by decide +kernel
theorem d1_10 : decode prog_8_method_1_code 10 = .ok (.iload 5, 2) := by decide +kernel
theorem d1_12 : decode prog_8_method_1_code 12 = .ok (.invokevirtual 9, 3) := by decide +kernel
theorem d1_15 : decode prog_8_method_1_code 15 = .ok (.return_, 1) := by decide +kernel
theorem pn_1 : plainName "com/example/slot16k/slot16k/Command" = true := by first | (simp [plainName, overriddenIn]; done) | decide +kernel
theorem ef_rm1 (m : MethodId) (a0 : Addr) (a1 : Addr) (p2 : Int32) (p3 : Int32) (a4 : Addr) (p5 : Int32) : entryFrame m #[(.ref a0), (.ref a1), (.int p2), (.int p3), (.ref a4), (.int p5)] 6 = mkF m 0 #[.val (.ref a0), .val (.ref a1), .val (.int p2), .val (.int p3), .val (.ref a4), .val (.int p5)] [] := by first | (simp [entryFrame, mkF, argsToLocals, Value.category]; done) | rfl
def Qrm1 (Z : State) (a0 : Addr) (a1 : Addr) (p2 : Int32) (p3 : Int32) (a4 : Addr) (p5 : Int32) (u_bytes : Value) (u_offset : Value) (u_length : Value) (u_bounds : Value) (u_arguments : Value) (h0 : Heap) (n0 : Nat) (v : Option Value) (h : Heap) (L : List Loc) : Prop := v = none ∧ Fr n0 L ∧ Keep h0 h [a0] ∧ Exa Z h a0 "com/example/slot16k/slot16k/Command" ∧ Fld Z h a0 "com/example/slot16k/slot16k/Command" "bytes" "[B" (.ref a1) ∧ Fld Z h a0 "com/example/slot16k/slot16k/Command" "offset" "I" (.int p2) ∧ Fld Z h a0 "com/example/slot16k/slot16k/Command" "length" "I" (.int p3) ∧ Fld Z h a0 "com/example/slot16k/slot16k/Command" "bounds" "[I" (.ref a4) ∧ Fld Z h a0 "com/example/slot16k/slot16k/Command" "arguments" "I" (.int p5)
set_option maxRecDepth 65536 in
set_option maxHeartbeats 40000000 in
theorem rm1 (l : Launch) (Z : State) (A0 : Array Value) (hw : ∀ d ∈ tables_1, d.before A0 Z = true) (ws : List Jvm.Cond) (a0 : Addr) (a1 : Addr) (p2 : Int32) (p3 : Int32) (a4 : Addr) (p5 : Int32) (u_bytes : Value) (u_offset : Value) (u_length : Value) (u_bounds : Value) (u_arguments : Value) (h0 : Heap) (n0 : Nat) (Z0 : n0 ≤ h0.size) (E_a0 : Exa Z h0 a0 "com/example/slot16k/slot16k/Command") (F_bytes_a0 : Fld Z h0 a0 "com/example/slot16k/slot16k/Command" "bytes" "[B" u_bytes) (F_offset_a0 : Fld Z h0 a0 "com/example/slot16k/slot16k/Command" "offset" "I" u_offset) (F_length_a0 : Fld Z h0 a0 "com/example/slot16k/slot16k/Command" "length" "I" u_length) (F_bounds_a0 : Fld Z h0 a0 "com/example/slot16k/slot16k/Command" "bounds" "[I" u_bounds) (F_arguments_a0 : Fld Z h0 a0 "com/example/slot16k/slot16k/Command" "arguments" "I" u_arguments) (g_a0 : n0 ≤ a0) :
    MetFree l (⟨"com/example/slot16k/slot16k/Command", "<init>", "([BII[II)V"⟩ : MethodName) (head1 (Jvm.Cond.code (⟨"com/example/slot16k/slot16k/Command", "<init>", "([BII[II)V"⟩ : MethodName) prog_8_method_1_code 6 none :: ws) ({ frames := 1, cells := 0, slots := 0, locals := 17 } : Room)) (fun a U => a = #[(.ref a0), (.ref a1), (.int p2), (.int p3), (.ref a4), (.int p5)] ∧ Z.Warmed39 U.vm ∧ U.heap = h0) (fun _ _ _ _ _ => True) (fun _ U o U' => ∃ v L, o = .returned v ∧ Qrm1 Z a0 a1 p2 p3 a4 p5 u_bytes u_offset u_length u_bounds u_arguments h0 n0 v U'.heap L ∧ FrameEnd U o U' L ({ frames := 1, cells := 0, slots := 0, locals := 17 } : Room).cells ({ frames := 1, cells := 0, slots := 0, locals := 17 } : Room).slots) := by
  refine MetFree.of_bodySF (plainFor_of_name pn_1) hisR ?_
  intro p e s m args below meth c s₁ Bd hml0 hP hK
  obtain ⟨rfl, hZ, hh⟩ := hP
  have hx := Bd.exec
  have hby := Bd.bytes
  have hml : c.maxLocals = 6 := hml0
  have hown : s.vm.findClass "com/example/slot16k/slot16k/Command" = some m.cls := findClass_of_methodNamed Bd.named
  have hnm := (name_of_methodNamed Bd.named Bd.method).1
  have X0 : Stand p l e ({ frames := 1, cells := 0, slots := 0, locals := 17 } : Room) s m #[(.ref a0), (.ref a1), (.int p2), (.int p3), (.ref a4), (.int p5)] below meth c s₁ [] 0 0 := Stand.of_body Bd
  have e0 : s₁.heap = h0 := by rw [← hh, Bd.state]; rfl
  have N0 := Fr.nil n0
  have K0 : Keep h0 h0 [a0] := Keep.refl _ _
  have pre0 : ∀ t, Steps p.tables e below (s₁.setTop (mkF m 0 #[.val (.ref a0), .val (.ref a1), .val (.int p2), .val (.int p3), .val (.ref a4), .val (.int p5)] [])) t → Steps p.tables e below (s₁.setTop (entryFrame m #[(.ref a0), (.ref a1), (.int p2), (.int p3), (.ref a4), (.int p5)] 6)) t := fun t k => castTop (ef_rm1 m a0 a1 p2 p3 a4 p5) k
  obtain ⟨T1, X1, e1, st1⟩ := initO X0 hx hZ hown (hw _ (List.mem_of_getElem? (i := 8) rfl)) (hw _ (List.mem_of_getElem? (i := 9) rfl)) (hw _ (List.mem_of_getElem? (i := 10) rfl)) e0 (g := (mkF m 1 #[.val (.ref a0), .val (.ref a1), .val (.int p2), .val (.int p3), .val (.ref a4), .val (.int p5)] [(.ref a0)])) rfl (by rw [hml]; rfl) rfl (hb hby d1_1) (by decide) (W := 0) (by show 2 * 0 + _ ≤ _; exact Nat.le_of_eq rfl) (by decide)
  obtain ⟨cq2, kq2, q2a, q2b, q2c⟩ := isOf hZ e1 E_a0
  obtain ⟨_, _, ⟨T2, L2, k2, n2⟩, -, X2, ⟨Lc2, hQ2, l2, y2, z2⟩, st2⟩ := X1.virtualBack hx (y := (⟨"com/example/slot16k/slot16k/Command", "standIn", "([BII[II)V"⟩ : MethodName)) (z := (⟨"com/example/slot16k/slot16k/Command", "standIn", "([BII[II)V"⟩ : MethodName)) hown (mvT hZ (hw _ (List.mem_of_getElem? (i := 11) rfl))) (mvT hZ (hw _ (List.mem_of_getElem? (i := 12) rfl))) (notFace_of_selects (args := #[]) (mvT hZ (hw _ (List.mem_of_getElem? (i := 14) rfl)))) (mvT hZ (hw _ (List.mem_of_getElem? (i := 14) rfl))) (mvT hZ (hw _ (List.mem_of_getElem? (i := 13) rfl))) (by decide) (backOf (W := 0) (rm3 l Z A0 hw [] a0 a1 p2 p3 a4 p5 u_bytes u_offset u_length u_bounds u_arguments h0 n0 Z0 E_a0 F_bytes_a0 F_offset_a0 F_length_a0 F_bounds_a0 F_arguments_a0 g_a0) hZ (hw _ (List.mem_of_getElem? (i := 15) rfl)) (hw _ (List.mem_of_getElem? (i := 4) rfl)) (by decide) (by decide)) q2a q2c (g := (mkF m 12 #[.val (.ref a0), .val (.ref a1), .val (.int p2), .val (.int p3), .val (.ref a4), .val (.int p5)] [(.int p5), (.ref a4), (.int p3), (.int p2), (.ref a1), (.ref a0)])) rfl (by rw [hml]; rfl) (Steps.refl _) (argsL := [(.ref a1), (.int p2), (.int p3), (.ref a4), (.int p5)]) (rest := []) (lenOf pd_0 rfl) rfl (by show 2 * 0 + _ ≤ _; exact Nat.le_of_eq rfl) (hb hby d1_12) (fun _ _ => ⟨rfl, e1, (by decide : 0 + 0 ≤ _), (by decide : 0 + 0 ≤ _)⟩)
  dsimp only [Pt.U, Pt.locs, Pt.cells, Pt.slots] at X2 l2 y2 z2 st2 hQ2
  subst l2 y2 z2
  obtain ⟨rfl, N2q, Kc2, P2_0, P2_1, P2_2, P2_3, P2_4, P2_5⟩ := hQ2
  have N2 := Fr.app N0 N2q
  have E_a0 : Exa Z T2.heap a0 "com/example/slot16k/slot16k/Command" := E_a0.keep Kc2
  have ZT2_heap : n0 ≤ T2.heap.size := Nat.le_trans Z0 Kc2.1
  have KT2_heap : Keep h0 T2.heap [a0] := K0.trans Kc2 (allS (Or.inl (by simp)) all0)
  have E_a0 : Exa Z T2.heap a0 "com/example/slot16k/slot16k/Command" := P2_0
  have F_bytes_a0 : Fld Z T2.heap a0 "com/example/slot16k/slot16k/Command" "bytes" "[B" (.ref a1) := P2_1
  have F_offset_a0 : Fld Z T2.heap a0 "com/example/slot16k/slot16k/Command" "offset" "I" (.int p2) := P2_2
  have F_length_a0 : Fld Z T2.heap a0 "com/example/slot16k/slot16k/Command" "length" "I" (.int p3) := P2_3
  have F_bounds_a0 : Fld Z T2.heap a0 "com/example/slot16k/slot16k/Command" "bounds" "[I" (.ref a4) := P2_4
  have F_arguments_a0 : Fld Z T2.heap a0 "com/example/slot16k/slot16k/Command" "arguments" "I" (.int p5) := P2_5
  obtain ⟨fs, hr, hrun, hended, hW, hsame⟩ := X2.leave (v := none) (fun _ => rfl)
  refine ⟨_, _, pre0 _ ?_, hrun, hended, _, _, rfl, ?_, ⟨_, rfl⟩, hW, hsame.mono (by decide) (by decide)⟩
  · show Steps p.tables e below (s₁.setTop (mkF m 0 #[.val (.ref a0), .val (.ref a1), .val (.int p2), .val (.int p3), .val (.ref a4), .val (.int p5)] [])) _
    refine XS.aloadN X0.here hx rfl (hb hby d1_0) rfl rfl ?_
    show Steps p.tables e below (s₁.setTop (mkF m 1 #[.val (.ref a0), .val (.ref a1), .val (.int p2), .val (.int p3), .val (.ref a4), .val (.int p5)] [(.ref a0)])) _
    refine st1 _ ?_
    show Steps p.tables e below (T1.setTop (mkF m 4 #[.val (.ref a0), .val (.ref a1), .val (.int p2), .val (.int p3), .val (.ref a4), .val (.int p5)] [])) _
    refine XS.aloadN X1.here hx rfl (hb hby d1_4) rfl rfl ?_
    show Steps p.tables e below (T1.setTop (mkF m 5 #[.val (.ref a0), .val (.ref a1), .val (.int p2), .val (.int p3), .val (.ref a4), .val (.int p5)] [(.ref a0)])) _
    refine XS.aloadN X1.here hx rfl (hb hby d1_5) rfl rfl ?_
    show Steps p.tables e below (T1.setTop (mkF m 6 #[.val (.ref a0), .val (.ref a1), .val (.int p2), .val (.int p3), .val (.ref a4), .val (.int p5)] [(.ref a1), (.ref a0)])) _
    refine XS.iloadN X1.here hx rfl (hb hby d1_6) rfl ?_
    show Steps p.tables e below (T1.setTop (mkF m 7 #[.val (.ref a0), .val (.ref a1), .val (.int p2), .val (.int p3), .val (.ref a4), .val (.int p5)] [(.int p2), (.ref a1), (.ref a0)])) _
    refine XS.iloadN X1.here hx rfl (hb hby d1_7) rfl ?_
    show Steps p.tables e below (T1.setTop (mkF m 8 #[.val (.ref a0), .val (.ref a1), .val (.int p2), .val (.int p3), .val (.ref a4), .val (.int p5)] [(.int p3), (.int p2), (.ref a1), (.ref a0)])) _
    refine XS.aload X1.here hx rfl (hb hby d1_8) rfl rfl ?_
    show Steps p.tables e below (T1.setTop (mkF m 10 #[.val (.ref a0), .val (.ref a1), .val (.int p2), .val (.int p3), .val (.ref a4), .val (.int p5)] [(.ref a4), (.int p3), (.int p2), (.ref a1), (.ref a0)])) _
    refine XS.iload X1.here hx rfl (hb hby d1_10) rfl ?_
    show Steps p.tables e below (T1.setTop (mkF m 12 #[.val (.ref a0), .val (.ref a1), .val (.int p2), .val (.int p3), .val (.ref a4), .val (.int p5)] [(.int p5), (.ref a4), (.int p3), (.int p2), (.ref a1), (.ref a0)])) _
    refine st2.trans ?_
    show Steps p.tables e below (T2.setTop (mkF m 15 #[.val (.ref a0), .val (.ref a1), .val (.int p2), .val (.int p3), .val (.ref a4), .val (.int p5)] [])) _
    exact X2.returnOut hx Bd.returns (hb hby d1_15) hr
  · show Qrm1 Z a0 a1 p2 p3 a4 p5 u_bytes u_offset u_length u_bounds u_arguments h0 n0 _ T2.heap _
    exact ⟨rfl, N2, KT2_heap, E_a0, F_bytes_a0, F_offset_a0, F_length_a0, F_bounds_a0, F_arguments_a0⟩
theorem d4_0 : decode prog_8_method_5_code 0 = .ok (.aload_n 0, 1) := by decide +kernel
theorem d4_1 : decode prog_8_method_5_code 1 = .ok (.getfield 15, 3) := by decide +kernel
theorem d4_4 : decode prog_8_method_5_code 4 = .ok (.areturn, 1) := by decide +kernel
theorem pn_4 : plainName "com/example/slot16k/slot16k/Command" = true := by first | (simp [plainName, overriddenIn]; done) | decide +kernel
theorem ef_rm4 (m : MethodId) (a0 : Addr) : entryFrame m #[(.ref a0)] 1 = mkF m 0 #[.val (.ref a0)] [] := by first | (simp [entryFrame, mkF, argsToLocals, Value.category]; done) | rfl
def Qrm4 (Z : State) (a0 : Addr) (xx : Addr) (h0 : Heap) (n0 : Nat) (v : Option Value) (h : Heap) (L : List Loc) : Prop := v = some (.ref xx) ∧ Fr n0 L ∧ h = h0
set_option maxRecDepth 65536 in
set_option maxHeartbeats 40000000 in
theorem rm4 (l : Launch) (Z : State) (A0 : Array Value) (hw : ∀ d ∈ tables_1, d.before A0 Z = true) (ws : List Jvm.Cond) (a0 : Addr) (xx : Addr) (h0 : Heap) (n0 : Nat) (Z0 : n0 ≤ h0.size) (F_bytes_a0 : Fld Z h0 a0 "com/example/slot16k/slot16k/Command" "bytes" "[B" (.ref xx)) :
    MetFree l (⟨"com/example/slot16k/slot16k/Command", "bytes", "()[B"⟩ : MethodName) (head1 (Jvm.Cond.code (⟨"com/example/slot16k/slot16k/Command", "bytes", "()[B"⟩ : MethodName) prog_8_method_5_code 1 (some (.array .byte)) :: ws) ({ frames := 0, cells := 0, slots := 0, locals := 0 } : Room)) (fun a U => a = #[(.ref a0)] ∧ Z.Warmed39 U.vm ∧ U.heap = h0) (fun _ _ _ _ _ => True) (fun _ U o U' => ∃ v L, o = .returned v ∧ Qrm4 Z a0 xx h0 n0 v U'.heap L ∧ FrameEnd U o U' L ({ frames := 0, cells := 0, slots := 0, locals := 0 } : Room).cells ({ frames := 0, cells := 0, slots := 0, locals := 0 } : Room).slots) := by
  refine MetFree.of_bodySF (plainFor_of_name pn_4) hisR ?_
  intro p e s m args below meth c s₁ Bd hml0 hP hK
  obtain ⟨rfl, hZ, hh⟩ := hP
  have hx := Bd.exec
  have hby := Bd.bytes
  have hml : c.maxLocals = 1 := hml0
  have hown : s.vm.findClass "com/example/slot16k/slot16k/Command" = some m.cls := findClass_of_methodNamed Bd.named
  have hnm := (name_of_methodNamed Bd.named Bd.method).1
  have X0 : Stand p l e ({ frames := 0, cells := 0, slots := 0, locals := 0 } : Room) s m #[(.ref a0)] below meth c s₁ [] 0 0 := Stand.of_body Bd
  have e0 : s₁.heap = h0 := by rw [← hh, Bd.state]; rfl
  have N0 := Fr.nil n0
  have K0 : Keep h0 h0 [] := Keep.refl _ _
  have pre0 : ∀ t, Steps p.tables e below (s₁.setTop (mkF m 0 #[.val (.ref a0)] [])) t → Steps p.tables e below (s₁.setTop (entryFrame m #[(.ref a0)] 1)) t := fun t k => castTop (ef_rm4 m a0) k
  obtain ⟨T1, X1, e1, st1⟩ := getF X0 hx hZ hown (host := "") (Or.inl (hw _ (List.mem_of_getElem? (i := 16) rfl))) Via.refl e0 F_bytes_a0 (g := (mkF m 1 #[.val (.ref a0)] [(.ref a0)])) rfl rfl (hb hby d4_1)
  obtain ⟨fs, hr, hrun, hended, hW, hsame⟩ := X1.leave (v := some (.ref xx)) (fun h => by rw [Bd.returns] at h; cases h)
  refine ⟨_, _, pre0 _ ?_, hrun, hended, _, _, rfl, ?_, ⟨_, rfl⟩, hW, hsame.mono (by decide) (by decide)⟩
  · show Steps p.tables e below (s₁.setTop (mkF m 0 #[.val (.ref a0)] [])) _
    refine XS.aloadN X0.here hx rfl (hb hby d4_0) rfl rfl ?_
    show Steps p.tables e below (s₁.setTop (mkF m 1 #[.val (.ref a0)] [(.ref a0)])) _
    refine st1 _ ?_
    show Steps p.tables e below (T1.setTop (mkF m 4 #[.val (.ref a0)] [(.ref xx)])) _
    exact own_retR X1 hx Bd.returns rfl rfl rfl (hb hby d4_4) hr
  · show Qrm4 Z a0 xx h0 n0 _ T1.heap _
    rw [e1]
    exact ⟨rfl, N0, rfl⟩
theorem d5_0 : decode prog_8_method_6_code 0 = .ok (.aload_n 0, 1) := by decide +kernel
theorem d5_1 : decode prog_8_method_6_code 1 = .ok (.getfield 19, 3) := by decide +kernel
theorem d5_4 : decode prog_8_method_6_code 4 = .ok (.ireturn, 1) := by decide +kernel
theorem pn_5 : plainName "com/example/slot16k/slot16k/Command" = true := by first | (simp [plainName, overriddenIn]; done) | decide +kernel
theorem ef_rm5 (m : MethodId) (a0 : Addr) : entryFrame m #[(.ref a0)] 1 = mkF m 0 #[.val (.ref a0)] [] := by first | (simp [entryFrame, mkF, argsToLocals, Value.category]; done) | rfl
def Qrm5 (Z : State) (a0 : Addr) (xx : Int32) (h0 : Heap) (n0 : Nat) (v : Option Value) (h : Heap) (L : List Loc) : Prop := v = some (.int xx) ∧ Fr n0 L ∧ h = h0
set_option maxRecDepth 65536 in
set_option maxHeartbeats 40000000 in
theorem rm5 (l : Launch) (Z : State) (A0 : Array Value) (hw : ∀ d ∈ tables_1, d.before A0 Z = true) (ws : List Jvm.Cond) (a0 : Addr) (xx : Int32) (h0 : Heap) (n0 : Nat) (Z0 : n0 ≤ h0.size) (F_offset_a0 : Fld Z h0 a0 "com/example/slot16k/slot16k/Command" "offset" "I" (.int xx)) :
    MetFree l (⟨"com/example/slot16k/slot16k/Command", "offset", "()I"⟩ : MethodName) (head1 (Jvm.Cond.code (⟨"com/example/slot16k/slot16k/Command", "offset", "()I"⟩ : MethodName) prog_8_method_6_code 1 (some .int) :: ws) ({ frames := 0, cells := 0, slots := 0, locals := 0 } : Room)) (fun a U => a = #[(.ref a0)] ∧ Z.Warmed39 U.vm ∧ U.heap = h0) (fun _ _ _ _ _ => True) (fun _ U o U' => ∃ v L, o = .returned v ∧ Qrm5 Z a0 xx h0 n0 v U'.heap L ∧ FrameEnd U o U' L ({ frames := 0, cells := 0, slots := 0, locals := 0 } : Room).cells ({ frames := 0, cells := 0, slots := 0, locals := 0 } : Room).slots) := by
  refine MetFree.of_bodySF (plainFor_of_name pn_5) hisR ?_
  intro p e s m args below meth c s₁ Bd hml0 hP hK
  obtain ⟨rfl, hZ, hh⟩ := hP
  have hx := Bd.exec
  have hby := Bd.bytes
  have hml : c.maxLocals = 1 := hml0
  have hown : s.vm.findClass "com/example/slot16k/slot16k/Command" = some m.cls := findClass_of_methodNamed Bd.named
  have hnm := (name_of_methodNamed Bd.named Bd.method).1
  have X0 : Stand p l e ({ frames := 0, cells := 0, slots := 0, locals := 0 } : Room) s m #[(.ref a0)] below meth c s₁ [] 0 0 := Stand.of_body Bd
  have e0 : s₁.heap = h0 := by rw [← hh, Bd.state]; rfl
  have N0 := Fr.nil n0
  have K0 : Keep h0 h0 [] := Keep.refl _ _
  have pre0 : ∀ t, Steps p.tables e below (s₁.setTop (mkF m 0 #[.val (.ref a0)] [])) t → Steps p.tables e below (s₁.setTop (entryFrame m #[(.ref a0)] 1)) t := fun t k => castTop (ef_rm5 m a0) k
  obtain ⟨T1, X1, e1, st1⟩ := getF X0 hx hZ hown (host := "") (Or.inl (hw _ (List.mem_of_getElem? (i := 18) rfl))) Via.refl e0 F_offset_a0 (g := (mkF m 1 #[.val (.ref a0)] [(.ref a0)])) rfl rfl (hb hby d5_1)
  obtain ⟨fs, hr, hrun, hended, hW, hsame⟩ := X1.leave (v := some (.int xx)) (fun h => by rw [Bd.returns] at h; cases h)
  refine ⟨_, _, pre0 _ ?_, hrun, hended, _, _, rfl, ?_, ⟨_, rfl⟩, hW, hsame.mono (by decide) (by decide)⟩
  · show Steps p.tables e below (s₁.setTop (mkF m 0 #[.val (.ref a0)] [])) _
    refine XS.aloadN X0.here hx rfl (hb hby d5_0) rfl rfl ?_
    show Steps p.tables e below (s₁.setTop (mkF m 1 #[.val (.ref a0)] [(.ref a0)])) _
    refine st1 _ ?_
    show Steps p.tables e below (T1.setTop (mkF m 4 #[.val (.ref a0)] [(.int xx)])) _
    exact retI X1 hx Bd.returns (hb hby d5_4) hr
  · show Qrm5 Z a0 xx h0 n0 _ T1.heap _
    rw [e1]
    exact ⟨rfl, N0, rfl⟩
theorem d6_0 : decode prog_8_method_7_code 0 = .ok (.aload_n 0, 1) := by decide +kernel
theorem d6_1 : decode prog_8_method_7_code 1 = .ok (.getfield 23, 3) := by decide +kernel
theorem d6_4 : decode prog_8_method_7_code 4 = .ok (.ireturn, 1) := by decide +kernel
theorem pn_6 : plainName "com/example/slot16k/slot16k/Command" = true := by first | (simp [plainName, overriddenIn]; done) | decide +kernel
theorem ef_rm6 (m : MethodId) (a0 : Addr) : entryFrame m #[(.ref a0)] 1 = mkF m 0 #[.val (.ref a0)] [] := by first | (simp [entryFrame, mkF, argsToLocals, Value.category]; done) | rfl
def Qrm6 (Z : State) (a0 : Addr) (xx : Int32) (h0 : Heap) (n0 : Nat) (v : Option Value) (h : Heap) (L : List Loc) : Prop := v = some (.int xx) ∧ Fr n0 L ∧ h = h0
set_option maxRecDepth 65536 in
set_option maxHeartbeats 40000000 in
theorem rm6 (l : Launch) (Z : State) (A0 : Array Value) (hw : ∀ d ∈ tables_1, d.before A0 Z = true) (ws : List Jvm.Cond) (a0 : Addr) (xx : Int32) (h0 : Heap) (n0 : Nat) (Z0 : n0 ≤ h0.size) (F_length_a0 : Fld Z h0 a0 "com/example/slot16k/slot16k/Command" "length" "I" (.int xx)) :
    MetFree l (⟨"com/example/slot16k/slot16k/Command", "length", "()I"⟩ : MethodName) (head1 (Jvm.Cond.code (⟨"com/example/slot16k/slot16k/Command", "length", "()I"⟩ : MethodName) prog_8_method_7_code 1 (some .int) :: ws) ({ frames := 0, cells := 0, slots := 0, locals := 0 } : Room)) (fun a U => a = #[(.ref a0)] ∧ Z.Warmed39 U.vm ∧ U.heap = h0) (fun _ _ _ _ _ => True) (fun _ U o U' => ∃ v L, o = .returned v ∧ Qrm6 Z a0 xx h0 n0 v U'.heap L ∧ FrameEnd U o U' L ({ frames := 0, cells := 0, slots := 0, locals := 0 } : Room).cells ({ frames := 0, cells := 0, slots := 0, locals := 0 } : Room).slots) := by
  refine MetFree.of_bodySF (plainFor_of_name pn_6) hisR ?_
  intro p e s m args below meth c s₁ Bd hml0 hP hK
  obtain ⟨rfl, hZ, hh⟩ := hP
  have hx := Bd.exec
  have hby := Bd.bytes
  have hml : c.maxLocals = 1 := hml0
  have hown : s.vm.findClass "com/example/slot16k/slot16k/Command" = some m.cls := findClass_of_methodNamed Bd.named
  have hnm := (name_of_methodNamed Bd.named Bd.method).1
  have X0 : Stand p l e ({ frames := 0, cells := 0, slots := 0, locals := 0 } : Room) s m #[(.ref a0)] below meth c s₁ [] 0 0 := Stand.of_body Bd
  have e0 : s₁.heap = h0 := by rw [← hh, Bd.state]; rfl
  have N0 := Fr.nil n0
  have K0 : Keep h0 h0 [] := Keep.refl _ _
  have pre0 : ∀ t, Steps p.tables e below (s₁.setTop (mkF m 0 #[.val (.ref a0)] [])) t → Steps p.tables e below (s₁.setTop (entryFrame m #[(.ref a0)] 1)) t := fun t k => castTop (ef_rm6 m a0) k
  obtain ⟨T1, X1, e1, st1⟩ := getF X0 hx hZ hown (host := "") (Or.inl (hw _ (List.mem_of_getElem? (i := 20) rfl))) Via.refl e0 F_length_a0 (g := (mkF m 1 #[.val (.ref a0)] [(.ref a0)])) rfl rfl (hb hby d6_1)
  obtain ⟨fs, hr, hrun, hended, hW, hsame⟩ := X1.leave (v := some (.int xx)) (fun h => by rw [Bd.returns] at h; cases h)
  refine ⟨_, _, pre0 _ ?_, hrun, hended, _, _, rfl, ?_, ⟨_, rfl⟩, hW, hsame.mono (by decide) (by decide)⟩
  · show Steps p.tables e below (s₁.setTop (mkF m 0 #[.val (.ref a0)] [])) _
    refine XS.aloadN X0.here hx rfl (hb hby d6_0) rfl rfl ?_
    show Steps p.tables e below (s₁.setTop (mkF m 1 #[.val (.ref a0)] [(.ref a0)])) _
    refine st1 _ ?_
    show Steps p.tables e below (T1.setTop (mkF m 4 #[.val (.ref a0)] [(.int xx)])) _
    exact retI X1 hx Bd.returns (hb hby d6_4) hr
  · show Qrm6 Z a0 xx h0 n0 _ T1.heap _
    rw [e1]
    exact ⟨rfl, N0, rfl⟩
theorem d7_0 : decode prog_8_method_10_code 0 = .ok (.aload_n 0, 1) := by decide +kernel
theorem d7_1 : decode prog_8_method_10_code 1 = .ok (.getfield 30, 3) := by decide +kernel
theorem d7_4 : decode prog_8_method_10_code 4 = .ok (.ireturn, 1) := by decide +kernel
theorem pn_7 : plainName "com/example/slot16k/slot16k/Command" = true := by first | (simp [plainName, overriddenIn]; done) | decide +kernel
theorem ef_rm7 (m : MethodId) (a0 : Addr) : entryFrame m #[(.ref a0)] 1 = mkF m 0 #[.val (.ref a0)] [] := by first | (simp [entryFrame, mkF, argsToLocals, Value.category]; done) | rfl
def Qrm7 (Z : State) (a0 : Addr) (xx : Int32) (h0 : Heap) (n0 : Nat) (v : Option Value) (h : Heap) (L : List Loc) : Prop := v = some (.int xx) ∧ Fr n0 L ∧ h = h0
set_option maxRecDepth 65536 in
set_option maxHeartbeats 40000000 in
theorem rm7 (l : Launch) (Z : State) (A0 : Array Value) (hw : ∀ d ∈ tables_1, d.before A0 Z = true) (ws : List Jvm.Cond) (a0 : Addr) (xx : Int32) (h0 : Heap) (n0 : Nat) (Z0 : n0 ≤ h0.size) (F_arguments_a0 : Fld Z h0 a0 "com/example/slot16k/slot16k/Command" "arguments" "I" (.int xx)) :
    MetFree l (⟨"com/example/slot16k/slot16k/Command", "arguments", "()I"⟩ : MethodName) (head1 (Jvm.Cond.code (⟨"com/example/slot16k/slot16k/Command", "arguments", "()I"⟩ : MethodName) prog_8_method_10_code 1 (some .int) :: ws) ({ frames := 0, cells := 0, slots := 0, locals := 0 } : Room)) (fun a U => a = #[(.ref a0)] ∧ Z.Warmed39 U.vm ∧ U.heap = h0) (fun _ _ _ _ _ => True) (fun _ U o U' => ∃ v L, o = .returned v ∧ Qrm7 Z a0 xx h0 n0 v U'.heap L ∧ FrameEnd U o U' L ({ frames := 0, cells := 0, slots := 0, locals := 0 } : Room).cells ({ frames := 0, cells := 0, slots := 0, locals := 0 } : Room).slots) := by
  refine MetFree.of_bodySF (plainFor_of_name pn_7) hisR ?_
  intro p e s m args below meth c s₁ Bd hml0 hP hK
  obtain ⟨rfl, hZ, hh⟩ := hP
  have hx := Bd.exec
  have hby := Bd.bytes
  have hml : c.maxLocals = 1 := hml0
  have hown : s.vm.findClass "com/example/slot16k/slot16k/Command" = some m.cls := findClass_of_methodNamed Bd.named
  have hnm := (name_of_methodNamed Bd.named Bd.method).1
  have X0 : Stand p l e ({ frames := 0, cells := 0, slots := 0, locals := 0 } : Room) s m #[(.ref a0)] below meth c s₁ [] 0 0 := Stand.of_body Bd
  have e0 : s₁.heap = h0 := by rw [← hh, Bd.state]; rfl
  have N0 := Fr.nil n0
  have K0 : Keep h0 h0 [] := Keep.refl _ _
  have pre0 : ∀ t, Steps p.tables e below (s₁.setTop (mkF m 0 #[.val (.ref a0)] [])) t → Steps p.tables e below (s₁.setTop (entryFrame m #[(.ref a0)] 1)) t := fun t k => castTop (ef_rm7 m a0) k
  obtain ⟨T1, X1, e1, st1⟩ := getF X0 hx hZ hown (host := "") (Or.inl (hw _ (List.mem_of_getElem? (i := 24) rfl))) Via.refl e0 F_arguments_a0 (g := (mkF m 1 #[.val (.ref a0)] [(.ref a0)])) rfl rfl (hb hby d7_1)
  obtain ⟨fs, hr, hrun, hended, hW, hsame⟩ := X1.leave (v := some (.int xx)) (fun h => by rw [Bd.returns] at h; cases h)
  refine ⟨_, _, pre0 _ ?_, hrun, hended, _, _, rfl, ?_, ⟨_, rfl⟩, hW, hsame.mono (by decide) (by decide)⟩
  · show Steps p.tables e below (s₁.setTop (mkF m 0 #[.val (.ref a0)] [])) _
    refine XS.aloadN X0.here hx rfl (hb hby d7_0) rfl rfl ?_
    show Steps p.tables e below (s₁.setTop (mkF m 1 #[.val (.ref a0)] [(.ref a0)])) _
    refine st1 _ ?_
    show Steps p.tables e below (T1.setTop (mkF m 4 #[.val (.ref a0)] [(.int xx)])) _
    exact retI X1 hx Bd.returns (hb hby d7_4) hr
  · show Qrm7 Z a0 xx h0 n0 _ T1.heap _
    rw [e1]
    exact ⟨rfl, N0, rfl⟩
theorem d8_0 : decode prog_8_method_11_code 0 = .ok (.aload_n 0, 1) := by decide +kernel
theorem d8_1 : decode prog_8_method_11_code 1 = .ok (.getfield 19, 3) := by decide +kernel
theorem d8_4 : decode prog_8_method_11_code 4 = .ok (.aload_n 0, 1) := by decide +kernel
theorem d8_5 : decode prog_8_method_11_code 5 = .ok (.getfield 26, 3) := by decide +kernel
theorem d8_8 : decode prog_8_method_11_code 8 = .ok (.iconst 2, 1) := by decide +kernel
theorem d8_9 : decode prog_8_method_11_code 9 = .ok (.iload_n 1, 1) := by decide +kernel
theorem d8_10 : decode prog_8_method_11_code 10 = .ok (.imul, 1) := by decide +kernel
theorem d8_11 : decode prog_8_method_11_code 11 = .ok (.iaload, 1) := by decide +kernel
theorem d8_12 : decode prog_8_method_11_code 12 = .ok (.iadd, 1) := by decide +kernel
theorem d8_13 : decode prog_8_method_11_code 13 = .ok (.ireturn, 1) := by decide +kernel
theorem pn_8 : plainName "com/example/slot16k/slot16k/Command" = true := by first | (simp [plainName, overriddenIn]; done) | decide +kernel
theorem ef_rm8 (m : MethodId) (a0 : Addr) (p1 : Int32) : entryFrame m #[(.ref a0), (.int p1)] 2 = mkF m 0 #[.val (.ref a0), .val (.int p1)] [] := by first | (simp [entryFrame, mkF, argsToLocals, Value.category]; done) | rfl
def Qrm8 (Z : State) (a0 : Addr) (p1 : Int32) (off : Int32) (bb : Addr) (kk : ClassId) (nn : Int32) (vs : List Value) (dv : Value) (xx : Int32) (h0 : Heap) (n0 : Nat) (v : Option Value) (h : Heap) (L : List Loc) : Prop := v = some (.int (off + xx)) ∧ Fr n0 L ∧ h = h0
set_option maxRecDepth 65536 in
set_option maxHeartbeats 40000000 in
theorem rm8 (l : Launch) (Z : State) (A0 : Array Value) (hw : ∀ d ∈ tables_1, d.before A0 Z = true) (ws : List Jvm.Cond) (a0 : Addr) (p1 : Int32) (off : Int32) (bb : Addr) (kk : ClassId) (nn : Int32) (vs : List Value) (dv : Value) (xx : Int32) (h0 : Heap) (n0 : Nat) (Z0 : n0 ≤ h0.size) (F_offset_a0 : Fld Z h0 a0 "com/example/slot16k/slot16k/Command" "offset" "I" (.int off)) (F_bounds_a0 : Fld Z h0 a0 "com/example/slot16k/slot16k/Command" "bounds" "[I" (.ref bb)) (V_bb : Arv Z h0 bb kk .int nn vs dv) (hin : ¬ (((2 : Int32) * p1) < 0) ∧ ((2 : Int32) * p1) < nn) (hat : vs.getD (((2 : Int32) * p1)).toNatClampNeg dv = .int xx) :
    MetFree l (⟨"com/example/slot16k/slot16k/Command", "start", "(I)I"⟩ : MethodName) (head1 (Jvm.Cond.code (⟨"com/example/slot16k/slot16k/Command", "start", "(I)I"⟩ : MethodName) prog_8_method_11_code 2 (some .int) :: ws) ({ frames := 0, cells := 0, slots := 0, locals := 0 } : Room)) (fun a U => a = #[(.ref a0), (.int p1)] ∧ Z.Warmed39 U.vm ∧ U.heap = h0) (fun _ _ _ _ _ => True) (fun _ U o U' => ∃ v L, o = .returned v ∧ Qrm8 Z a0 p1 off bb kk nn vs dv xx h0 n0 v U'.heap L ∧ FrameEnd U o U' L ({ frames := 0, cells := 0, slots := 0, locals := 0 } : Room).cells ({ frames := 0, cells := 0, slots := 0, locals := 0 } : Room).slots) := by
  refine MetFree.of_bodySF (plainFor_of_name pn_8) hisR ?_
  intro p e s m args below meth c s₁ Bd hml0 hP hK
  obtain ⟨rfl, hZ, hh⟩ := hP
  have hx := Bd.exec
  have hby := Bd.bytes
  have hml : c.maxLocals = 2 := hml0
  have hown : s.vm.findClass "com/example/slot16k/slot16k/Command" = some m.cls := findClass_of_methodNamed Bd.named
  have hnm := (name_of_methodNamed Bd.named Bd.method).1
  have X0 : Stand p l e ({ frames := 0, cells := 0, slots := 0, locals := 0 } : Room) s m #[(.ref a0), (.int p1)] below meth c s₁ [] 0 0 := Stand.of_body Bd
  have e0 : s₁.heap = h0 := by rw [← hh, Bd.state]; rfl
  have N0 := Fr.nil n0
  have K0 : Keep h0 h0 [] := Keep.refl _ _
  have pre0 : ∀ t, Steps p.tables e below (s₁.setTop (mkF m 0 #[.val (.ref a0), .val (.int p1)] [])) t → Steps p.tables e below (s₁.setTop (entryFrame m #[(.ref a0), (.int p1)] 2)) t := fun t k => castTop (ef_rm8 m a0 p1) k
  obtain ⟨T1, X1, e1, st1⟩ := getF X0 hx hZ hown (host := "") (Or.inl (hw _ (List.mem_of_getElem? (i := 18) rfl))) Via.refl e0 F_offset_a0 (g := (mkF m 1 #[.val (.ref a0), .val (.int p1)] [(.ref a0)])) rfl rfl (hb hby d8_1)
  obtain ⟨T2, X2, e2, st2⟩ := getF X1 hx hZ hown (host := "") (Or.inl (hw _ (List.mem_of_getElem? (i := 22) rfl))) Via.refl e1 F_bounds_a0 (g := (mkF m 5 #[.val (.ref a0), .val (.int p1)] [(.ref a0), (.int off)])) rfl rfl (hb hby d8_5)
  obtain ⟨cl3, Ar3, -, SS3, MM3, HH3, -⟩ := id V_bb
  have hin3 := inb_of SS3 hin
  have hat3 : cl3.slots[(((2 : Int32) * p1)).toNatClampNeg]? = some (.int xx) := HH3.at hin3 hat
  obtain ⟨fs, hr, hrun, hended, hW, hsame⟩ := X2.leave (v := some (.int (off + xx))) (fun h => by rw [Bd.returns] at h; cases h)
  refine ⟨_, _, pre0 _ ?_, hrun, hended, _, _, rfl, ?_, ⟨_, rfl⟩, hW, hsame.mono (by decide) (by decide)⟩
  · show Steps p.tables e below (s₁.setTop (mkF m 0 #[.val (.ref a0), .val (.int p1)] [])) _
    refine XS.aloadN X0.here hx rfl (hb hby d8_0) rfl rfl ?_
    show Steps p.tables e below (s₁.setTop (mkF m 1 #[.val (.ref a0), .val (.int p1)] [(.ref a0)])) _
    refine st1 _ ?_
    show Steps p.tables e below (T1.setTop (mkF m 4 #[.val (.ref a0), .val (.int p1)] [(.int off)])) _
    refine XS.aloadN X1.here hx rfl (hb hby d8_4) rfl rfl ?_
    show Steps p.tables e below (T1.setTop (mkF m 5 #[.val (.ref a0), .val (.int p1)] [(.ref a0), (.int off)])) _
    refine st2 _ ?_
    show Steps p.tables e below (T2.setTop (mkF m 8 #[.val (.ref a0), .val (.int p1)] [(.ref bb), (.int off)])) _
    refine XS.iconst X2.here hx rfl (hb hby d8_8) ?_
    show Steps p.tables e below (T2.setTop (mkF m 9 #[.val (.ref a0), .val (.int p1)] [(.int (2 : Int32)), (.ref bb), (.int off)])) _
    refine XS.iloadN X2.here hx rfl (hb hby d8_9) rfl ?_
    show Steps p.tables e below (T2.setTop (mkF m 10 #[.val (.ref a0), .val (.int p1)] [(.int p1), (.int (2 : Int32)), (.ref bb), (.int off)])) _
    refine XS.imul X2.here hx rfl (hb hby d8_10) rfl ?_
    show Steps p.tables e below (T2.setTop (mkF m 11 #[.val (.ref a0), .val (.int p1)] [(.int ((2 : Int32) * p1)), (.ref bb), (.int off)])) _
    refine X2.iaload hx (j := ((2 : Int32) * p1)) (v := (.int xx)) (by rw [e2]; exact Ar3.1) (State.isArrayOf_alike hZ.alike Ar3.2.1) Ar3.2.2 hin3 hat3 (g := (mkF m 11 #[.val (.ref a0), .val (.int p1)] [(.int ((2 : Int32) * p1)), (.ref bb), (.int off)])) rfl rfl (hb hby d8_11) _ ?_
    show Steps p.tables e below (T2.setTop (mkF m 12 #[.val (.ref a0), .val (.int p1)] [(.int xx), (.int off)])) _
    refine XS.iadd X2.here hx rfl (hb hby d8_12) rfl ?_
    show Steps p.tables e below (T2.setTop (mkF m 13 #[.val (.ref a0), .val (.int p1)] [(.int (off + xx))])) _
    exact retI X2 hx Bd.returns (hb hby d8_13) hr
  · show Qrm8 Z a0 p1 off bb kk nn vs dv xx h0 n0 _ T2.heap _
    rw [e2]
    exact ⟨rfl, N0, rfl⟩
theorem d9_0 : decode prog_8_method_12_code 0 = .ok (.aload_n 0, 1) := by decide +kernel
theorem d9_1 : decode prog_8_method_12_code 1 = .ok (.getfield 19, 3) := by decide +kernel
theorem d9_4 : decode prog_8_method_12_code 4 = .ok (.aload_n 0, 1) := by decide +kernel
theorem d9_5 : decode prog_8_method_12_code 5 = .ok (.getfield 26, 3) := by decide +kernel
theorem d9_8 : decode prog_8_method_12_code 8 = .ok (.iconst 2, 1) := by decide +kernel
theorem d9_9 : decode prog_8_method_12_code 9 = .ok (.iload_n 1, 1) := by decide +kernel
theorem d9_10 : decode prog_8_method_12_code 10 = .ok (.imul, 1) := by decide +kernel
theorem d9_11 : decode prog_8_method_12_code 11 = .ok (.iconst 1, 1) := by decide +kernel
theorem d9_12 : decode prog_8_method_12_code 12 = .ok (.iadd, 1) := by decide +kernel
theorem d9_13 : decode prog_8_method_12_code 13 = .ok (.iaload, 1) := by decide +kernel
theorem d9_14 : decode prog_8_method_12_code 14 = .ok (.iadd, 1) := by decide +kernel
theorem d9_15 : decode prog_8_method_12_code 15 = .ok (.ireturn, 1) := by decide +kernel
theorem pn_9 : plainName "com/example/slot16k/slot16k/Command" = true := by first | (simp [plainName, overriddenIn]; done) | decide +kernel
theorem ef_rm9 (m : MethodId) (a0 : Addr) (p1 : Int32) : entryFrame m #[(.ref a0), (.int p1)] 2 = mkF m 0 #[.val (.ref a0), .val (.int p1)] [] := by first | (simp [entryFrame, mkF, argsToLocals, Value.category]; done) | rfl
def Qrm9 (Z : State) (a0 : Addr) (p1 : Int32) (off : Int32) (bb : Addr) (kk : ClassId) (nn : Int32) (vs : List Value) (dv : Value) (xx : Int32) (h0 : Heap) (n0 : Nat) (v : Option Value) (h : Heap) (L : List Loc) : Prop := v = some (.int (off + xx)) ∧ Fr n0 L ∧ h = h0
set_option maxRecDepth 65536 in
set_option maxHeartbeats 40000000 in
theorem rm9 (l : Launch) (Z : State) (A0 : Array Value) (hw : ∀ d ∈ tables_1, d.before A0 Z = true) (ws : List Jvm.Cond) (a0 : Addr) (p1 : Int32) (off : Int32) (bb : Addr) (kk : ClassId) (nn : Int32) (vs : List Value) (dv : Value) (xx : Int32) (h0 : Heap) (n0 : Nat) (Z0 : n0 ≤ h0.size) (F_offset_a0 : Fld Z h0 a0 "com/example/slot16k/slot16k/Command" "offset" "I" (.int off)) (F_bounds_a0 : Fld Z h0 a0 "com/example/slot16k/slot16k/Command" "bounds" "[I" (.ref bb)) (V_bb : Arv Z h0 bb kk .int nn vs dv) (hin : ¬ ((((2 : Int32) * p1) + (1 : Int32)) < 0) ∧ (((2 : Int32) * p1) + (1 : Int32)) < nn) (hat : vs.getD ((((2 : Int32) * p1) + (1 : Int32))).toNatClampNeg dv = .int xx) :
    MetFree l (⟨"com/example/slot16k/slot16k/Command", "end", "(I)I"⟩ : MethodName) (head1 (Jvm.Cond.code (⟨"com/example/slot16k/slot16k/Command", "end", "(I)I"⟩ : MethodName) prog_8_method_12_code 2 (some .int) :: ws) ({ frames := 0, cells := 0, slots := 0, locals := 0 } : Room)) (fun a U => a = #[(.ref a0), (.int p1)] ∧ Z.Warmed39 U.vm ∧ U.heap = h0) (fun _ _ _ _ _ => True) (fun _ U o U' => ∃ v L, o = .returned v ∧ Qrm9 Z a0 p1 off bb kk nn vs dv xx h0 n0 v U'.heap L ∧ FrameEnd U o U' L ({ frames := 0, cells := 0, slots := 0, locals := 0 } : Room).cells ({ frames := 0, cells := 0, slots := 0, locals := 0 } : Room).slots) := by
  refine MetFree.of_bodySF (plainFor_of_name pn_9) hisR ?_
  intro p e s m args below meth c s₁ Bd hml0 hP hK
  obtain ⟨rfl, hZ, hh⟩ := hP
  have hx := Bd.exec
  have hby := Bd.bytes
  have hml : c.maxLocals = 2 := hml0
  have hown : s.vm.findClass "com/example/slot16k/slot16k/Command" = some m.cls := findClass_of_methodNamed Bd.named
  have hnm := (name_of_methodNamed Bd.named Bd.method).1
  have X0 : Stand p l e ({ frames := 0, cells := 0, slots := 0, locals := 0 } : Room) s m #[(.ref a0), (.int p1)] below meth c s₁ [] 0 0 := Stand.of_body Bd
  have e0 : s₁.heap = h0 := by rw [← hh, Bd.state]; rfl
  have N0 := Fr.nil n0
  have K0 : Keep h0 h0 [] := Keep.refl _ _
  have pre0 : ∀ t, Steps p.tables e below (s₁.setTop (mkF m 0 #[.val (.ref a0), .val (.int p1)] [])) t → Steps p.tables e below (s₁.setTop (entryFrame m #[(.ref a0), (.int p1)] 2)) t := fun t k => castTop (ef_rm9 m a0 p1) k
  obtain ⟨T1, X1, e1, st1⟩ := getF X0 hx hZ hown (host := "") (Or.inl (hw _ (List.mem_of_getElem? (i := 18) rfl))) Via.refl e0 F_offset_a0 (g := (mkF m 1 #[.val (.ref a0), .val (.int p1)] [(.ref a0)])) rfl rfl (hb hby d9_1)
  obtain ⟨T2, X2, e2, st2⟩ := getF X1 hx hZ hown (host := "") (Or.inl (hw _ (List.mem_of_getElem? (i := 22) rfl))) Via.refl e1 F_bounds_a0 (g := (mkF m 5 #[.val (.ref a0), .val (.int p1)] [(.ref a0), (.int off)])) rfl rfl (hb hby d9_5)
  obtain ⟨cl3, Ar3, -, SS3, MM3, HH3, -⟩ := id V_bb
  have hin3 := inb_of SS3 hin
  have hat3 : cl3.slots[((((2 : Int32) * p1) + (1 : Int32))).toNatClampNeg]? = some (.int xx) := HH3.at hin3 hat
  obtain ⟨fs, hr, hrun, hended, hW, hsame⟩ := X2.leave (v := some (.int (off + xx))) (fun h => by rw [Bd.returns] at h; cases h)
  refine ⟨_, _, pre0 _ ?_, hrun, hended, _, _, rfl, ?_, ⟨_, rfl⟩, hW, hsame.mono (by decide) (by decide)⟩
  · show Steps p.tables e below (s₁.setTop (mkF m 0 #[.val (.ref a0), .val (.int p1)] [])) _
    refine XS.aloadN X0.here hx rfl (hb hby d9_0) rfl rfl ?_
    show Steps p.tables e below (s₁.setTop (mkF m 1 #[.val (.ref a0), .val (.int p1)] [(.ref a0)])) _
    refine st1 _ ?_
    show Steps p.tables e below (T1.setTop (mkF m 4 #[.val (.ref a0), .val (.int p1)] [(.int off)])) _
    refine XS.aloadN X1.here hx rfl (hb hby d9_4) rfl rfl ?_
    show Steps p.tables e below (T1.setTop (mkF m 5 #[.val (.ref a0), .val (.int p1)] [(.ref a0), (.int off)])) _
    refine st2 _ ?_
    show Steps p.tables e below (T2.setTop (mkF m 8 #[.val (.ref a0), .val (.int p1)] [(.ref bb), (.int off)])) _
    refine XS.iconst X2.here hx rfl (hb hby d9_8) ?_
    show Steps p.tables e below (T2.setTop (mkF m 9 #[.val (.ref a0), .val (.int p1)] [(.int (2 : Int32)), (.ref bb), (.int off)])) _
    refine XS.iloadN X2.here hx rfl (hb hby d9_9) rfl ?_
    show Steps p.tables e below (T2.setTop (mkF m 10 #[.val (.ref a0), .val (.int p1)] [(.int p1), (.int (2 : Int32)), (.ref bb), (.int off)])) _
    refine XS.imul X2.here hx rfl (hb hby d9_10) rfl ?_
    show Steps p.tables e below (T2.setTop (mkF m 11 #[.val (.ref a0), .val (.int p1)] [(.int ((2 : Int32) * p1)), (.ref bb), (.int off)])) _
    refine XS.iconst X2.here hx rfl (hb hby d9_11) ?_
    show Steps p.tables e below (T2.setTop (mkF m 12 #[.val (.ref a0), .val (.int p1)] [(.int (1 : Int32)), (.int ((2 : Int32) * p1)), (.ref bb), (.int off)])) _
    refine XS.iadd X2.here hx rfl (hb hby d9_12) rfl ?_
    show Steps p.tables e below (T2.setTop (mkF m 13 #[.val (.ref a0), .val (.int p1)] [(.int (((2 : Int32) * p1) + (1 : Int32))), (.ref bb), (.int off)])) _
    refine X2.iaload hx (j := (((2 : Int32) * p1) + (1 : Int32))) (v := (.int xx)) (by rw [e2]; exact Ar3.1) (State.isArrayOf_alike hZ.alike Ar3.2.1) Ar3.2.2 hin3 hat3 (g := (mkF m 13 #[.val (.ref a0), .val (.int p1)] [(.int (((2 : Int32) * p1) + (1 : Int32))), (.ref bb), (.int off)])) rfl rfl (hb hby d9_13) _ ?_
    show Steps p.tables e below (T2.setTop (mkF m 14 #[.val (.ref a0), .val (.int p1)] [(.int xx), (.int off)])) _
    refine XS.iadd X2.here hx rfl (hb hby d9_14) rfl ?_
    show Steps p.tables e below (T2.setTop (mkF m 15 #[.val (.ref a0), .val (.int p1)] [(.int (off + xx))])) _
    exact retI X2 hx Bd.returns (hb hby d9_15) hr
  · show Qrm9 Z a0 p1 off bb kk nn vs dv xx h0 n0 _ T2.heap _
    rw [e2]
    exact ⟨rfl, N0, rfl⟩
theorem pd_1 : parseMethodDescriptor "()[B" = some ⟨[], some (.array .byte)⟩ := by decide +kernel
theorem pd_2 : parseMethodDescriptor "()I" = some ⟨[], some .int⟩ := by decide +kernel
theorem pd_3 : parseMethodDescriptor "(I)I" = some ⟨[.int], some .int⟩ := by decide +kernel
theorem pn_0 : plainName "com/example/slot16k/slot16k/CommandStandInPinLaw" = true := by first | (simp [plainName, overriddenIn]; done) | decide +kernel
theorem ef_rm0 (m : MethodId) (p0 : Int32) (p1 : Int32) (p2 : Int32) (q3 : Int64) (q4 : Int64) : entryFrame m #[(.int p0), (.int p1), (.int p2), (.long q3), (.long q4)] maxLocals = mkF m 0 #[.val (.int p0), .val (.int p1), .val (.int p2), .val (.long q3), .second, .val (.long q4), .second, .unset, .unset, .unset, .unset, .unset, .unset, .unset, .unset, .unset, .unset] [] := by first | (simp [entryFrame, mkF, argsToLocals, Value.category, maxLocals]; done) | rfl
def Qrm0 (Z : State) (p0 : Int32) (p1 : Int32) (p2 : Int32) (q3 : Int64) (q4 : Int64) (h0 : Heap) (n0 : Nat) (v : Option Value) (h : Heap) (L : List Loc) : Prop := v = some (.int (1 : Int32)) ∧ Fr n0 L
set_option maxRecDepth 65536 in
set_option maxHeartbeats 40000000 in
theorem rm0 (l : Launch) (Z : State) (A0 : Array Value) (hw : ∀ d ∈ tables_1, d.before A0 Z = true) (ws : List Jvm.Cond) (p0 : Int32) (p1 : Int32) (p2 : Int32) (q3 : Int64) (q4 : Int64) (h0 : Heap) (n0 : Nat) (Z0 : n0 ≤ h0.size) :
    MetFree l x (head1 (Jvm.Cond.code x code maxLocals ret :: ws) room_1) (fun a U => a = #[(.int p0), (.int p1), (.int p2), (.long q3), (.long q4)] ∧ Z.Warmed39 U.vm ∧ U.heap = h0) (fun _ _ _ _ _ => True) (fun _ U o U' => ∃ v L, o = .returned v ∧ Qrm0 Z p0 p1 p2 q3 q4 h0 n0 v U'.heap L ∧ FrameEnd U o U' L room_1.cells room_1.slots) := by
  refine MetFree.of_bodySF (plainFor_of_name pn_0) hisR ?_
  intro p e s m args below meth c s₁ Bd hml0 hP hK
  obtain ⟨rfl, hZ, hh⟩ := hP
  have hx := Bd.exec
  have hby := Bd.bytes
  have hml : c.maxLocals = 17 := hml0
  have hown : s.vm.findClass "com/example/slot16k/slot16k/CommandStandInPinLaw" = some m.cls := findClass_of_methodNamed Bd.named
  have hnm := (name_of_methodNamed Bd.named Bd.method).1
  have X0 : Stand p l e room_1 s m #[(.int p0), (.int p1), (.int p2), (.long q3), (.long q4)] below meth c s₁ [] 0 0 := Stand.of_body Bd
  have e0 : s₁.heap = h0 := by rw [← hh, Bd.state]; rfl
  have N0 := Fr.nil n0
  have K0 : Keep h0 h0 [] := Keep.refl _ _
  have pre0 : ∀ t, Steps p.tables e below (s₁.setTop (mkF m 0 #[.val (.int p0), .val (.int p1), .val (.int p2), .val (.long q3), .second, .val (.long q4), .second, .unset, .unset, .unset, .unset, .unset, .unset, .unset, .unset, .unset, .unset] [])) t → Steps p.tables e below (s₁.setTop (entryFrame m #[(.int p0), (.int p1), (.int p2), (.long q3), (.long q4)] maxLocals)) t := fun t k => castTop (ef_rm0 m p0 p1 p2 q3 q4) k
  obtain ⟨T1, h1, k1, X1, e1, E1, A1, st1⟩ := newP X0 hx hZ (hw _ (List.mem_of_getElem? (i := 0) rfl)) e0 (g := (mkF m 1 #[.val (.int p0), .val (.int p1), .val (.int p2), .val (.long q3), .second, .val (.long q4), .second, .unset, .unset, .unset, .unset, .unset, .unset, .unset, .unset, .unset, .unset] [(.int (4 : Int32))])) rfl (hb hby at_1) rfl (by decide) (cap := 4) (by decide) (by decide) (by decide) (by decide)
  obtain ⟨ob, g1⟩ : ∃ z, z = h0.size := ⟨_, rfl⟩
  rw [← g1] at A1 st1
  have g_ob : n0 ≤ ob := Nat.le_trans Z0 (Nat.le_of_eq g1.symm)
  have sz_ob : h0.size ≤ ob := Nat.le_trans K0.1 (Nat.le_of_eq g1.symm)
  have Zh1 : n0 ≤ h1.size := Nat.le_trans Z0 E1.1
  have Kh1 : Keep h0 h1 [] := K0.ext E1
  have V_ob : Arv Z h1 ob k1 .byte (4 : Int32) [(.int (0 : Int32)), (.int (0 : Int32)), (.int (0 : Int32)), (.int (0 : Int32))] (.int (0 : Int32)) := (Arv.new A1 (by decide)).pad (pad_rep [] (.int (0 : Int32)) 4)
  obtain ⟨T2, h2, k2, X2, e2, E2, A2, st2⟩ := newP X1 hx hZ (hw _ (List.mem_of_getElem? (i := 1) rfl)) e1 (g := (mkF m 6 #[.val (.int p0), .val (.int p1), .val (.int p2), .val (.long q3), .second, .val (.long q4), .second, .val (.ref ob), .unset, .unset, .unset, .unset, .unset, .unset, .unset, .unset, .unset] [(.int (4 : Int32))])) rfl (hb hby at_6) rfl (by decide) (cap := 4) (by decide) (by decide) (by decide) (by decide)
  obtain ⟨oi, g2⟩ : ∃ z, z = h1.size := ⟨_, rfl⟩
  rw [← g2] at A2 st2
  have ne_ob_oi : ob ≠ oi := Nat.ne_of_lt (Nat.lt_of_lt_of_le V_ob.lt (Nat.le_of_eq g2.symm))
  have g_oi : n0 ≤ oi := Nat.le_trans Zh1 (Nat.le_of_eq g2.symm)
  have sz_oi : h0.size ≤ oi := Nat.le_trans Kh1.1 (Nat.le_of_eq g2.symm)
  have V_ob : Arv Z h2 ob k1 .byte (4 : Int32) [(.int (0 : Int32)), (.int (0 : Int32)), (.int (0 : Int32)), (.int (0 : Int32))] (.int (0 : Int32)) := V_ob.ext E2
  have Zh2 : n0 ≤ h2.size := Nat.le_trans Zh1 E2.1
  have Kh2 : Keep h0 h2 [] := Kh1.ext E2
  have V_oi : Arv Z h2 oi k2 .int (4 : Int32) [(.int (0 : Int32)), (.int (0 : Int32)), (.int (0 : Int32)), (.int (0 : Int32))] (.int (0 : Int32)) := (Arv.new A2 (by decide)).pad (pad_rep [] (.int (0 : Int32)) 4)
  obtain ⟨cl3, Ar3, qq3, SS3, MM3, HH3, GG3⟩ := id V_oi
  have hin3 := inb_of SS3 (j := (0 : Int32)) ⟨by decide, by decide⟩
  obtain ⟨T3, h3, X3, e3, W3, st3⟩ := stI X2 hx hZ e2 Ar3 (j := (0 : Int32)) hin3 (g := (mkF m 11 #[.val (.int p0), .val (.int p1), .val (.int p2), .val (.long q3), .second, .val (.long q4), .second, .val (.ref ob), .unset, .unset, .unset, .unset, .unset, .unset, .unset, .unset, .unset] [(.int (5 : Int32)), (.int (0 : Int32)), (.ref oi), (.ref oi)])) rfl rfl (hb hby at_11)
  have V_oi : Arv Z h3 oi k2 .int (4 : Int32) [(.int (5 : Int32)), (.int (0 : Int32)), (.int (0 : Int32)), (.int (0 : Int32))] (.int (0 : Int32)) := Arv.set Ar3 qq3 SS3 MM3 HH3 GG3 rfl W3 0 rfl (Nat.le_of_ble_eq_true rfl)
  have V_ob : Arv Z h3 ob k1 .byte (4 : Int32) [(.int (0 : Int32)), (.int (0 : Int32)), (.int (0 : Int32)), (.int (0 : Int32))] (.int (0 : Int32)) := V_ob.other W3 ne_ob_oi
  have Zh3 : n0 ≤ h3.size := Nat.le_trans Zh2 (Keep.of_wr W3).1
  have Kh3 : Keep h0 h3 [] := Kh2.wr W3 (Or.inr sz_oi)
  have N3 := Fr.snoc X3 N0 g_oi
  obtain ⟨cl4, Ar4, qq4, SS4, MM4, HH4, GG4⟩ := id V_oi
  have hin4 := inb_of SS4 (j := (1 : Int32)) ⟨by decide, by decide⟩
  obtain ⟨T4, h4, X4, e4, W4, st4⟩ := stI X3 hx hZ e3 Ar4 (j := (1 : Int32)) hin4 (g := (mkF m 16 #[.val (.int p0), .val (.int p1), .val (.int p2), .val (.long q3), .second, .val (.long q4), .second, .val (.ref ob), .unset, .unset, .unset, .unset, .unset, .unset, .unset, .unset, .unset] [(.int (6 : Int32)), (.int (1 : Int32)), (.ref oi), (.ref oi)])) rfl rfl (hb hby at_16)
  have V_oi : Arv Z h4 oi k2 .int (4 : Int32) [(.int (5 : Int32)), (.int (6 : Int32)), (.int (0 : Int32)), (.int (0 : Int32))] (.int (0 : Int32)) := Arv.set Ar4 qq4 SS4 MM4 HH4 GG4 rfl W4 1 rfl (Nat.le_of_ble_eq_true rfl)
  have V_ob : Arv Z h4 ob k1 .byte (4 : Int32) [(.int (0 : Int32)), (.int (0 : Int32)), (.int (0 : Int32)), (.int (0 : Int32))] (.int (0 : Int32)) := V_ob.other W4 ne_ob_oi
  have Zh4 : n0 ≤ h4.size := Nat.le_trans Zh3 (Keep.of_wr W4).1
  have Kh4 : Keep h0 h4 [] := Kh3.wr W4 (Or.inr sz_oi)
  have N4 := Fr.snoc X4 N3 g_oi
  obtain ⟨cl5, Ar5, qq5, SS5, MM5, HH5, GG5⟩ := id V_oi
  have hin5 := inb_of SS5 (j := (2 : Int32)) ⟨by decide, by decide⟩
  obtain ⟨T5, h5, X5, e5, W5, st5⟩ := stI X4 hx hZ e4 Ar5 (j := (2 : Int32)) hin5 (g := (mkF m 21 #[.val (.int p0), .val (.int p1), .val (.int p2), .val (.long q3), .second, .val (.long q4), .second, .val (.ref ob), .unset, .unset, .unset, .unset, .unset, .unset, .unset, .unset, .unset] [(.int (7 : Int32)), (.int (2 : Int32)), (.ref oi), (.ref oi)])) rfl rfl (hb hby at_21)
  have V_oi : Arv Z h5 oi k2 .int (4 : Int32) [(.int (5 : Int32)), (.int (6 : Int32)), (.int (7 : Int32)), (.int (0 : Int32))] (.int (0 : Int32)) := Arv.set Ar5 qq5 SS5 MM5 HH5 GG5 rfl W5 2 rfl (Nat.le_of_ble_eq_true rfl)
  have V_ob : Arv Z h5 ob k1 .byte (4 : Int32) [(.int (0 : Int32)), (.int (0 : Int32)), (.int (0 : Int32)), (.int (0 : Int32))] (.int (0 : Int32)) := V_ob.other W5 ne_ob_oi
  have Zh5 : n0 ≤ h5.size := Nat.le_trans Zh4 (Keep.of_wr W5).1
  have Kh5 : Keep h0 h5 [] := Kh4.wr W5 (Or.inr sz_oi)
  have N5 := Fr.snoc X5 N4 g_oi
  obtain ⟨cl6, Ar6, qq6, SS6, MM6, HH6, GG6⟩ := id V_oi
  have hin6 := inb_of SS6 (j := (3 : Int32)) ⟨by decide, by decide⟩
  obtain ⟨T6, h6, X6, e6, W6, st6⟩ := stI X5 hx hZ e5 Ar6 (j := (3 : Int32)) hin6 (g := (mkF m 26 #[.val (.int p0), .val (.int p1), .val (.int p2), .val (.long q3), .second, .val (.long q4), .second, .val (.ref ob), .unset, .unset, .unset, .unset, .unset, .unset, .unset, .unset, .unset] [(.int (8 : Int32)), (.int (3 : Int32)), (.ref oi), (.ref oi)])) rfl rfl (hb hby at_26)
  have V_oi : Arv Z h6 oi k2 .int (4 : Int32) [(.int (5 : Int32)), (.int (6 : Int32)), (.int (7 : Int32)), (.int (8 : Int32))] (.int (0 : Int32)) := Arv.set Ar6 qq6 SS6 MM6 HH6 GG6 rfl W6 3 rfl (Nat.le_of_ble_eq_true rfl)
  have V_ob : Arv Z h6 ob k1 .byte (4 : Int32) [(.int (0 : Int32)), (.int (0 : Int32)), (.int (0 : Int32)), (.int (0 : Int32))] (.int (0 : Int32)) := V_ob.other W6 ne_ob_oi
  have Zh6 : n0 ≤ h6.size := Nat.le_trans Zh5 (Keep.of_wr W6).1
  have Kh6 : Keep h0 h6 [] := Kh5.wr W6 (Or.inr sz_oi)
  have N6 := Fr.snoc X6 N5 g_oi
  obtain ⟨T7, h7, k7, X7, e7, E7, A7, st7⟩ := newP X6 hx hZ (hw _ (List.mem_of_getElem? (i := 0) rfl)) e6 (g := (mkF m 30 #[.val (.int p0), .val (.int p1), .val (.int p2), .val (.long q3), .second, .val (.long q4), .second, .val (.ref ob), .val (.ref oi), .unset, .unset, .unset, .unset, .unset, .unset, .unset, .unset] [(.int (3 : Int32))])) rfl (hb hby at_30) rfl (by decide) (cap := 3) (by decide) (by decide) (by decide) (by decide)
  obtain ⟨nb, g7⟩ : ∃ z, z = h6.size := ⟨_, rfl⟩
  rw [← g7] at A7 st7
  have ne_ob_nb : ob ≠ nb := Nat.ne_of_lt (Nat.lt_of_lt_of_le V_ob.lt (Nat.le_of_eq g7.symm))
  have ne_oi_nb : oi ≠ nb := Nat.ne_of_lt (Nat.lt_of_lt_of_le V_oi.lt (Nat.le_of_eq g7.symm))
  have g_nb : n0 ≤ nb := Nat.le_trans Zh6 (Nat.le_of_eq g7.symm)
  have sz_nb : h0.size ≤ nb := Nat.le_trans Kh6.1 (Nat.le_of_eq g7.symm)
  have V_ob : Arv Z h7 ob k1 .byte (4 : Int32) [(.int (0 : Int32)), (.int (0 : Int32)), (.int (0 : Int32)), (.int (0 : Int32))] (.int (0 : Int32)) := V_ob.ext E7
  have V_oi : Arv Z h7 oi k2 .int (4 : Int32) [(.int (5 : Int32)), (.int (6 : Int32)), (.int (7 : Int32)), (.int (8 : Int32))] (.int (0 : Int32)) := V_oi.ext E7
  have Zh7 : n0 ≤ h7.size := Nat.le_trans Zh6 E7.1
  have Kh7 : Keep h0 h7 [] := Kh6.ext E7
  have V_nb : Arv Z h7 nb k7 .byte (3 : Int32) [(.int (0 : Int32)), (.int (0 : Int32)), (.int (0 : Int32))] (.int (0 : Int32)) := (Arv.new A7 (by decide)).pad (pad_rep [] (.int (0 : Int32)) 3)
  obtain ⟨c0, h_c0⟩ : ∃ z : Int32, z = (q3.toInt32) := ⟨_, rfl⟩
  obtain ⟨c1, h_c1⟩ : ∃ z : Int32, z = (((q3.toUInt64 >>> ((32 : Int32) &&& 0x3f).toInt64.toUInt64).toInt64).toInt32) := ⟨_, rfl⟩
  obtain ⟨c2, h_c2⟩ : ∃ z : Int32, z = (q4.toInt32) := ⟨_, rfl⟩
  obtain ⟨c3, h_c3⟩ : ∃ z : Int32, z = (((q4.toUInt64 >>> ((32 : Int32) &&& 0x3f).toInt64.toUInt64).toInt64).toInt32) := ⟨_, rfl⟩
  obtain ⟨T8, h8, k8, X8, e8, E8, A8, st8⟩ := newP X7 hx hZ (hw _ (List.mem_of_getElem? (i := 1) rfl)) e7 (g := (mkF m 59 #[.val (.int p0), .val (.int p1), .val (.int p2), .val (.long q3), .second, .val (.long q4), .second, .val (.ref ob), .val (.ref oi), .val (.ref nb), .val (.int c0), .val (.int c1), .val (.int c2), .val (.int c3), .unset, .unset, .unset] [(.int (4 : Int32))])) rfl (hb hby at_59) rfl (by decide) (cap := 4) (by decide) (by decide) (by decide) (by decide)
  obtain ⟨ni, g8⟩ : ∃ z, z = h7.size := ⟨_, rfl⟩
  rw [← g8] at A8 st8
  have ne_ob_ni : ob ≠ ni := Nat.ne_of_lt (Nat.lt_of_lt_of_le V_ob.lt (Nat.le_of_eq g8.symm))
  have ne_oi_ni : oi ≠ ni := Nat.ne_of_lt (Nat.lt_of_lt_of_le V_oi.lt (Nat.le_of_eq g8.symm))
  have ne_nb_ni : nb ≠ ni := Nat.ne_of_lt (Nat.lt_of_lt_of_le V_nb.lt (Nat.le_of_eq g8.symm))
  have g_ni : n0 ≤ ni := Nat.le_trans Zh7 (Nat.le_of_eq g8.symm)
  have sz_ni : h0.size ≤ ni := Nat.le_trans Kh7.1 (Nat.le_of_eq g8.symm)
  have V_ob : Arv Z h8 ob k1 .byte (4 : Int32) [(.int (0 : Int32)), (.int (0 : Int32)), (.int (0 : Int32)), (.int (0 : Int32))] (.int (0 : Int32)) := V_ob.ext E8
  have V_oi : Arv Z h8 oi k2 .int (4 : Int32) [(.int (5 : Int32)), (.int (6 : Int32)), (.int (7 : Int32)), (.int (8 : Int32))] (.int (0 : Int32)) := V_oi.ext E8
  have V_nb : Arv Z h8 nb k7 .byte (3 : Int32) [(.int (0 : Int32)), (.int (0 : Int32)), (.int (0 : Int32))] (.int (0 : Int32)) := V_nb.ext E8
  have Zh8 : n0 ≤ h8.size := Nat.le_trans Zh7 E8.1
  have Kh8 : Keep h0 h8 [] := Kh7.ext E8
  have V_ni : Arv Z h8 ni k8 .int (4 : Int32) [(.int (0 : Int32)), (.int (0 : Int32)), (.int (0 : Int32)), (.int (0 : Int32))] (.int (0 : Int32)) := (Arv.new A8 (by decide)).pad (pad_rep [] (.int (0 : Int32)) 4)
  obtain ⟨cl9, Ar9, qq9, SS9, MM9, HH9, GG9⟩ := id V_ni
  have hin9 := inb_of SS9 (j := (0 : Int32)) ⟨by decide, by decide⟩
  obtain ⟨T9, h9, X9, e9, W9, st9⟩ := stI X8 hx hZ e8 Ar9 (j := (0 : Int32)) hin9 (g := (mkF m 65 #[.val (.int p0), .val (.int p1), .val (.int p2), .val (.long q3), .second, .val (.long q4), .second, .val (.ref ob), .val (.ref oi), .val (.ref nb), .val (.int c0), .val (.int c1), .val (.int c2), .val (.int c3), .unset, .unset, .unset] [(.int c0), (.int (0 : Int32)), (.ref ni), (.ref ni)])) rfl rfl (hb hby at_65)
  have V_ni : Arv Z h9 ni k8 .int (4 : Int32) [(.int c0), (.int (0 : Int32)), (.int (0 : Int32)), (.int (0 : Int32))] (.int (0 : Int32)) := Arv.set Ar9 qq9 SS9 MM9 HH9 GG9 rfl W9 0 rfl (Nat.le_of_ble_eq_true rfl)
  have V_ob : Arv Z h9 ob k1 .byte (4 : Int32) [(.int (0 : Int32)), (.int (0 : Int32)), (.int (0 : Int32)), (.int (0 : Int32))] (.int (0 : Int32)) := V_ob.other W9 ne_ob_ni
  have V_oi : Arv Z h9 oi k2 .int (4 : Int32) [(.int (5 : Int32)), (.int (6 : Int32)), (.int (7 : Int32)), (.int (8 : Int32))] (.int (0 : Int32)) := V_oi.other W9 ne_oi_ni
  have V_nb : Arv Z h9 nb k7 .byte (3 : Int32) [(.int (0 : Int32)), (.int (0 : Int32)), (.int (0 : Int32))] (.int (0 : Int32)) := V_nb.other W9 ne_nb_ni
  have Zh9 : n0 ≤ h9.size := Nat.le_trans Zh8 (Keep.of_wr W9).1
  have Kh9 : Keep h0 h9 [] := Kh8.wr W9 (Or.inr sz_ni)
  have N9 := Fr.snoc X9 N6 g_ni
  obtain ⟨cl10, Ar10, qq10, SS10, MM10, HH10, GG10⟩ := id V_ni
  have hin10 := inb_of SS10 (j := (1 : Int32)) ⟨by decide, by decide⟩
  obtain ⟨T10, h10, X10, e10, W10, st10⟩ := stI X9 hx hZ e9 Ar10 (j := (1 : Int32)) hin10 (g := (mkF m 70 #[.val (.int p0), .val (.int p1), .val (.int p2), .val (.long q3), .second, .val (.long q4), .second, .val (.ref ob), .val (.ref oi), .val (.ref nb), .val (.int c0), .val (.int c1), .val (.int c2), .val (.int c3), .unset, .unset, .unset] [(.int c1), (.int (1 : Int32)), (.ref ni), (.ref ni)])) rfl rfl (hb hby at_70)
  have V_ni : Arv Z h10 ni k8 .int (4 : Int32) [(.int c0), (.int c1), (.int (0 : Int32)), (.int (0 : Int32))] (.int (0 : Int32)) := Arv.set Ar10 qq10 SS10 MM10 HH10 GG10 rfl W10 1 rfl (Nat.le_of_ble_eq_true rfl)
  have V_ob : Arv Z h10 ob k1 .byte (4 : Int32) [(.int (0 : Int32)), (.int (0 : Int32)), (.int (0 : Int32)), (.int (0 : Int32))] (.int (0 : Int32)) := V_ob.other W10 ne_ob_ni
  have V_oi : Arv Z h10 oi k2 .int (4 : Int32) [(.int (5 : Int32)), (.int (6 : Int32)), (.int (7 : Int32)), (.int (8 : Int32))] (.int (0 : Int32)) := V_oi.other W10 ne_oi_ni
  have V_nb : Arv Z h10 nb k7 .byte (3 : Int32) [(.int (0 : Int32)), (.int (0 : Int32)), (.int (0 : Int32))] (.int (0 : Int32)) := V_nb.other W10 ne_nb_ni
  have Zh10 : n0 ≤ h10.size := Nat.le_trans Zh9 (Keep.of_wr W10).1
  have Kh10 : Keep h0 h10 [] := Kh9.wr W10 (Or.inr sz_ni)
  have N10 := Fr.snoc X10 N9 g_ni
  obtain ⟨cl11, Ar11, qq11, SS11, MM11, HH11, GG11⟩ := id V_ni
  have hin11 := inb_of SS11 (j := (2 : Int32)) ⟨by decide, by decide⟩
  obtain ⟨T11, h11, X11, e11, W11, st11⟩ := stI X10 hx hZ e10 Ar11 (j := (2 : Int32)) hin11 (g := (mkF m 75 #[.val (.int p0), .val (.int p1), .val (.int p2), .val (.long q3), .second, .val (.long q4), .second, .val (.ref ob), .val (.ref oi), .val (.ref nb), .val (.int c0), .val (.int c1), .val (.int c2), .val (.int c3), .unset, .unset, .unset] [(.int c2), (.int (2 : Int32)), (.ref ni), (.ref ni)])) rfl rfl (hb hby at_75)
  have V_ni : Arv Z h11 ni k8 .int (4 : Int32) [(.int c0), (.int c1), (.int c2), (.int (0 : Int32))] (.int (0 : Int32)) := Arv.set Ar11 qq11 SS11 MM11 HH11 GG11 rfl W11 2 rfl (Nat.le_of_ble_eq_true rfl)
  have V_ob : Arv Z h11 ob k1 .byte (4 : Int32) [(.int (0 : Int32)), (.int (0 : Int32)), (.int (0 : Int32)), (.int (0 : Int32))] (.int (0 : Int32)) := V_ob.other W11 ne_ob_ni
  have V_oi : Arv Z h11 oi k2 .int (4 : Int32) [(.int (5 : Int32)), (.int (6 : Int32)), (.int (7 : Int32)), (.int (8 : Int32))] (.int (0 : Int32)) := V_oi.other W11 ne_oi_ni
  have V_nb : Arv Z h11 nb k7 .byte (3 : Int32) [(.int (0 : Int32)), (.int (0 : Int32)), (.int (0 : Int32))] (.int (0 : Int32)) := V_nb.other W11 ne_nb_ni
  have Zh11 : n0 ≤ h11.size := Nat.le_trans Zh10 (Keep.of_wr W11).1
  have Kh11 : Keep h0 h11 [] := Kh10.wr W11 (Or.inr sz_ni)
  have N11 := Fr.snoc X11 N10 g_ni
  obtain ⟨cl12, Ar12, qq12, SS12, MM12, HH12, GG12⟩ := id V_ni
  have hin12 := inb_of SS12 (j := (3 : Int32)) ⟨by decide, by decide⟩
  obtain ⟨T12, h12, X12, e12, W12, st12⟩ := stI X11 hx hZ e11 Ar12 (j := (3 : Int32)) hin12 (g := (mkF m 80 #[.val (.int p0), .val (.int p1), .val (.int p2), .val (.long q3), .second, .val (.long q4), .second, .val (.ref ob), .val (.ref oi), .val (.ref nb), .val (.int c0), .val (.int c1), .val (.int c2), .val (.int c3), .unset, .unset, .unset] [(.int c3), (.int (3 : Int32)), (.ref ni), (.ref ni)])) rfl rfl (hb hby at_80)
  have V_ni : Arv Z h12 ni k8 .int (4 : Int32) [(.int c0), (.int c1), (.int c2), (.int c3)] (.int (0 : Int32)) := Arv.set Ar12 qq12 SS12 MM12 HH12 GG12 rfl W12 3 rfl (Nat.le_of_ble_eq_true rfl)
  have V_ob : Arv Z h12 ob k1 .byte (4 : Int32) [(.int (0 : Int32)), (.int (0 : Int32)), (.int (0 : Int32)), (.int (0 : Int32))] (.int (0 : Int32)) := V_ob.other W12 ne_ob_ni
  have V_oi : Arv Z h12 oi k2 .int (4 : Int32) [(.int (5 : Int32)), (.int (6 : Int32)), (.int (7 : Int32)), (.int (8 : Int32))] (.int (0 : Int32)) := V_oi.other W12 ne_oi_ni
  have V_nb : Arv Z h12 nb k7 .byte (3 : Int32) [(.int (0 : Int32)), (.int (0 : Int32)), (.int (0 : Int32))] (.int (0 : Int32)) := V_nb.other W12 ne_nb_ni
  have Zh12 : n0 ≤ h12.size := Nat.le_trans Zh11 (Keep.of_wr W12).1
  have Kh12 : Keep h0 h12 [] := Kh11.wr W12 (Or.inr sz_ni)
  have N12 := Fr.snoc X12 N11 g_ni
  obtain ⟨T13, h13, X13, e13, E13, A13, D13, -, st13⟩ := newO X12 hx hZ hown (hw _ (List.mem_of_getElem? (i := 2) rfl)) (hw _ (List.mem_of_getElem? (i := 3) rfl)) (hw _ (List.mem_of_getElem? (i := 4) rfl)) e12 (g := (mkF m 83 #[.val (.int p0), .val (.int p1), .val (.int p2), .val (.long q3), .second, .val (.long q4), .second, .val (.ref ob), .val (.ref oi), .val (.ref nb), .val (.int c0), .val (.int c1), .val (.int c2), .val (.int c3), .val (.ref ni), .unset, .unset] [])) rfl (hb hby at_83) (by decide) (by decide)
  obtain ⟨cm, g13⟩ : ∃ z, z = h12.size := ⟨_, rfl⟩
  rw [← g13] at A13 D13 st13
  have ne_ob_cm : ob ≠ cm := Nat.ne_of_lt (Nat.lt_of_lt_of_le V_ob.lt (Nat.le_of_eq g13.symm))
  have ne_oi_cm : oi ≠ cm := Nat.ne_of_lt (Nat.lt_of_lt_of_le V_oi.lt (Nat.le_of_eq g13.symm))
  have ne_nb_cm : nb ≠ cm := Nat.ne_of_lt (Nat.lt_of_lt_of_le V_nb.lt (Nat.le_of_eq g13.symm))
  have ne_ni_cm : ni ≠ cm := Nat.ne_of_lt (Nat.lt_of_lt_of_le V_ni.lt (Nat.le_of_eq g13.symm))
  have g_cm : n0 ≤ cm := Nat.le_trans Zh12 (Nat.le_of_eq g13.symm)
  have sz_cm : h0.size ≤ cm := Nat.le_trans Kh12.1 (Nat.le_of_eq g13.symm)
  have V_ob : Arv Z h13 ob k1 .byte (4 : Int32) [(.int (0 : Int32)), (.int (0 : Int32)), (.int (0 : Int32)), (.int (0 : Int32))] (.int (0 : Int32)) := V_ob.ext E13
  have V_oi : Arv Z h13 oi k2 .int (4 : Int32) [(.int (5 : Int32)), (.int (6 : Int32)), (.int (7 : Int32)), (.int (8 : Int32))] (.int (0 : Int32)) := V_oi.ext E13
  have V_nb : Arv Z h13 nb k7 .byte (3 : Int32) [(.int (0 : Int32)), (.int (0 : Int32)), (.int (0 : Int32))] (.int (0 : Int32)) := V_nb.ext E13
  have V_ni : Arv Z h13 ni k8 .int (4 : Int32) [(.int c0), (.int c1), (.int c2), (.int c3)] (.int (0 : Int32)) := V_ni.ext E13
  have Zh13 : n0 ≤ h13.size := Nat.le_trans Zh12 E13.1
  have Kh13 : Keep h0 h13 [] := Kh12.ext E13
  have E_cm : Exa Z h13 cm "com/example/slot16k/slot16k/Command" := A13
  have F_bytes_cm : Fld Z h13 cm "com/example/slot16k/slot16k/Command" "bytes" "[B" .null := D13 (Or.inl (hw _ (List.mem_of_getElem? (i := 17) rfl))) (ty := (.array .byte)) (by decide)
  have F_offset_cm : Fld Z h13 cm "com/example/slot16k/slot16k/Command" "offset" "I" (.int (0 : Int32)) := D13 (Or.inl (hw _ (List.mem_of_getElem? (i := 19) rfl))) (ty := .int) (by decide)
  have F_length_cm : Fld Z h13 cm "com/example/slot16k/slot16k/Command" "length" "I" (.int (0 : Int32)) := D13 (Or.inl (hw _ (List.mem_of_getElem? (i := 21) rfl))) (ty := .int) (by decide)
  have F_bounds_cm : Fld Z h13 cm "com/example/slot16k/slot16k/Command" "bounds" "[I" .null := D13 (Or.inl (hw _ (List.mem_of_getElem? (i := 23) rfl))) (ty := (.array .int)) (by decide)
  have F_arguments_cm : Fld Z h13 cm "com/example/slot16k/slot16k/Command" "arguments" "I" (.int (0 : Int32)) := D13 (Or.inl (hw _ (List.mem_of_getElem? (i := 25) rfl))) (ty := .int) (by decide)
  obtain ⟨_, _, ⟨T14, L14, k14, n14⟩, -, X14, ⟨Lc14, hQ14, l14, y14, z14⟩, st14⟩ := X13.specialBack hx (y := (⟨"com/example/slot16k/slot16k/Command", "<init>", "([BII[II)V"⟩ : MethodName)) rfl hown (mvT hZ (hw _ (List.mem_of_getElem? (i := 5) rfl))) (mvT hZ (hw _ (List.mem_of_getElem? (i := 6) rfl))) (mvT hZ (hw _ (List.mem_of_getElem? (i := 7) rfl))) (by decide) (backOf (W := 1) (rm1 l Z A0 hw [] cm ob (7 : Int32) (9 : Int32) oi (3 : Int32) .null (.int (0 : Int32)) (.int (0 : Int32)) .null (.int (0 : Int32)) h13 n0 Zh13 E_cm F_bytes_cm F_offset_cm F_length_cm F_bounds_cm F_arguments_cm g_cm) hZ (hw _ (List.mem_of_getElem? (i := 7) rfl)) (hw _ (List.mem_of_getElem? (i := 4) rfl)) (by decide) (by decide)) (g := (mkF m 96 #[.val (.int p0), .val (.int p1), .val (.int p2), .val (.long q3), .second, .val (.long q4), .second, .val (.ref ob), .val (.ref oi), .val (.ref nb), .val (.int c0), .val (.int c1), .val (.int c2), .val (.int c3), .val (.ref ni), .unset, .unset] [(.int (3 : Int32)), (.ref oi), (.int (9 : Int32)), (.int (7 : Int32)), (.ref ob), (.ref cm), (.ref cm)])) rfl (by rw [hml]; rfl) (Steps.refl _) (a := cm) (argsL := [(.ref ob), (.int (7 : Int32)), (.int (9 : Int32)), (.ref oi), (.int (3 : Int32))]) (rest := [(.ref cm)]) (lenOf pd_0 rfl) rfl (by show 2 * 0 + _ ≤ _; exact Nat.le_of_eq rfl) (hb hby at_96) (fun _ _ => ⟨rfl, e13, (by decide : 5 + 0 ≤ _), (by decide : 20 + 0 ≤ _)⟩)
  dsimp only [Pt.U, Pt.locs, Pt.cells, Pt.slots] at X14 l14 y14 z14 st14 hQ14
  subst l14 y14 z14
  obtain ⟨rfl, N14q, Kc14, P14_0, P14_1, P14_2, P14_3, P14_4, P14_5⟩ := hQ14
  have N14 := Fr.app N12 N14q
  have V_ob : Arv Z T14.heap ob k1 .byte (4 : Int32) [(.int (0 : Int32)), (.int (0 : Int32)), (.int (0 : Int32)), (.int (0 : Int32))] (.int (0 : Int32)) := V_ob.keep Kc14 (ninS ne_ob_cm nin0)
  have V_oi : Arv Z T14.heap oi k2 .int (4 : Int32) [(.int (5 : Int32)), (.int (6 : Int32)), (.int (7 : Int32)), (.int (8 : Int32))] (.int (0 : Int32)) := V_oi.keep Kc14 (ninS ne_oi_cm nin0)
  have V_nb : Arv Z T14.heap nb k7 .byte (3 : Int32) [(.int (0 : Int32)), (.int (0 : Int32)), (.int (0 : Int32))] (.int (0 : Int32)) := V_nb.keep Kc14 (ninS ne_nb_cm nin0)
  have V_ni : Arv Z T14.heap ni k8 .int (4 : Int32) [(.int c0), (.int c1), (.int c2), (.int c3)] (.int (0 : Int32)) := V_ni.keep Kc14 (ninS ne_ni_cm nin0)
  have E_cm : Exa Z T14.heap cm "com/example/slot16k/slot16k/Command" := E_cm.keep Kc14
  have ZT14_heap : n0 ≤ T14.heap.size := Nat.le_trans Zh13 Kc14.1
  have KT14_heap : Keep h0 T14.heap [] := Kh13.trans Kc14 (allS (Or.inr sz_cm) all0)
  have E_cm : Exa Z T14.heap cm "com/example/slot16k/slot16k/Command" := P14_0
  have F_bytes_cm : Fld Z T14.heap cm "com/example/slot16k/slot16k/Command" "bytes" "[B" (.ref ob) := P14_1
  have F_offset_cm : Fld Z T14.heap cm "com/example/slot16k/slot16k/Command" "offset" "I" (.int (7 : Int32)) := P14_2
  have F_length_cm : Fld Z T14.heap cm "com/example/slot16k/slot16k/Command" "length" "I" (.int (9 : Int32)) := P14_3
  have F_bounds_cm : Fld Z T14.heap cm "com/example/slot16k/slot16k/Command" "bounds" "[I" (.ref oi) := P14_4
  have F_arguments_cm : Fld Z T14.heap cm "com/example/slot16k/slot16k/Command" "arguments" "I" (.int (3 : Int32)) := P14_5
  obtain ⟨cq15, kq15, q15a, q15b, q15c⟩ := isOf hZ rfl E_cm
  obtain ⟨_, _, ⟨T15, L15, k15, n15⟩, -, X15, ⟨Lc15, hQ15, l15, y15, z15⟩, st15⟩ := X14.virtualBack hx (y := (⟨"com/example/slot16k/slot16k/Command", "standIn", "([BII[II)V"⟩ : MethodName)) (z := (⟨"com/example/slot16k/slot16k/Command", "standIn", "([BII[II)V"⟩ : MethodName)) hown (mvT hZ (hw _ (List.mem_of_getElem? (i := 26) rfl))) (mvT hZ (hw _ (List.mem_of_getElem? (i := 12) rfl))) (notFace_of_selects (args := #[]) (mvT hZ (hw _ (List.mem_of_getElem? (i := 14) rfl)))) (mvT hZ (hw _ (List.mem_of_getElem? (i := 14) rfl))) (mvT hZ (hw _ (List.mem_of_getElem? (i := 13) rfl))) (by decide) (backOf (W := 0) (rm3 l Z A0 hw [] cm nb p0 p1 ni p2 (.ref ob) (.int (7 : Int32)) (.int (9 : Int32)) (.ref oi) (.int (3 : Int32)) T14.heap n0 ZT14_heap E_cm F_bytes_cm F_offset_cm F_length_cm F_bounds_cm F_arguments_cm g_cm) hZ (hw _ (List.mem_of_getElem? (i := 15) rfl)) (hw _ (List.mem_of_getElem? (i := 4) rfl)) (by decide) (by decide)) q15a q15c (g := (mkF m 110 #[.val (.int p0), .val (.int p1), .val (.int p2), .val (.long q3), .second, .val (.long q4), .second, .val (.ref ob), .val (.ref oi), .val (.ref nb), .val (.int c0), .val (.int c1), .val (.int c2), .val (.int c3), .val (.ref ni), .val (.ref cm), .unset] [(.int p2), (.ref ni), (.int p1), (.int p0), (.ref nb), (.ref cm)])) rfl (by rw [hml]; rfl) (Steps.refl _) (argsL := [(.ref nb), (.int p0), (.int p1), (.ref ni), (.int p2)]) (rest := []) (lenOf pd_0 rfl) rfl (by show 2 * 0 + _ ≤ _; exact Nat.le_of_eq rfl) (hb hby at_110) (fun _ _ => ⟨rfl, rfl, (by decide : 5 + 0 ≤ _), (by decide : 20 + 0 ≤ _)⟩)
  dsimp only [Pt.U, Pt.locs, Pt.cells, Pt.slots] at X15 l15 y15 z15 st15 hQ15
  subst l15 y15 z15
  obtain ⟨rfl, N15q, Kc15, P15_0, P15_1, P15_2, P15_3, P15_4, P15_5⟩ := hQ15
  have N15 := Fr.app N14 N15q
  have V_ob : Arv Z T15.heap ob k1 .byte (4 : Int32) [(.int (0 : Int32)), (.int (0 : Int32)), (.int (0 : Int32)), (.int (0 : Int32))] (.int (0 : Int32)) := V_ob.keep Kc15 (ninS ne_ob_cm nin0)
  have V_oi : Arv Z T15.heap oi k2 .int (4 : Int32) [(.int (5 : Int32)), (.int (6 : Int32)), (.int (7 : Int32)), (.int (8 : Int32))] (.int (0 : Int32)) := V_oi.keep Kc15 (ninS ne_oi_cm nin0)
  have V_nb : Arv Z T15.heap nb k7 .byte (3 : Int32) [(.int (0 : Int32)), (.int (0 : Int32)), (.int (0 : Int32))] (.int (0 : Int32)) := V_nb.keep Kc15 (ninS ne_nb_cm nin0)
  have V_ni : Arv Z T15.heap ni k8 .int (4 : Int32) [(.int c0), (.int c1), (.int c2), (.int c3)] (.int (0 : Int32)) := V_ni.keep Kc15 (ninS ne_ni_cm nin0)
  have E_cm : Exa Z T15.heap cm "com/example/slot16k/slot16k/Command" := E_cm.keep Kc15
  have ZT15_heap : n0 ≤ T15.heap.size := Nat.le_trans ZT14_heap Kc15.1
  have KT15_heap : Keep h0 T15.heap [] := KT14_heap.trans Kc15 (allS (Or.inr sz_cm) all0)
  have E_cm : Exa Z T15.heap cm "com/example/slot16k/slot16k/Command" := P15_0
  have F_bytes_cm : Fld Z T15.heap cm "com/example/slot16k/slot16k/Command" "bytes" "[B" (.ref nb) := P15_1
  have F_offset_cm : Fld Z T15.heap cm "com/example/slot16k/slot16k/Command" "offset" "I" (.int p0) := P15_2
  have F_length_cm : Fld Z T15.heap cm "com/example/slot16k/slot16k/Command" "length" "I" (.int p1) := P15_3
  have F_bounds_cm : Fld Z T15.heap cm "com/example/slot16k/slot16k/Command" "bounds" "[I" (.ref ni) := P15_4
  have F_arguments_cm : Fld Z T15.heap cm "com/example/slot16k/slot16k/Command" "arguments" "I" (.int p2) := P15_5
  obtain ⟨cq16, kq16, q16a, q16b, q16c⟩ := isOf hZ rfl E_cm
  obtain ⟨_, _, ⟨T16, L16, k16, n16⟩, -, X16, ⟨Lc16, hQ16, l16, y16, z16⟩, st16⟩ := X15.virtualBack hx (y := (⟨"com/example/slot16k/slot16k/Command", "bytes", "()[B"⟩ : MethodName)) (z := (⟨"com/example/slot16k/slot16k/Command", "bytes", "()[B"⟩ : MethodName)) hown (mvT hZ (hw _ (List.mem_of_getElem? (i := 27) rfl))) (mvT hZ (hw _ (List.mem_of_getElem? (i := 28) rfl))) (notFace_of_selects (args := #[]) (mvT hZ (hw _ (List.mem_of_getElem? (i := 30) rfl)))) (mvT hZ (hw _ (List.mem_of_getElem? (i := 30) rfl))) (mvT hZ (hw _ (List.mem_of_getElem? (i := 29) rfl))) (by decide) (backOf (W := 0) (rm4 l Z A0 hw [] cm nb T15.heap n0 ZT15_heap F_bytes_cm) hZ (hw _ (List.mem_of_getElem? (i := 31) rfl)) (hw _ (List.mem_of_getElem? (i := 4) rfl)) (by decide) (by decide)) q16a q16c (g := (mkF m 115 #[.val (.int p0), .val (.int p1), .val (.int p2), .val (.long q3), .second, .val (.long q4), .second, .val (.ref ob), .val (.ref oi), .val (.ref nb), .val (.int c0), .val (.int c1), .val (.int c2), .val (.int c3), .val (.ref ni), .val (.ref cm), .unset] [(.ref cm)])) rfl (by rw [hml]; rfl) (Steps.refl _) (argsL := []) (rest := []) (lenOf pd_1 rfl) rfl (by show 2 * 0 + _ ≤ _; exact Nat.le_of_eq rfl) (hb hby at_115) (fun _ _ => ⟨rfl, rfl, (by decide : 5 + 0 ≤ _), (by decide : 20 + 0 ≤ _)⟩)
  dsimp only [Pt.U, Pt.locs, Pt.cells, Pt.slots] at X16 l16 y16 z16 st16 hQ16
  subst l16 y16 z16
  obtain ⟨rfl, N16q, eh16⟩ := hQ16
  have N16 := Fr.app N15 N16q
  obtain ⟨cq17, kq17, q17a, q17b, q17c⟩ := isOf hZ eh16 E_cm
  obtain ⟨_, _, ⟨T17, L17, k17, n17⟩, -, X17, ⟨Lc17, hQ17, l17, y17, z17⟩, st17⟩ := X16.virtualBack hx (y := (⟨"com/example/slot16k/slot16k/Command", "offset", "()I"⟩ : MethodName)) (z := (⟨"com/example/slot16k/slot16k/Command", "offset", "()I"⟩ : MethodName)) hown (mvT hZ (hw _ (List.mem_of_getElem? (i := 32) rfl))) (mvT hZ (hw _ (List.mem_of_getElem? (i := 33) rfl))) (notFace_of_selects (args := #[]) (mvT hZ (hw _ (List.mem_of_getElem? (i := 35) rfl)))) (mvT hZ (hw _ (List.mem_of_getElem? (i := 35) rfl))) (mvT hZ (hw _ (List.mem_of_getElem? (i := 34) rfl))) (by decide) (backOf (W := 0) (rm5 l Z A0 hw [] cm p0 T15.heap n0 ZT15_heap F_offset_cm) hZ (hw _ (List.mem_of_getElem? (i := 36) rfl)) (hw _ (List.mem_of_getElem? (i := 4) rfl)) (by decide) (by decide)) q17a q17c (g := (mkF m 137 #[.val (.int p0), .val (.int p1), .val (.int p2), .val (.long q3), .second, .val (.long q4), .second, .val (.ref ob), .val (.ref oi), .val (.ref nb), .val (.int c0), .val (.int c1), .val (.int c2), .val (.int c3), .val (.ref ni), .val (.ref cm), .val (.int (1 : Int32))] [(.ref cm)])) rfl (by rw [hml]; rfl) (Steps.refl _) (argsL := []) (rest := []) (lenOf pd_2 rfl) rfl (by show 2 * 0 + _ ≤ _; exact Nat.le_of_eq rfl) (hb hby at_137) (fun _ _ => ⟨rfl, eh16, (by decide : 5 + 0 ≤ _), (by decide : 20 + 0 ≤ _)⟩)
  dsimp only [Pt.U, Pt.locs, Pt.cells, Pt.slots] at X17 l17 y17 z17 st17 hQ17
  subst l17 y17 z17
  obtain ⟨rfl, N17q, eh17⟩ := hQ17
  have N17 := Fr.app N16 N17q
  obtain ⟨cq18, kq18, q18a, q18b, q18c⟩ := isOf hZ eh17 E_cm
  obtain ⟨_, _, ⟨T18, L18, k18, n18⟩, -, X18, ⟨Lc18, hQ18, l18, y18, z18⟩, st18⟩ := X17.virtualBack hx (y := (⟨"com/example/slot16k/slot16k/Command", "length", "()I"⟩ : MethodName)) (z := (⟨"com/example/slot16k/slot16k/Command", "length", "()I"⟩ : MethodName)) hown (mvT hZ (hw _ (List.mem_of_getElem? (i := 37) rfl))) (mvT hZ (hw _ (List.mem_of_getElem? (i := 38) rfl))) (notFace_of_selects (args := #[]) (mvT hZ (hw _ (List.mem_of_getElem? (i := 40) rfl)))) (mvT hZ (hw _ (List.mem_of_getElem? (i := 40) rfl))) (mvT hZ (hw _ (List.mem_of_getElem? (i := 39) rfl))) (by decide) (backOf (W := 0) (rm6 l Z A0 hw [] cm p1 T15.heap n0 ZT15_heap F_length_cm) hZ (hw _ (List.mem_of_getElem? (i := 41) rfl)) (hw _ (List.mem_of_getElem? (i := 4) rfl)) (by decide) (by decide)) q18a q18c (g := (mkF m 158 #[.val (.int p0), .val (.int p1), .val (.int p2), .val (.long q3), .second, .val (.long q4), .second, .val (.ref ob), .val (.ref oi), .val (.ref nb), .val (.int c0), .val (.int c1), .val (.int c2), .val (.int c3), .val (.ref ni), .val (.ref cm), .val (.int (1 : Int32))] [(.ref cm)])) rfl (by rw [hml]; rfl) (Steps.refl _) (argsL := []) (rest := []) (lenOf pd_2 rfl) rfl (by show 2 * 0 + _ ≤ _; exact Nat.le_of_eq rfl) (hb hby at_158) (fun _ _ => ⟨rfl, eh17, (by decide : 5 + 0 ≤ _), (by decide : 20 + 0 ≤ _)⟩)
  dsimp only [Pt.U, Pt.locs, Pt.cells, Pt.slots] at X18 l18 y18 z18 st18 hQ18
  subst l18 y18 z18
  obtain ⟨rfl, N18q, eh18⟩ := hQ18
  have N18 := Fr.app N17 N18q
  obtain ⟨cq19, kq19, q19a, q19b, q19c⟩ := isOf hZ eh18 E_cm
  obtain ⟨_, _, ⟨T19, L19, k19, n19⟩, -, X19, ⟨Lc19, hQ19, l19, y19, z19⟩, st19⟩ := X18.virtualBack hx (y := (⟨"com/example/slot16k/slot16k/Command", "arguments", "()I"⟩ : MethodName)) (z := (⟨"com/example/slot16k/slot16k/Command", "arguments", "()I"⟩ : MethodName)) hown (mvT hZ (hw _ (List.mem_of_getElem? (i := 42) rfl))) (mvT hZ (hw _ (List.mem_of_getElem? (i := 43) rfl))) (notFace_of_selects (args := #[]) (mvT hZ (hw _ (List.mem_of_getElem? (i := 45) rfl)))) (mvT hZ (hw _ (List.mem_of_getElem? (i := 45) rfl))) (mvT hZ (hw _ (List.mem_of_getElem? (i := 44) rfl))) (by decide) (backOf (W := 0) (rm7 l Z A0 hw [] cm p2 T15.heap n0 ZT15_heap F_arguments_cm) hZ (hw _ (List.mem_of_getElem? (i := 46) rfl)) (hw _ (List.mem_of_getElem? (i := 4) rfl)) (by decide) (by decide)) q19a q19c (g := (mkF m 179 #[.val (.int p0), .val (.int p1), .val (.int p2), .val (.long q3), .second, .val (.long q4), .second, .val (.ref ob), .val (.ref oi), .val (.ref nb), .val (.int c0), .val (.int c1), .val (.int c2), .val (.int c3), .val (.ref ni), .val (.ref cm), .val (.int (1 : Int32))] [(.ref cm)])) rfl (by rw [hml]; rfl) (Steps.refl _) (argsL := []) (rest := []) (lenOf pd_2 rfl) rfl (by show 2 * 0 + _ ≤ _; exact Nat.le_of_eq rfl) (hb hby at_179) (fun _ _ => ⟨rfl, eh18, (by decide : 5 + 0 ≤ _), (by decide : 20 + 0 ≤ _)⟩)
  dsimp only [Pt.U, Pt.locs, Pt.cells, Pt.slots] at X19 l19 y19 z19 st19 hQ19
  subst l19 y19 z19
  obtain ⟨rfl, N19q, eh19⟩ := hQ19
  have N19 := Fr.app N18 N19q
  obtain ⟨cq20, kq20, q20a, q20b, q20c⟩ := isOf hZ eh19 E_cm
  obtain ⟨_, _, ⟨T20, L20, k20, n20⟩, -, X20, ⟨Lc20, hQ20, l20, y20, z20⟩, st20⟩ := X19.virtualBack hx (y := (⟨"com/example/slot16k/slot16k/Command", "start", "(I)I"⟩ : MethodName)) (z := (⟨"com/example/slot16k/slot16k/Command", "start", "(I)I"⟩ : MethodName)) hown (mvT hZ (hw _ (List.mem_of_getElem? (i := 47) rfl))) (mvT hZ (hw _ (List.mem_of_getElem? (i := 48) rfl))) (notFace_of_selects (args := #[]) (mvT hZ (hw _ (List.mem_of_getElem? (i := 50) rfl)))) (mvT hZ (hw _ (List.mem_of_getElem? (i := 50) rfl))) (mvT hZ (hw _ (List.mem_of_getElem? (i := 49) rfl))) (by decide) (backOf (W := 0) (rm8 l Z A0 hw [] cm (0 : Int32) p0 ni k8 (4 : Int32) [(.int c0), (.int c1), (.int c2), (.int c3)] (.int (0 : Int32)) c0 T15.heap n0 ZT15_heap F_offset_cm F_bounds_cm V_ni (⟨by decide, by decide⟩) (rfl)) hZ (hw _ (List.mem_of_getElem? (i := 51) rfl)) (hw _ (List.mem_of_getElem? (i := 4) rfl)) (by decide) (by decide)) q20a q20c (g := (mkF m 201 #[.val (.int p0), .val (.int p1), .val (.int p2), .val (.long q3), .second, .val (.long q4), .second, .val (.ref ob), .val (.ref oi), .val (.ref nb), .val (.int c0), .val (.int c1), .val (.int c2), .val (.int c3), .val (.ref ni), .val (.ref cm), .val (.int (1 : Int32))] [(.int (0 : Int32)), (.ref cm)])) rfl (by rw [hml]; rfl) (Steps.refl _) (argsL := [(.int (0 : Int32))]) (rest := []) (lenOf pd_3 rfl) rfl (by show 2 * 0 + _ ≤ _; exact Nat.le_of_eq rfl) (hb hby at_201) (fun _ _ => ⟨rfl, eh19, (by decide : 5 + 0 ≤ _), (by decide : 20 + 0 ≤ _)⟩)
  dsimp only [Pt.U, Pt.locs, Pt.cells, Pt.slots] at X20 l20 y20 z20 st20 hQ20
  subst l20 y20 z20
  obtain ⟨rfl, N20q, eh20⟩ := hQ20
  have N20 := Fr.app N19 N20q
  obtain ⟨cq21, kq21, q21a, q21b, q21c⟩ := isOf hZ eh20 E_cm
  obtain ⟨_, _, ⟨T21, L21, k21, n21⟩, -, X21, ⟨Lc21, hQ21, l21, y21, z21⟩, st21⟩ := X20.virtualBack hx (y := (⟨"com/example/slot16k/slot16k/Command", "end", "(I)I"⟩ : MethodName)) (z := (⟨"com/example/slot16k/slot16k/Command", "end", "(I)I"⟩ : MethodName)) hown (mvT hZ (hw _ (List.mem_of_getElem? (i := 52) rfl))) (mvT hZ (hw _ (List.mem_of_getElem? (i := 53) rfl))) (notFace_of_selects (args := #[]) (mvT hZ (hw _ (List.mem_of_getElem? (i := 55) rfl)))) (mvT hZ (hw _ (List.mem_of_getElem? (i := 55) rfl))) (mvT hZ (hw _ (List.mem_of_getElem? (i := 54) rfl))) (by decide) (backOf (W := 0) (rm9 l Z A0 hw [] cm (0 : Int32) p0 ni k8 (4 : Int32) [(.int c0), (.int c1), (.int c2), (.int c3)] (.int (0 : Int32)) c1 T15.heap n0 ZT15_heap F_offset_cm F_bounds_cm V_ni (⟨by decide, by decide⟩) (rfl)) hZ (hw _ (List.mem_of_getElem? (i := 56) rfl)) (hw _ (List.mem_of_getElem? (i := 4) rfl)) (by decide) (by decide)) q21a q21c (g := (mkF m 226 #[.val (.int p0), .val (.int p1), .val (.int p2), .val (.long q3), .second, .val (.long q4), .second, .val (.ref ob), .val (.ref oi), .val (.ref nb), .val (.int c0), .val (.int c1), .val (.int c2), .val (.int c3), .val (.ref ni), .val (.ref cm), .val (.int (1 : Int32))] [(.int (0 : Int32)), (.ref cm)])) rfl (by rw [hml]; rfl) (Steps.refl _) (argsL := [(.int (0 : Int32))]) (rest := []) (lenOf pd_3 rfl) rfl (by show 2 * 0 + _ ≤ _; exact Nat.le_of_eq rfl) (hb hby at_226) (fun _ _ => ⟨rfl, eh20, (by decide : 5 + 0 ≤ _), (by decide : 20 + 0 ≤ _)⟩)
  dsimp only [Pt.U, Pt.locs, Pt.cells, Pt.slots] at X21 l21 y21 z21 st21 hQ21
  subst l21 y21 z21
  obtain ⟨rfl, N21q, eh21⟩ := hQ21
  have N21 := Fr.app N20 N21q
  obtain ⟨cq22, kq22, q22a, q22b, q22c⟩ := isOf hZ eh21 E_cm
  obtain ⟨_, _, ⟨T22, L22, k22, n22⟩, -, X22, ⟨Lc22, hQ22, l22, y22, z22⟩, st22⟩ := X21.virtualBack hx (y := (⟨"com/example/slot16k/slot16k/Command", "start", "(I)I"⟩ : MethodName)) (z := (⟨"com/example/slot16k/slot16k/Command", "start", "(I)I"⟩ : MethodName)) hown (mvT hZ (hw _ (List.mem_of_getElem? (i := 47) rfl))) (mvT hZ (hw _ (List.mem_of_getElem? (i := 48) rfl))) (notFace_of_selects (args := #[]) (mvT hZ (hw _ (List.mem_of_getElem? (i := 50) rfl)))) (mvT hZ (hw _ (List.mem_of_getElem? (i := 50) rfl))) (mvT hZ (hw _ (List.mem_of_getElem? (i := 49) rfl))) (by decide) (backOf (W := 0) (rm8 l Z A0 hw [] cm (1 : Int32) p0 ni k8 (4 : Int32) [(.int c0), (.int c1), (.int c2), (.int c3)] (.int (0 : Int32)) c2 T15.heap n0 ZT15_heap F_offset_cm F_bounds_cm V_ni (⟨by decide, by decide⟩) (rfl)) hZ (hw _ (List.mem_of_getElem? (i := 51) rfl)) (hw _ (List.mem_of_getElem? (i := 4) rfl)) (by decide) (by decide)) q22a q22c (g := (mkF m 251 #[.val (.int p0), .val (.int p1), .val (.int p2), .val (.long q3), .second, .val (.long q4), .second, .val (.ref ob), .val (.ref oi), .val (.ref nb), .val (.int c0), .val (.int c1), .val (.int c2), .val (.int c3), .val (.ref ni), .val (.ref cm), .val (.int (1 : Int32))] [(.int (1 : Int32)), (.ref cm)])) rfl (by rw [hml]; rfl) (Steps.refl _) (argsL := [(.int (1 : Int32))]) (rest := []) (lenOf pd_3 rfl) rfl (by show 2 * 0 + _ ≤ _; exact Nat.le_of_eq rfl) (hb hby at_251) (fun _ _ => ⟨rfl, eh21, (by decide : 5 + 0 ≤ _), (by decide : 20 + 0 ≤ _)⟩)
  dsimp only [Pt.U, Pt.locs, Pt.cells, Pt.slots] at X22 l22 y22 z22 st22 hQ22
  subst l22 y22 z22
  obtain ⟨rfl, N22q, eh22⟩ := hQ22
  have N22 := Fr.app N21 N22q
  obtain ⟨cq23, kq23, q23a, q23b, q23c⟩ := isOf hZ eh22 E_cm
  obtain ⟨_, _, ⟨T23, L23, k23, n23⟩, -, X23, ⟨Lc23, hQ23, l23, y23, z23⟩, st23⟩ := X22.virtualBack hx (y := (⟨"com/example/slot16k/slot16k/Command", "end", "(I)I"⟩ : MethodName)) (z := (⟨"com/example/slot16k/slot16k/Command", "end", "(I)I"⟩ : MethodName)) hown (mvT hZ (hw _ (List.mem_of_getElem? (i := 52) rfl))) (mvT hZ (hw _ (List.mem_of_getElem? (i := 53) rfl))) (notFace_of_selects (args := #[]) (mvT hZ (hw _ (List.mem_of_getElem? (i := 55) rfl)))) (mvT hZ (hw _ (List.mem_of_getElem? (i := 55) rfl))) (mvT hZ (hw _ (List.mem_of_getElem? (i := 54) rfl))) (by decide) (backOf (W := 0) (rm9 l Z A0 hw [] cm (1 : Int32) p0 ni k8 (4 : Int32) [(.int c0), (.int c1), (.int c2), (.int c3)] (.int (0 : Int32)) c3 T15.heap n0 ZT15_heap F_offset_cm F_bounds_cm V_ni (⟨by decide, by decide⟩) (rfl)) hZ (hw _ (List.mem_of_getElem? (i := 56) rfl)) (hw _ (List.mem_of_getElem? (i := 4) rfl)) (by decide) (by decide)) q23a q23c (g := (mkF m 276 #[.val (.int p0), .val (.int p1), .val (.int p2), .val (.long q3), .second, .val (.long q4), .second, .val (.ref ob), .val (.ref oi), .val (.ref nb), .val (.int c0), .val (.int c1), .val (.int c2), .val (.int c3), .val (.ref ni), .val (.ref cm), .val (.int (1 : Int32))] [(.int (1 : Int32)), (.ref cm)])) rfl (by rw [hml]; rfl) (Steps.refl _) (argsL := [(.int (1 : Int32))]) (rest := []) (lenOf pd_3 rfl) rfl (by show 2 * 0 + _ ≤ _; exact Nat.le_of_eq rfl) (hb hby at_276) (fun _ _ => ⟨rfl, eh22, (by decide : 5 + 0 ≤ _), (by decide : 20 + 0 ≤ _)⟩)
  dsimp only [Pt.U, Pt.locs, Pt.cells, Pt.slots] at X23 l23 y23 z23 st23 hQ23
  subst l23 y23 z23
  obtain ⟨rfl, N23q, eh23⟩ := hQ23
  have N23 := Fr.app N22 N23q
  obtain ⟨fs, hr, hrun, hended, hW, hsame⟩ := X23.leave (v := some (.int (1 : Int32))) (fun h => by rw [Bd.returns] at h; cases h)
  refine ⟨_, _, pre0 _ ?_, hrun, hended, _, _, rfl, ?_, ⟨_, rfl⟩, hW, hsame.mono (by decide) (by decide)⟩
  · show Steps p.tables e below (s₁.setTop (mkF m 0 #[.val (.int p0), .val (.int p1), .val (.int p2), .val (.long q3), .second, .val (.long q4), .second, .unset, .unset, .unset, .unset, .unset, .unset, .unset, .unset, .unset, .unset] [])) _
    refine XS.iconst X0.here hx rfl (hb hby at_0) ?_
    show Steps p.tables e below (s₁.setTop (mkF m 1 #[.val (.int p0), .val (.int p1), .val (.int p2), .val (.long q3), .second, .val (.long q4), .second, .unset, .unset, .unset, .unset, .unset, .unset, .unset, .unset, .unset, .unset] [(.int (4 : Int32))])) _
    refine st1 _ ?_
    show Steps p.tables e below (T1.setTop (mkF m 3 #[.val (.int p0), .val (.int p1), .val (.int p2), .val (.long q3), .second, .val (.long q4), .second, .unset, .unset, .unset, .unset, .unset, .unset, .unset, .unset, .unset, .unset] [(.ref ob)])) _
    refine XS.astore X1.here hx rfl (hb hby at_3) rfl rfl (l' := #[.val (.int p0), .val (.int p1), .val (.int p2), .val (.long q3), .second, .val (.long q4), .second, .val (.ref ob), .unset, .unset, .unset, .unset, .unset, .unset, .unset, .unset, .unset]) rfl ?_
    show Steps p.tables e below (T1.setTop (mkF m 5 #[.val (.int p0), .val (.int p1), .val (.int p2), .val (.long q3), .second, .val (.long q4), .second, .val (.ref ob), .unset, .unset, .unset, .unset, .unset, .unset, .unset, .unset, .unset] [])) _
    refine XS.iconst X1.here hx rfl (hb hby at_5) ?_
    show Steps p.tables e below (T1.setTop (mkF m 6 #[.val (.int p0), .val (.int p1), .val (.int p2), .val (.long q3), .second, .val (.long q4), .second, .val (.ref ob), .unset, .unset, .unset, .unset, .unset, .unset, .unset, .unset, .unset] [(.int (4 : Int32))])) _
    refine st2 _ ?_
    show Steps p.tables e below (T2.setTop (mkF m 8 #[.val (.int p0), .val (.int p1), .val (.int p2), .val (.long q3), .second, .val (.long q4), .second, .val (.ref ob), .unset, .unset, .unset, .unset, .unset, .unset, .unset, .unset, .unset] [(.ref oi)])) _
    refine XS.dup X2.here hx rfl (hb hby at_8) rfl rfl ?_
    show Steps p.tables e below (T2.setTop (mkF m 9 #[.val (.int p0), .val (.int p1), .val (.int p2), .val (.long q3), .second, .val (.long q4), .second, .val (.ref ob), .unset, .unset, .unset, .unset, .unset, .unset, .unset, .unset, .unset] [(.ref oi), (.ref oi)])) _
    refine XS.iconst X2.here hx rfl (hb hby at_9) ?_
    show Steps p.tables e below (T2.setTop (mkF m 10 #[.val (.int p0), .val (.int p1), .val (.int p2), .val (.long q3), .second, .val (.long q4), .second, .val (.ref ob), .unset, .unset, .unset, .unset, .unset, .unset, .unset, .unset, .unset] [(.int (0 : Int32)), (.ref oi), (.ref oi)])) _
    refine XS.iconst X2.here hx rfl (hb hby at_10) ?_
    show Steps p.tables e below (T2.setTop (mkF m 11 #[.val (.int p0), .val (.int p1), .val (.int p2), .val (.long q3), .second, .val (.long q4), .second, .val (.ref ob), .unset, .unset, .unset, .unset, .unset, .unset, .unset, .unset, .unset] [(.int (5 : Int32)), (.int (0 : Int32)), (.ref oi), (.ref oi)])) _
    refine st3 _ ?_
    show Steps p.tables e below (T3.setTop (mkF m 12 #[.val (.int p0), .val (.int p1), .val (.int p2), .val (.long q3), .second, .val (.long q4), .second, .val (.ref ob), .unset, .unset, .unset, .unset, .unset, .unset, .unset, .unset, .unset] [(.ref oi)])) _
    refine XS.dup X3.here hx rfl (hb hby at_12) rfl rfl ?_
    show Steps p.tables e below (T3.setTop (mkF m 13 #[.val (.int p0), .val (.int p1), .val (.int p2), .val (.long q3), .second, .val (.long q4), .second, .val (.ref ob), .unset, .unset, .unset, .unset, .unset, .unset, .unset, .unset, .unset] [(.ref oi), (.ref oi)])) _
    refine XS.iconst X3.here hx rfl (hb hby at_13) ?_
    show Steps p.tables e below (T3.setTop (mkF m 14 #[.val (.int p0), .val (.int p1), .val (.int p2), .val (.long q3), .second, .val (.long q4), .second, .val (.ref ob), .unset, .unset, .unset, .unset, .unset, .unset, .unset, .unset, .unset] [(.int (1 : Int32)), (.ref oi), (.ref oi)])) _
    refine XS.bipush X3.here hx rfl (hb hby at_14) ?_
    show Steps p.tables e below (T3.setTop (mkF m 16 #[.val (.int p0), .val (.int p1), .val (.int p2), .val (.long q3), .second, .val (.long q4), .second, .val (.ref ob), .unset, .unset, .unset, .unset, .unset, .unset, .unset, .unset, .unset] [(.int (6 : Int32)), (.int (1 : Int32)), (.ref oi), (.ref oi)])) _
    refine st4 _ ?_
    show Steps p.tables e below (T4.setTop (mkF m 17 #[.val (.int p0), .val (.int p1), .val (.int p2), .val (.long q3), .second, .val (.long q4), .second, .val (.ref ob), .unset, .unset, .unset, .unset, .unset, .unset, .unset, .unset, .unset] [(.ref oi)])) _
    refine XS.dup X4.here hx rfl (hb hby at_17) rfl rfl ?_
    show Steps p.tables e below (T4.setTop (mkF m 18 #[.val (.int p0), .val (.int p1), .val (.int p2), .val (.long q3), .second, .val (.long q4), .second, .val (.ref ob), .unset, .unset, .unset, .unset, .unset, .unset, .unset, .unset, .unset] [(.ref oi), (.ref oi)])) _
    refine XS.iconst X4.here hx rfl (hb hby at_18) ?_
    show Steps p.tables e below (T4.setTop (mkF m 19 #[.val (.int p0), .val (.int p1), .val (.int p2), .val (.long q3), .second, .val (.long q4), .second, .val (.ref ob), .unset, .unset, .unset, .unset, .unset, .unset, .unset, .unset, .unset] [(.int (2 : Int32)), (.ref oi), (.ref oi)])) _
    refine XS.bipush X4.here hx rfl (hb hby at_19) ?_
    show Steps p.tables e below (T4.setTop (mkF m 21 #[.val (.int p0), .val (.int p1), .val (.int p2), .val (.long q3), .second, .val (.long q4), .second, .val (.ref ob), .unset, .unset, .unset, .unset, .unset, .unset, .unset, .unset, .unset] [(.int (7 : Int32)), (.int (2 : Int32)), (.ref oi), (.ref oi)])) _
    refine st5 _ ?_
    show Steps p.tables e below (T5.setTop (mkF m 22 #[.val (.int p0), .val (.int p1), .val (.int p2), .val (.long q3), .second, .val (.long q4), .second, .val (.ref ob), .unset, .unset, .unset, .unset, .unset, .unset, .unset, .unset, .unset] [(.ref oi)])) _
    refine XS.dup X5.here hx rfl (hb hby at_22) rfl rfl ?_
    show Steps p.tables e below (T5.setTop (mkF m 23 #[.val (.int p0), .val (.int p1), .val (.int p2), .val (.long q3), .second, .val (.long q4), .second, .val (.ref ob), .unset, .unset, .unset, .unset, .unset, .unset, .unset, .unset, .unset] [(.ref oi), (.ref oi)])) _
    refine XS.iconst X5.here hx rfl (hb hby at_23) ?_
    show Steps p.tables e below (T5.setTop (mkF m 24 #[.val (.int p0), .val (.int p1), .val (.int p2), .val (.long q3), .second, .val (.long q4), .second, .val (.ref ob), .unset, .unset, .unset, .unset, .unset, .unset, .unset, .unset, .unset] [(.int (3 : Int32)), (.ref oi), (.ref oi)])) _
    refine XS.bipush X5.here hx rfl (hb hby at_24) ?_
    show Steps p.tables e below (T5.setTop (mkF m 26 #[.val (.int p0), .val (.int p1), .val (.int p2), .val (.long q3), .second, .val (.long q4), .second, .val (.ref ob), .unset, .unset, .unset, .unset, .unset, .unset, .unset, .unset, .unset] [(.int (8 : Int32)), (.int (3 : Int32)), (.ref oi), (.ref oi)])) _
    refine st6 _ ?_
    show Steps p.tables e below (T6.setTop (mkF m 27 #[.val (.int p0), .val (.int p1), .val (.int p2), .val (.long q3), .second, .val (.long q4), .second, .val (.ref ob), .unset, .unset, .unset, .unset, .unset, .unset, .unset, .unset, .unset] [(.ref oi)])) _
    refine XS.astore X6.here hx rfl (hb hby at_27) rfl rfl (l' := #[.val (.int p0), .val (.int p1), .val (.int p2), .val (.long q3), .second, .val (.long q4), .second, .val (.ref ob), .val (.ref oi), .unset, .unset, .unset, .unset, .unset, .unset, .unset, .unset]) rfl ?_
    show Steps p.tables e below (T6.setTop (mkF m 29 #[.val (.int p0), .val (.int p1), .val (.int p2), .val (.long q3), .second, .val (.long q4), .second, .val (.ref ob), .val (.ref oi), .unset, .unset, .unset, .unset, .unset, .unset, .unset, .unset] [])) _
    refine XS.iconst X6.here hx rfl (hb hby at_29) ?_
    show Steps p.tables e below (T6.setTop (mkF m 30 #[.val (.int p0), .val (.int p1), .val (.int p2), .val (.long q3), .second, .val (.long q4), .second, .val (.ref ob), .val (.ref oi), .unset, .unset, .unset, .unset, .unset, .unset, .unset, .unset] [(.int (3 : Int32))])) _
    refine st7 _ ?_
    show Steps p.tables e below (T7.setTop (mkF m 32 #[.val (.int p0), .val (.int p1), .val (.int p2), .val (.long q3), .second, .val (.long q4), .second, .val (.ref ob), .val (.ref oi), .unset, .unset, .unset, .unset, .unset, .unset, .unset, .unset] [(.ref nb)])) _
    refine XS.astore X7.here hx rfl (hb hby at_32) rfl rfl (l' := #[.val (.int p0), .val (.int p1), .val (.int p2), .val (.long q3), .second, .val (.long q4), .second, .val (.ref ob), .val (.ref oi), .val (.ref nb), .unset, .unset, .unset, .unset, .unset, .unset, .unset]) rfl ?_
    show Steps p.tables e below (T7.setTop (mkF m 34 #[.val (.int p0), .val (.int p1), .val (.int p2), .val (.long q3), .second, .val (.long q4), .second, .val (.ref ob), .val (.ref oi), .val (.ref nb), .unset, .unset, .unset, .unset, .unset, .unset, .unset] [])) _
    refine XS.lloadN X7.here hx rfl (hb hby at_34) rfl ?_
    show Steps p.tables e below (T7.setTop (mkF m 35 #[.val (.int p0), .val (.int p1), .val (.int p2), .val (.long q3), .second, .val (.long q4), .second, .val (.ref ob), .val (.ref oi), .val (.ref nb), .unset, .unset, .unset, .unset, .unset, .unset, .unset] [(.long q3)])) _
    refine XS.l2i X7.here hx rfl (hb hby at_35) rfl ?_
    show Steps p.tables e below (T7.setTop (mkF m 36 #[.val (.int p0), .val (.int p1), .val (.int p2), .val (.long q3), .second, .val (.long q4), .second, .val (.ref ob), .val (.ref oi), .val (.ref nb), .unset, .unset, .unset, .unset, .unset, .unset, .unset] [(.int (q3.toInt32))])) _
    rw [← h_c0]
    show Steps p.tables e below (T7.setTop (mkF m 36 #[.val (.int p0), .val (.int p1), .val (.int p2), .val (.long q3), .second, .val (.long q4), .second, .val (.ref ob), .val (.ref oi), .val (.ref nb), .unset, .unset, .unset, .unset, .unset, .unset, .unset] [(.int c0)])) _
    refine XS.istore X7.here hx rfl (hb hby at_36) rfl (l' := #[.val (.int p0), .val (.int p1), .val (.int p2), .val (.long q3), .second, .val (.long q4), .second, .val (.ref ob), .val (.ref oi), .val (.ref nb), .val (.int c0), .unset, .unset, .unset, .unset, .unset, .unset]) rfl ?_
    show Steps p.tables e below (T7.setTop (mkF m 38 #[.val (.int p0), .val (.int p1), .val (.int p2), .val (.long q3), .second, .val (.long q4), .second, .val (.ref ob), .val (.ref oi), .val (.ref nb), .val (.int c0), .unset, .unset, .unset, .unset, .unset, .unset] [])) _
    refine XS.lloadN X7.here hx rfl (hb hby at_38) rfl ?_
    show Steps p.tables e below (T7.setTop (mkF m 39 #[.val (.int p0), .val (.int p1), .val (.int p2), .val (.long q3), .second, .val (.long q4), .second, .val (.ref ob), .val (.ref oi), .val (.ref nb), .val (.int c0), .unset, .unset, .unset, .unset, .unset, .unset] [(.long q3)])) _
    refine XS.bipush X7.here hx rfl (hb hby at_39) ?_
    show Steps p.tables e below (T7.setTop (mkF m 41 #[.val (.int p0), .val (.int p1), .val (.int p2), .val (.long q3), .second, .val (.long q4), .second, .val (.ref ob), .val (.ref oi), .val (.ref nb), .val (.int c0), .unset, .unset, .unset, .unset, .unset, .unset] [(.int (32 : Int32)), (.long q3)])) _
    refine XS.lushr X7.here hx rfl (hb hby at_41) rfl ?_
    show Steps p.tables e below (T7.setTop (mkF m 42 #[.val (.int p0), .val (.int p1), .val (.int p2), .val (.long q3), .second, .val (.long q4), .second, .val (.ref ob), .val (.ref oi), .val (.ref nb), .val (.int c0), .unset, .unset, .unset, .unset, .unset, .unset] [(.long ((q3.toUInt64 >>> ((32 : Int32) &&& 0x3f).toInt64.toUInt64).toInt64))])) _
    refine XS.l2i X7.here hx rfl (hb hby at_42) rfl ?_
    show Steps p.tables e below (T7.setTop (mkF m 43 #[.val (.int p0), .val (.int p1), .val (.int p2), .val (.long q3), .second, .val (.long q4), .second, .val (.ref ob), .val (.ref oi), .val (.ref nb), .val (.int c0), .unset, .unset, .unset, .unset, .unset, .unset] [(.int (((q3.toUInt64 >>> ((32 : Int32) &&& 0x3f).toInt64.toUInt64).toInt64).toInt32))])) _
    rw [← h_c1]
    show Steps p.tables e below (T7.setTop (mkF m 43 #[.val (.int p0), .val (.int p1), .val (.int p2), .val (.long q3), .second, .val (.long q4), .second, .val (.ref ob), .val (.ref oi), .val (.ref nb), .val (.int c0), .unset, .unset, .unset, .unset, .unset, .unset] [(.int c1)])) _
    refine XS.istore X7.here hx rfl (hb hby at_43) rfl (l' := #[.val (.int p0), .val (.int p1), .val (.int p2), .val (.long q3), .second, .val (.long q4), .second, .val (.ref ob), .val (.ref oi), .val (.ref nb), .val (.int c0), .val (.int c1), .unset, .unset, .unset, .unset, .unset]) rfl ?_
    show Steps p.tables e below (T7.setTop (mkF m 45 #[.val (.int p0), .val (.int p1), .val (.int p2), .val (.long q3), .second, .val (.long q4), .second, .val (.ref ob), .val (.ref oi), .val (.ref nb), .val (.int c0), .val (.int c1), .unset, .unset, .unset, .unset, .unset] [])) _
    refine XS.lload X7.here hx rfl (hb hby at_45) rfl ?_
    show Steps p.tables e below (T7.setTop (mkF m 47 #[.val (.int p0), .val (.int p1), .val (.int p2), .val (.long q3), .second, .val (.long q4), .second, .val (.ref ob), .val (.ref oi), .val (.ref nb), .val (.int c0), .val (.int c1), .unset, .unset, .unset, .unset, .unset] [(.long q4)])) _
    refine XS.l2i X7.here hx rfl (hb hby at_47) rfl ?_
    show Steps p.tables e below (T7.setTop (mkF m 48 #[.val (.int p0), .val (.int p1), .val (.int p2), .val (.long q3), .second, .val (.long q4), .second, .val (.ref ob), .val (.ref oi), .val (.ref nb), .val (.int c0), .val (.int c1), .unset, .unset, .unset, .unset, .unset] [(.int (q4.toInt32))])) _
    rw [← h_c2]
    show Steps p.tables e below (T7.setTop (mkF m 48 #[.val (.int p0), .val (.int p1), .val (.int p2), .val (.long q3), .second, .val (.long q4), .second, .val (.ref ob), .val (.ref oi), .val (.ref nb), .val (.int c0), .val (.int c1), .unset, .unset, .unset, .unset, .unset] [(.int c2)])) _
    refine XS.istore X7.here hx rfl (hb hby at_48) rfl (l' := #[.val (.int p0), .val (.int p1), .val (.int p2), .val (.long q3), .second, .val (.long q4), .second, .val (.ref ob), .val (.ref oi), .val (.ref nb), .val (.int c0), .val (.int c1), .val (.int c2), .unset, .unset, .unset, .unset]) rfl ?_
    show Steps p.tables e below (T7.setTop (mkF m 50 #[.val (.int p0), .val (.int p1), .val (.int p2), .val (.long q3), .second, .val (.long q4), .second, .val (.ref ob), .val (.ref oi), .val (.ref nb), .val (.int c0), .val (.int c1), .val (.int c2), .unset, .unset, .unset, .unset] [])) _
    refine XS.lload X7.here hx rfl (hb hby at_50) rfl ?_
    show Steps p.tables e below (T7.setTop (mkF m 52 #[.val (.int p0), .val (.int p1), .val (.int p2), .val (.long q3), .second, .val (.long q4), .second, .val (.ref ob), .val (.ref oi), .val (.ref nb), .val (.int c0), .val (.int c1), .val (.int c2), .unset, .unset, .unset, .unset] [(.long q4)])) _
    refine XS.bipush X7.here hx rfl (hb hby at_52) ?_
    show Steps p.tables e below (T7.setTop (mkF m 54 #[.val (.int p0), .val (.int p1), .val (.int p2), .val (.long q3), .second, .val (.long q4), .second, .val (.ref ob), .val (.ref oi), .val (.ref nb), .val (.int c0), .val (.int c1), .val (.int c2), .unset, .unset, .unset, .unset] [(.int (32 : Int32)), (.long q4)])) _
    refine XS.lushr X7.here hx rfl (hb hby at_54) rfl ?_
    show Steps p.tables e below (T7.setTop (mkF m 55 #[.val (.int p0), .val (.int p1), .val (.int p2), .val (.long q3), .second, .val (.long q4), .second, .val (.ref ob), .val (.ref oi), .val (.ref nb), .val (.int c0), .val (.int c1), .val (.int c2), .unset, .unset, .unset, .unset] [(.long ((q4.toUInt64 >>> ((32 : Int32) &&& 0x3f).toInt64.toUInt64).toInt64))])) _
    refine XS.l2i X7.here hx rfl (hb hby at_55) rfl ?_
    show Steps p.tables e below (T7.setTop (mkF m 56 #[.val (.int p0), .val (.int p1), .val (.int p2), .val (.long q3), .second, .val (.long q4), .second, .val (.ref ob), .val (.ref oi), .val (.ref nb), .val (.int c0), .val (.int c1), .val (.int c2), .unset, .unset, .unset, .unset] [(.int (((q4.toUInt64 >>> ((32 : Int32) &&& 0x3f).toInt64.toUInt64).toInt64).toInt32))])) _
    rw [← h_c3]
    show Steps p.tables e below (T7.setTop (mkF m 56 #[.val (.int p0), .val (.int p1), .val (.int p2), .val (.long q3), .second, .val (.long q4), .second, .val (.ref ob), .val (.ref oi), .val (.ref nb), .val (.int c0), .val (.int c1), .val (.int c2), .unset, .unset, .unset, .unset] [(.int c3)])) _
    refine XS.istore X7.here hx rfl (hb hby at_56) rfl (l' := #[.val (.int p0), .val (.int p1), .val (.int p2), .val (.long q3), .second, .val (.long q4), .second, .val (.ref ob), .val (.ref oi), .val (.ref nb), .val (.int c0), .val (.int c1), .val (.int c2), .val (.int c3), .unset, .unset, .unset]) rfl ?_
    show Steps p.tables e below (T7.setTop (mkF m 58 #[.val (.int p0), .val (.int p1), .val (.int p2), .val (.long q3), .second, .val (.long q4), .second, .val (.ref ob), .val (.ref oi), .val (.ref nb), .val (.int c0), .val (.int c1), .val (.int c2), .val (.int c3), .unset, .unset, .unset] [])) _
    refine XS.iconst X7.here hx rfl (hb hby at_58) ?_
    show Steps p.tables e below (T7.setTop (mkF m 59 #[.val (.int p0), .val (.int p1), .val (.int p2), .val (.long q3), .second, .val (.long q4), .second, .val (.ref ob), .val (.ref oi), .val (.ref nb), .val (.int c0), .val (.int c1), .val (.int c2), .val (.int c3), .unset, .unset, .unset] [(.int (4 : Int32))])) _
    refine st8 _ ?_
    show Steps p.tables e below (T8.setTop (mkF m 61 #[.val (.int p0), .val (.int p1), .val (.int p2), .val (.long q3), .second, .val (.long q4), .second, .val (.ref ob), .val (.ref oi), .val (.ref nb), .val (.int c0), .val (.int c1), .val (.int c2), .val (.int c3), .unset, .unset, .unset] [(.ref ni)])) _
    refine XS.dup X8.here hx rfl (hb hby at_61) rfl rfl ?_
    show Steps p.tables e below (T8.setTop (mkF m 62 #[.val (.int p0), .val (.int p1), .val (.int p2), .val (.long q3), .second, .val (.long q4), .second, .val (.ref ob), .val (.ref oi), .val (.ref nb), .val (.int c0), .val (.int c1), .val (.int c2), .val (.int c3), .unset, .unset, .unset] [(.ref ni), (.ref ni)])) _
    refine XS.iconst X8.here hx rfl (hb hby at_62) ?_
    show Steps p.tables e below (T8.setTop (mkF m 63 #[.val (.int p0), .val (.int p1), .val (.int p2), .val (.long q3), .second, .val (.long q4), .second, .val (.ref ob), .val (.ref oi), .val (.ref nb), .val (.int c0), .val (.int c1), .val (.int c2), .val (.int c3), .unset, .unset, .unset] [(.int (0 : Int32)), (.ref ni), (.ref ni)])) _
    refine XS.iload X8.here hx rfl (hb hby at_63) rfl ?_
    show Steps p.tables e below (T8.setTop (mkF m 65 #[.val (.int p0), .val (.int p1), .val (.int p2), .val (.long q3), .second, .val (.long q4), .second, .val (.ref ob), .val (.ref oi), .val (.ref nb), .val (.int c0), .val (.int c1), .val (.int c2), .val (.int c3), .unset, .unset, .unset] [(.int c0), (.int (0 : Int32)), (.ref ni), (.ref ni)])) _
    refine st9 _ ?_
    show Steps p.tables e below (T9.setTop (mkF m 66 #[.val (.int p0), .val (.int p1), .val (.int p2), .val (.long q3), .second, .val (.long q4), .second, .val (.ref ob), .val (.ref oi), .val (.ref nb), .val (.int c0), .val (.int c1), .val (.int c2), .val (.int c3), .unset, .unset, .unset] [(.ref ni)])) _
    refine XS.dup X9.here hx rfl (hb hby at_66) rfl rfl ?_
    show Steps p.tables e below (T9.setTop (mkF m 67 #[.val (.int p0), .val (.int p1), .val (.int p2), .val (.long q3), .second, .val (.long q4), .second, .val (.ref ob), .val (.ref oi), .val (.ref nb), .val (.int c0), .val (.int c1), .val (.int c2), .val (.int c3), .unset, .unset, .unset] [(.ref ni), (.ref ni)])) _
    refine XS.iconst X9.here hx rfl (hb hby at_67) ?_
    show Steps p.tables e below (T9.setTop (mkF m 68 #[.val (.int p0), .val (.int p1), .val (.int p2), .val (.long q3), .second, .val (.long q4), .second, .val (.ref ob), .val (.ref oi), .val (.ref nb), .val (.int c0), .val (.int c1), .val (.int c2), .val (.int c3), .unset, .unset, .unset] [(.int (1 : Int32)), (.ref ni), (.ref ni)])) _
    refine XS.iload X9.here hx rfl (hb hby at_68) rfl ?_
    show Steps p.tables e below (T9.setTop (mkF m 70 #[.val (.int p0), .val (.int p1), .val (.int p2), .val (.long q3), .second, .val (.long q4), .second, .val (.ref ob), .val (.ref oi), .val (.ref nb), .val (.int c0), .val (.int c1), .val (.int c2), .val (.int c3), .unset, .unset, .unset] [(.int c1), (.int (1 : Int32)), (.ref ni), (.ref ni)])) _
    refine st10 _ ?_
    show Steps p.tables e below (T10.setTop (mkF m 71 #[.val (.int p0), .val (.int p1), .val (.int p2), .val (.long q3), .second, .val (.long q4), .second, .val (.ref ob), .val (.ref oi), .val (.ref nb), .val (.int c0), .val (.int c1), .val (.int c2), .val (.int c3), .unset, .unset, .unset] [(.ref ni)])) _
    refine XS.dup X10.here hx rfl (hb hby at_71) rfl rfl ?_
    show Steps p.tables e below (T10.setTop (mkF m 72 #[.val (.int p0), .val (.int p1), .val (.int p2), .val (.long q3), .second, .val (.long q4), .second, .val (.ref ob), .val (.ref oi), .val (.ref nb), .val (.int c0), .val (.int c1), .val (.int c2), .val (.int c3), .unset, .unset, .unset] [(.ref ni), (.ref ni)])) _
    refine XS.iconst X10.here hx rfl (hb hby at_72) ?_
    show Steps p.tables e below (T10.setTop (mkF m 73 #[.val (.int p0), .val (.int p1), .val (.int p2), .val (.long q3), .second, .val (.long q4), .second, .val (.ref ob), .val (.ref oi), .val (.ref nb), .val (.int c0), .val (.int c1), .val (.int c2), .val (.int c3), .unset, .unset, .unset] [(.int (2 : Int32)), (.ref ni), (.ref ni)])) _
    refine XS.iload X10.here hx rfl (hb hby at_73) rfl ?_
    show Steps p.tables e below (T10.setTop (mkF m 75 #[.val (.int p0), .val (.int p1), .val (.int p2), .val (.long q3), .second, .val (.long q4), .second, .val (.ref ob), .val (.ref oi), .val (.ref nb), .val (.int c0), .val (.int c1), .val (.int c2), .val (.int c3), .unset, .unset, .unset] [(.int c2), (.int (2 : Int32)), (.ref ni), (.ref ni)])) _
    refine st11 _ ?_
    show Steps p.tables e below (T11.setTop (mkF m 76 #[.val (.int p0), .val (.int p1), .val (.int p2), .val (.long q3), .second, .val (.long q4), .second, .val (.ref ob), .val (.ref oi), .val (.ref nb), .val (.int c0), .val (.int c1), .val (.int c2), .val (.int c3), .unset, .unset, .unset] [(.ref ni)])) _
    refine XS.dup X11.here hx rfl (hb hby at_76) rfl rfl ?_
    show Steps p.tables e below (T11.setTop (mkF m 77 #[.val (.int p0), .val (.int p1), .val (.int p2), .val (.long q3), .second, .val (.long q4), .second, .val (.ref ob), .val (.ref oi), .val (.ref nb), .val (.int c0), .val (.int c1), .val (.int c2), .val (.int c3), .unset, .unset, .unset] [(.ref ni), (.ref ni)])) _
    refine XS.iconst X11.here hx rfl (hb hby at_77) ?_
    show Steps p.tables e below (T11.setTop (mkF m 78 #[.val (.int p0), .val (.int p1), .val (.int p2), .val (.long q3), .second, .val (.long q4), .second, .val (.ref ob), .val (.ref oi), .val (.ref nb), .val (.int c0), .val (.int c1), .val (.int c2), .val (.int c3), .unset, .unset, .unset] [(.int (3 : Int32)), (.ref ni), (.ref ni)])) _
    refine XS.iload X11.here hx rfl (hb hby at_78) rfl ?_
    show Steps p.tables e below (T11.setTop (mkF m 80 #[.val (.int p0), .val (.int p1), .val (.int p2), .val (.long q3), .second, .val (.long q4), .second, .val (.ref ob), .val (.ref oi), .val (.ref nb), .val (.int c0), .val (.int c1), .val (.int c2), .val (.int c3), .unset, .unset, .unset] [(.int c3), (.int (3 : Int32)), (.ref ni), (.ref ni)])) _
    refine st12 _ ?_
    show Steps p.tables e below (T12.setTop (mkF m 81 #[.val (.int p0), .val (.int p1), .val (.int p2), .val (.long q3), .second, .val (.long q4), .second, .val (.ref ob), .val (.ref oi), .val (.ref nb), .val (.int c0), .val (.int c1), .val (.int c2), .val (.int c3), .unset, .unset, .unset] [(.ref ni)])) _
    refine XS.astore X12.here hx rfl (hb hby at_81) rfl rfl (l' := #[.val (.int p0), .val (.int p1), .val (.int p2), .val (.long q3), .second, .val (.long q4), .second, .val (.ref ob), .val (.ref oi), .val (.ref nb), .val (.int c0), .val (.int c1), .val (.int c2), .val (.int c3), .val (.ref ni), .unset, .unset]) rfl ?_
    show Steps p.tables e below (T12.setTop (mkF m 83 #[.val (.int p0), .val (.int p1), .val (.int p2), .val (.long q3), .second, .val (.long q4), .second, .val (.ref ob), .val (.ref oi), .val (.ref nb), .val (.int c0), .val (.int c1), .val (.int c2), .val (.int c3), .val (.ref ni), .unset, .unset] [])) _
    refine st13 _ ?_
    show Steps p.tables e below (T13.setTop (mkF m 86 #[.val (.int p0), .val (.int p1), .val (.int p2), .val (.long q3), .second, .val (.long q4), .second, .val (.ref ob), .val (.ref oi), .val (.ref nb), .val (.int c0), .val (.int c1), .val (.int c2), .val (.int c3), .val (.ref ni), .unset, .unset] [(.ref cm)])) _
    refine XS.dup X13.here hx rfl (hb hby at_86) rfl rfl ?_
    show Steps p.tables e below (T13.setTop (mkF m 87 #[.val (.int p0), .val (.int p1), .val (.int p2), .val (.long q3), .second, .val (.long q4), .second, .val (.ref ob), .val (.ref oi), .val (.ref nb), .val (.int c0), .val (.int c1), .val (.int c2), .val (.int c3), .val (.ref ni), .unset, .unset] [(.ref cm), (.ref cm)])) _
    refine XS.aload X13.here hx rfl (hb hby at_87) rfl rfl ?_
    show Steps p.tables e below (T13.setTop (mkF m 89 #[.val (.int p0), .val (.int p1), .val (.int p2), .val (.long q3), .second, .val (.long q4), .second, .val (.ref ob), .val (.ref oi), .val (.ref nb), .val (.int c0), .val (.int c1), .val (.int c2), .val (.int c3), .val (.ref ni), .unset, .unset] [(.ref ob), (.ref cm), (.ref cm)])) _
    refine XS.bipush X13.here hx rfl (hb hby at_89) ?_
    show Steps p.tables e below (T13.setTop (mkF m 91 #[.val (.int p0), .val (.int p1), .val (.int p2), .val (.long q3), .second, .val (.long q4), .second, .val (.ref ob), .val (.ref oi), .val (.ref nb), .val (.int c0), .val (.int c1), .val (.int c2), .val (.int c3), .val (.ref ni), .unset, .unset] [(.int (7 : Int32)), (.ref ob), (.ref cm), (.ref cm)])) _
    refine XS.bipush X13.here hx rfl (hb hby at_91) ?_
    show Steps p.tables e below (T13.setTop (mkF m 93 #[.val (.int p0), .val (.int p1), .val (.int p2), .val (.long q3), .second, .val (.long q4), .second, .val (.ref ob), .val (.ref oi), .val (.ref nb), .val (.int c0), .val (.int c1), .val (.int c2), .val (.int c3), .val (.ref ni), .unset, .unset] [(.int (9 : Int32)), (.int (7 : Int32)), (.ref ob), (.ref cm), (.ref cm)])) _
    refine XS.aload X13.here hx rfl (hb hby at_93) rfl rfl ?_
    show Steps p.tables e below (T13.setTop (mkF m 95 #[.val (.int p0), .val (.int p1), .val (.int p2), .val (.long q3), .second, .val (.long q4), .second, .val (.ref ob), .val (.ref oi), .val (.ref nb), .val (.int c0), .val (.int c1), .val (.int c2), .val (.int c3), .val (.ref ni), .unset, .unset] [(.ref oi), (.int (9 : Int32)), (.int (7 : Int32)), (.ref ob), (.ref cm), (.ref cm)])) _
    refine XS.iconst X13.here hx rfl (hb hby at_95) ?_
    show Steps p.tables e below (T13.setTop (mkF m 96 #[.val (.int p0), .val (.int p1), .val (.int p2), .val (.long q3), .second, .val (.long q4), .second, .val (.ref ob), .val (.ref oi), .val (.ref nb), .val (.int c0), .val (.int c1), .val (.int c2), .val (.int c3), .val (.ref ni), .unset, .unset] [(.int (3 : Int32)), (.ref oi), (.int (9 : Int32)), (.int (7 : Int32)), (.ref ob), (.ref cm), (.ref cm)])) _
    refine st14.trans ?_
    show Steps p.tables e below (T14.setTop (mkF m 99 #[.val (.int p0), .val (.int p1), .val (.int p2), .val (.long q3), .second, .val (.long q4), .second, .val (.ref ob), .val (.ref oi), .val (.ref nb), .val (.int c0), .val (.int c1), .val (.int c2), .val (.int c3), .val (.ref ni), .unset, .unset] [(.ref cm)])) _
    refine XS.astore X14.here hx rfl (hb hby at_99) rfl rfl (l' := #[.val (.int p0), .val (.int p1), .val (.int p2), .val (.long q3), .second, .val (.long q4), .second, .val (.ref ob), .val (.ref oi), .val (.ref nb), .val (.int c0), .val (.int c1), .val (.int c2), .val (.int c3), .val (.ref ni), .val (.ref cm), .unset]) rfl ?_
    show Steps p.tables e below (T14.setTop (mkF m 101 #[.val (.int p0), .val (.int p1), .val (.int p2), .val (.long q3), .second, .val (.long q4), .second, .val (.ref ob), .val (.ref oi), .val (.ref nb), .val (.int c0), .val (.int c1), .val (.int c2), .val (.int c3), .val (.ref ni), .val (.ref cm), .unset] [])) _
    refine XS.aload X14.here hx rfl (hb hby at_101) rfl rfl ?_
    show Steps p.tables e below (T14.setTop (mkF m 103 #[.val (.int p0), .val (.int p1), .val (.int p2), .val (.long q3), .second, .val (.long q4), .second, .val (.ref ob), .val (.ref oi), .val (.ref nb), .val (.int c0), .val (.int c1), .val (.int c2), .val (.int c3), .val (.ref ni), .val (.ref cm), .unset] [(.ref cm)])) _
    refine XS.aload X14.here hx rfl (hb hby at_103) rfl rfl ?_
    show Steps p.tables e below (T14.setTop (mkF m 105 #[.val (.int p0), .val (.int p1), .val (.int p2), .val (.long q3), .second, .val (.long q4), .second, .val (.ref ob), .val (.ref oi), .val (.ref nb), .val (.int c0), .val (.int c1), .val (.int c2), .val (.int c3), .val (.ref ni), .val (.ref cm), .unset] [(.ref nb), (.ref cm)])) _
    refine XS.iloadN X14.here hx rfl (hb hby at_105) rfl ?_
    show Steps p.tables e below (T14.setTop (mkF m 106 #[.val (.int p0), .val (.int p1), .val (.int p2), .val (.long q3), .second, .val (.long q4), .second, .val (.ref ob), .val (.ref oi), .val (.ref nb), .val (.int c0), .val (.int c1), .val (.int c2), .val (.int c3), .val (.ref ni), .val (.ref cm), .unset] [(.int p0), (.ref nb), (.ref cm)])) _
    refine XS.iloadN X14.here hx rfl (hb hby at_106) rfl ?_
    show Steps p.tables e below (T14.setTop (mkF m 107 #[.val (.int p0), .val (.int p1), .val (.int p2), .val (.long q3), .second, .val (.long q4), .second, .val (.ref ob), .val (.ref oi), .val (.ref nb), .val (.int c0), .val (.int c1), .val (.int c2), .val (.int c3), .val (.ref ni), .val (.ref cm), .unset] [(.int p1), (.int p0), (.ref nb), (.ref cm)])) _
    refine XS.aload X14.here hx rfl (hb hby at_107) rfl rfl ?_
    show Steps p.tables e below (T14.setTop (mkF m 109 #[.val (.int p0), .val (.int p1), .val (.int p2), .val (.long q3), .second, .val (.long q4), .second, .val (.ref ob), .val (.ref oi), .val (.ref nb), .val (.int c0), .val (.int c1), .val (.int c2), .val (.int c3), .val (.ref ni), .val (.ref cm), .unset] [(.ref ni), (.int p1), (.int p0), (.ref nb), (.ref cm)])) _
    refine XS.iloadN X14.here hx rfl (hb hby at_109) rfl ?_
    show Steps p.tables e below (T14.setTop (mkF m 110 #[.val (.int p0), .val (.int p1), .val (.int p2), .val (.long q3), .second, .val (.long q4), .second, .val (.ref ob), .val (.ref oi), .val (.ref nb), .val (.int c0), .val (.int c1), .val (.int c2), .val (.int c3), .val (.ref ni), .val (.ref cm), .unset] [(.int p2), (.ref ni), (.int p1), (.int p0), (.ref nb), (.ref cm)])) _
    refine st15.trans ?_
    show Steps p.tables e below (T15.setTop (mkF m 113 #[.val (.int p0), .val (.int p1), .val (.int p2), .val (.long q3), .second, .val (.long q4), .second, .val (.ref ob), .val (.ref oi), .val (.ref nb), .val (.int c0), .val (.int c1), .val (.int c2), .val (.int c3), .val (.ref ni), .val (.ref cm), .unset] [])) _
    refine XS.aload X15.here hx rfl (hb hby at_113) rfl rfl ?_
    show Steps p.tables e below (T15.setTop (mkF m 115 #[.val (.int p0), .val (.int p1), .val (.int p2), .val (.long q3), .second, .val (.long q4), .second, .val (.ref ob), .val (.ref oi), .val (.ref nb), .val (.int c0), .val (.int c1), .val (.int c2), .val (.int c3), .val (.ref ni), .val (.ref cm), .unset] [(.ref cm)])) _
    refine st16.trans ?_
    show Steps p.tables e below (T16.setTop (mkF m 118 #[.val (.int p0), .val (.int p1), .val (.int p2), .val (.long q3), .second, .val (.long q4), .second, .val (.ref ob), .val (.ref oi), .val (.ref nb), .val (.int c0), .val (.int c1), .val (.int c2), .val (.int c3), .val (.ref ni), .val (.ref cm), .unset] [(.ref nb)])) _
    refine XS.aload X16.here hx rfl (hb hby at_118) rfl rfl ?_
    show Steps p.tables e below (T16.setTop (mkF m 120 #[.val (.int p0), .val (.int p1), .val (.int p2), .val (.long q3), .second, .val (.long q4), .second, .val (.ref ob), .val (.ref oi), .val (.ref nb), .val (.int c0), .val (.int c1), .val (.int c2), .val (.int c3), .val (.ref ni), .val (.ref cm), .unset] [(.ref nb), (.ref nb)])) _
    refine Jvm.RoadKit.acmp (g := (mkF m 120 #[.val (.int p0), .val (.int p1), .val (.int p2), .val (.long q3), .second, .val (.long q4), .second, .val (.ref ob), .val (.ref oi), .val (.ref nb), .val (.int c0), .val (.int c1), .val (.int c2), .val (.int c3), .val (.ref ni), .val (.ref cm), .unset] [(.ref nb), (.ref nb)])) X16 hx rfl rfl rfl (pc0 := 120) (pc' := 123) (same := true) rfl (hb hby at_120) rfl (decide_eq_true rfl) (by decide) (by decide) ?_
    show Steps p.tables e below (T16.setTop (mkF m 123 #[.val (.int p0), .val (.int p1), .val (.int p2), .val (.long q3), .second, .val (.long q4), .second, .val (.ref ob), .val (.ref oi), .val (.ref nb), .val (.int c0), .val (.int c1), .val (.int c2), .val (.int c3), .val (.ref ni), .val (.ref cm), .unset] [])) _
    refine XS.iconst X16.here hx rfl (hb hby at_123) ?_
    show Steps p.tables e below (T16.setTop (mkF m 124 #[.val (.int p0), .val (.int p1), .val (.int p2), .val (.long q3), .second, .val (.long q4), .second, .val (.ref ob), .val (.ref oi), .val (.ref nb), .val (.int c0), .val (.int c1), .val (.int c2), .val (.int c3), .val (.ref ni), .val (.ref cm), .unset] [(.int (1 : Int32))])) _
    refine XS.goto X16.here hx rfl (pc0 := 124) (pc' := 128) rfl (hb hby at_124) (by decide) (by decide) ?_
    show Steps p.tables e below (T16.setTop (mkF m 128 #[.val (.int p0), .val (.int p1), .val (.int p2), .val (.long q3), .second, .val (.long q4), .second, .val (.ref ob), .val (.ref oi), .val (.ref nb), .val (.int c0), .val (.int c1), .val (.int c2), .val (.int c3), .val (.ref ni), .val (.ref cm), .unset] [(.int (1 : Int32))])) _
    refine XS.istore X16.here hx rfl (hb hby at_128) rfl (l' := #[.val (.int p0), .val (.int p1), .val (.int p2), .val (.long q3), .second, .val (.long q4), .second, .val (.ref ob), .val (.ref oi), .val (.ref nb), .val (.int c0), .val (.int c1), .val (.int c2), .val (.int c3), .val (.ref ni), .val (.ref cm), .val (.int (1 : Int32))]) rfl ?_
    show Steps p.tables e below (T16.setTop (mkF m 130 #[.val (.int p0), .val (.int p1), .val (.int p2), .val (.long q3), .second, .val (.long q4), .second, .val (.ref ob), .val (.ref oi), .val (.ref nb), .val (.int c0), .val (.int c1), .val (.int c2), .val (.int c3), .val (.ref ni), .val (.ref cm), .val (.int (1 : Int32))] [])) _
    refine XS.iload X16.here hx rfl (hb hby at_130) rfl ?_
    show Steps p.tables e below (T16.setTop (mkF m 132 #[.val (.int p0), .val (.int p1), .val (.int p2), .val (.long q3), .second, .val (.long q4), .second, .val (.ref ob), .val (.ref oi), .val (.ref nb), .val (.int c0), .val (.int c1), .val (.int c2), .val (.int c3), .val (.ref ni), .val (.ref cm), .val (.int (1 : Int32))] [(.int (1 : Int32))])) _
    refine XS.ifNo X16.here hx rfl (hb hby at_132) rfl ((if0 _ _).trans (feq (by decide : ¬ ((1 : Int32) = (0 : Int32)))).1) ?_
    show Steps p.tables e below (T16.setTop (mkF m 135 #[.val (.int p0), .val (.int p1), .val (.int p2), .val (.long q3), .second, .val (.long q4), .second, .val (.ref ob), .val (.ref oi), .val (.ref nb), .val (.int c0), .val (.int c1), .val (.int c2), .val (.int c3), .val (.ref ni), .val (.ref cm), .val (.int (1 : Int32))] [])) _
    refine XS.aload X16.here hx rfl (hb hby at_135) rfl rfl ?_
    show Steps p.tables e below (T16.setTop (mkF m 137 #[.val (.int p0), .val (.int p1), .val (.int p2), .val (.long q3), .second, .val (.long q4), .second, .val (.ref ob), .val (.ref oi), .val (.ref nb), .val (.int c0), .val (.int c1), .val (.int c2), .val (.int c3), .val (.ref ni), .val (.ref cm), .val (.int (1 : Int32))] [(.ref cm)])) _
    refine st17.trans ?_
    show Steps p.tables e below (T17.setTop (mkF m 140 #[.val (.int p0), .val (.int p1), .val (.int p2), .val (.long q3), .second, .val (.long q4), .second, .val (.ref ob), .val (.ref oi), .val (.ref nb), .val (.int c0), .val (.int c1), .val (.int c2), .val (.int c3), .val (.ref ni), .val (.ref cm), .val (.int (1 : Int32))] [(.int p0)])) _
    refine XS.iloadN X17.here hx rfl (hb hby at_140) rfl ?_
    show Steps p.tables e below (T17.setTop (mkF m 141 #[.val (.int p0), .val (.int p1), .val (.int p2), .val (.long q3), .second, .val (.long q4), .second, .val (.ref ob), .val (.ref oi), .val (.ref nb), .val (.int c0), .val (.int c1), .val (.int c2), .val (.int c3), .val (.ref ni), .val (.ref cm), .val (.int (1 : Int32))] [(.int p0), (.int p0)])) _
    refine XS.icmpNo X17.here hx rfl (hb hby at_141) rfl (teq (rfl : p0 = p0)).2 ?_
    show Steps p.tables e below (T17.setTop (mkF m 144 #[.val (.int p0), .val (.int p1), .val (.int p2), .val (.long q3), .second, .val (.long q4), .second, .val (.ref ob), .val (.ref oi), .val (.ref nb), .val (.int c0), .val (.int c1), .val (.int c2), .val (.int c3), .val (.ref ni), .val (.ref cm), .val (.int (1 : Int32))] [])) _
    refine XS.iconst X17.here hx rfl (hb hby at_144) ?_
    show Steps p.tables e below (T17.setTop (mkF m 145 #[.val (.int p0), .val (.int p1), .val (.int p2), .val (.long q3), .second, .val (.long q4), .second, .val (.ref ob), .val (.ref oi), .val (.ref nb), .val (.int c0), .val (.int c1), .val (.int c2), .val (.int c3), .val (.ref ni), .val (.ref cm), .val (.int (1 : Int32))] [(.int (1 : Int32))])) _
    refine XS.goto X17.here hx rfl (pc0 := 145) (pc' := 149) rfl (hb hby at_145) (by decide) (by decide) ?_
    show Steps p.tables e below (T17.setTop (mkF m 149 #[.val (.int p0), .val (.int p1), .val (.int p2), .val (.long q3), .second, .val (.long q4), .second, .val (.ref ob), .val (.ref oi), .val (.ref nb), .val (.int c0), .val (.int c1), .val (.int c2), .val (.int c3), .val (.ref ni), .val (.ref cm), .val (.int (1 : Int32))] [(.int (1 : Int32))])) _
    refine XS.istore X17.here hx rfl (hb hby at_149) rfl (l' := #[.val (.int p0), .val (.int p1), .val (.int p2), .val (.long q3), .second, .val (.long q4), .second, .val (.ref ob), .val (.ref oi), .val (.ref nb), .val (.int c0), .val (.int c1), .val (.int c2), .val (.int c3), .val (.ref ni), .val (.ref cm), .val (.int (1 : Int32))]) rfl ?_
    show Steps p.tables e below (T17.setTop (mkF m 151 #[.val (.int p0), .val (.int p1), .val (.int p2), .val (.long q3), .second, .val (.long q4), .second, .val (.ref ob), .val (.ref oi), .val (.ref nb), .val (.int c0), .val (.int c1), .val (.int c2), .val (.int c3), .val (.ref ni), .val (.ref cm), .val (.int (1 : Int32))] [])) _
    refine XS.iload X17.here hx rfl (hb hby at_151) rfl ?_
    show Steps p.tables e below (T17.setTop (mkF m 153 #[.val (.int p0), .val (.int p1), .val (.int p2), .val (.long q3), .second, .val (.long q4), .second, .val (.ref ob), .val (.ref oi), .val (.ref nb), .val (.int c0), .val (.int c1), .val (.int c2), .val (.int c3), .val (.ref ni), .val (.ref cm), .val (.int (1 : Int32))] [(.int (1 : Int32))])) _
    refine XS.ifNo X17.here hx rfl (hb hby at_153) rfl ((if0 _ _).trans (feq (by decide : ¬ ((1 : Int32) = (0 : Int32)))).1) ?_
    show Steps p.tables e below (T17.setTop (mkF m 156 #[.val (.int p0), .val (.int p1), .val (.int p2), .val (.long q3), .second, .val (.long q4), .second, .val (.ref ob), .val (.ref oi), .val (.ref nb), .val (.int c0), .val (.int c1), .val (.int c2), .val (.int c3), .val (.ref ni), .val (.ref cm), .val (.int (1 : Int32))] [])) _
    refine XS.aload X17.here hx rfl (hb hby at_156) rfl rfl ?_
    show Steps p.tables e below (T17.setTop (mkF m 158 #[.val (.int p0), .val (.int p1), .val (.int p2), .val (.long q3), .second, .val (.long q4), .second, .val (.ref ob), .val (.ref oi), .val (.ref nb), .val (.int c0), .val (.int c1), .val (.int c2), .val (.int c3), .val (.ref ni), .val (.ref cm), .val (.int (1 : Int32))] [(.ref cm)])) _
    refine st18.trans ?_
    show Steps p.tables e below (T18.setTop (mkF m 161 #[.val (.int p0), .val (.int p1), .val (.int p2), .val (.long q3), .second, .val (.long q4), .second, .val (.ref ob), .val (.ref oi), .val (.ref nb), .val (.int c0), .val (.int c1), .val (.int c2), .val (.int c3), .val (.ref ni), .val (.ref cm), .val (.int (1 : Int32))] [(.int p1)])) _
    refine XS.iloadN X18.here hx rfl (hb hby at_161) rfl ?_
    show Steps p.tables e below (T18.setTop (mkF m 162 #[.val (.int p0), .val (.int p1), .val (.int p2), .val (.long q3), .second, .val (.long q4), .second, .val (.ref ob), .val (.ref oi), .val (.ref nb), .val (.int c0), .val (.int c1), .val (.int c2), .val (.int c3), .val (.ref ni), .val (.ref cm), .val (.int (1 : Int32))] [(.int p1), (.int p1)])) _
    refine XS.icmpNo X18.here hx rfl (hb hby at_162) rfl (teq (rfl : p1 = p1)).2 ?_
    show Steps p.tables e below (T18.setTop (mkF m 165 #[.val (.int p0), .val (.int p1), .val (.int p2), .val (.long q3), .second, .val (.long q4), .second, .val (.ref ob), .val (.ref oi), .val (.ref nb), .val (.int c0), .val (.int c1), .val (.int c2), .val (.int c3), .val (.ref ni), .val (.ref cm), .val (.int (1 : Int32))] [])) _
    refine XS.iconst X18.here hx rfl (hb hby at_165) ?_
    show Steps p.tables e below (T18.setTop (mkF m 166 #[.val (.int p0), .val (.int p1), .val (.int p2), .val (.long q3), .second, .val (.long q4), .second, .val (.ref ob), .val (.ref oi), .val (.ref nb), .val (.int c0), .val (.int c1), .val (.int c2), .val (.int c3), .val (.ref ni), .val (.ref cm), .val (.int (1 : Int32))] [(.int (1 : Int32))])) _
    refine XS.goto X18.here hx rfl (pc0 := 166) (pc' := 170) rfl (hb hby at_166) (by decide) (by decide) ?_
    show Steps p.tables e below (T18.setTop (mkF m 170 #[.val (.int p0), .val (.int p1), .val (.int p2), .val (.long q3), .second, .val (.long q4), .second, .val (.ref ob), .val (.ref oi), .val (.ref nb), .val (.int c0), .val (.int c1), .val (.int c2), .val (.int c3), .val (.ref ni), .val (.ref cm), .val (.int (1 : Int32))] [(.int (1 : Int32))])) _
    refine XS.istore X18.here hx rfl (hb hby at_170) rfl (l' := #[.val (.int p0), .val (.int p1), .val (.int p2), .val (.long q3), .second, .val (.long q4), .second, .val (.ref ob), .val (.ref oi), .val (.ref nb), .val (.int c0), .val (.int c1), .val (.int c2), .val (.int c3), .val (.ref ni), .val (.ref cm), .val (.int (1 : Int32))]) rfl ?_
    show Steps p.tables e below (T18.setTop (mkF m 172 #[.val (.int p0), .val (.int p1), .val (.int p2), .val (.long q3), .second, .val (.long q4), .second, .val (.ref ob), .val (.ref oi), .val (.ref nb), .val (.int c0), .val (.int c1), .val (.int c2), .val (.int c3), .val (.ref ni), .val (.ref cm), .val (.int (1 : Int32))] [])) _
    refine XS.iload X18.here hx rfl (hb hby at_172) rfl ?_
    show Steps p.tables e below (T18.setTop (mkF m 174 #[.val (.int p0), .val (.int p1), .val (.int p2), .val (.long q3), .second, .val (.long q4), .second, .val (.ref ob), .val (.ref oi), .val (.ref nb), .val (.int c0), .val (.int c1), .val (.int c2), .val (.int c3), .val (.ref ni), .val (.ref cm), .val (.int (1 : Int32))] [(.int (1 : Int32))])) _
    refine XS.ifNo X18.here hx rfl (hb hby at_174) rfl ((if0 _ _).trans (feq (by decide : ¬ ((1 : Int32) = (0 : Int32)))).1) ?_
    show Steps p.tables e below (T18.setTop (mkF m 177 #[.val (.int p0), .val (.int p1), .val (.int p2), .val (.long q3), .second, .val (.long q4), .second, .val (.ref ob), .val (.ref oi), .val (.ref nb), .val (.int c0), .val (.int c1), .val (.int c2), .val (.int c3), .val (.ref ni), .val (.ref cm), .val (.int (1 : Int32))] [])) _
    refine XS.aload X18.here hx rfl (hb hby at_177) rfl rfl ?_
    show Steps p.tables e below (T18.setTop (mkF m 179 #[.val (.int p0), .val (.int p1), .val (.int p2), .val (.long q3), .second, .val (.long q4), .second, .val (.ref ob), .val (.ref oi), .val (.ref nb), .val (.int c0), .val (.int c1), .val (.int c2), .val (.int c3), .val (.ref ni), .val (.ref cm), .val (.int (1 : Int32))] [(.ref cm)])) _
    refine st19.trans ?_
    show Steps p.tables e below (T19.setTop (mkF m 182 #[.val (.int p0), .val (.int p1), .val (.int p2), .val (.long q3), .second, .val (.long q4), .second, .val (.ref ob), .val (.ref oi), .val (.ref nb), .val (.int c0), .val (.int c1), .val (.int c2), .val (.int c3), .val (.ref ni), .val (.ref cm), .val (.int (1 : Int32))] [(.int p2)])) _
    refine XS.iloadN X19.here hx rfl (hb hby at_182) rfl ?_
    show Steps p.tables e below (T19.setTop (mkF m 183 #[.val (.int p0), .val (.int p1), .val (.int p2), .val (.long q3), .second, .val (.long q4), .second, .val (.ref ob), .val (.ref oi), .val (.ref nb), .val (.int c0), .val (.int c1), .val (.int c2), .val (.int c3), .val (.ref ni), .val (.ref cm), .val (.int (1 : Int32))] [(.int p2), (.int p2)])) _
    refine XS.icmpNo X19.here hx rfl (hb hby at_183) rfl (teq (rfl : p2 = p2)).2 ?_
    show Steps p.tables e below (T19.setTop (mkF m 186 #[.val (.int p0), .val (.int p1), .val (.int p2), .val (.long q3), .second, .val (.long q4), .second, .val (.ref ob), .val (.ref oi), .val (.ref nb), .val (.int c0), .val (.int c1), .val (.int c2), .val (.int c3), .val (.ref ni), .val (.ref cm), .val (.int (1 : Int32))] [])) _
    refine XS.iconst X19.here hx rfl (hb hby at_186) ?_
    show Steps p.tables e below (T19.setTop (mkF m 187 #[.val (.int p0), .val (.int p1), .val (.int p2), .val (.long q3), .second, .val (.long q4), .second, .val (.ref ob), .val (.ref oi), .val (.ref nb), .val (.int c0), .val (.int c1), .val (.int c2), .val (.int c3), .val (.ref ni), .val (.ref cm), .val (.int (1 : Int32))] [(.int (1 : Int32))])) _
    refine XS.goto X19.here hx rfl (pc0 := 187) (pc' := 191) rfl (hb hby at_187) (by decide) (by decide) ?_
    show Steps p.tables e below (T19.setTop (mkF m 191 #[.val (.int p0), .val (.int p1), .val (.int p2), .val (.long q3), .second, .val (.long q4), .second, .val (.ref ob), .val (.ref oi), .val (.ref nb), .val (.int c0), .val (.int c1), .val (.int c2), .val (.int c3), .val (.ref ni), .val (.ref cm), .val (.int (1 : Int32))] [(.int (1 : Int32))])) _
    refine XS.istore X19.here hx rfl (hb hby at_191) rfl (l' := #[.val (.int p0), .val (.int p1), .val (.int p2), .val (.long q3), .second, .val (.long q4), .second, .val (.ref ob), .val (.ref oi), .val (.ref nb), .val (.int c0), .val (.int c1), .val (.int c2), .val (.int c3), .val (.ref ni), .val (.ref cm), .val (.int (1 : Int32))]) rfl ?_
    show Steps p.tables e below (T19.setTop (mkF m 193 #[.val (.int p0), .val (.int p1), .val (.int p2), .val (.long q3), .second, .val (.long q4), .second, .val (.ref ob), .val (.ref oi), .val (.ref nb), .val (.int c0), .val (.int c1), .val (.int c2), .val (.int c3), .val (.ref ni), .val (.ref cm), .val (.int (1 : Int32))] [])) _
    refine XS.iload X19.here hx rfl (hb hby at_193) rfl ?_
    show Steps p.tables e below (T19.setTop (mkF m 195 #[.val (.int p0), .val (.int p1), .val (.int p2), .val (.long q3), .second, .val (.long q4), .second, .val (.ref ob), .val (.ref oi), .val (.ref nb), .val (.int c0), .val (.int c1), .val (.int c2), .val (.int c3), .val (.ref ni), .val (.ref cm), .val (.int (1 : Int32))] [(.int (1 : Int32))])) _
    refine XS.ifNo X19.here hx rfl (hb hby at_195) rfl ((if0 _ _).trans (feq (by decide : ¬ ((1 : Int32) = (0 : Int32)))).1) ?_
    show Steps p.tables e below (T19.setTop (mkF m 198 #[.val (.int p0), .val (.int p1), .val (.int p2), .val (.long q3), .second, .val (.long q4), .second, .val (.ref ob), .val (.ref oi), .val (.ref nb), .val (.int c0), .val (.int c1), .val (.int c2), .val (.int c3), .val (.ref ni), .val (.ref cm), .val (.int (1 : Int32))] [])) _
    refine XS.aload X19.here hx rfl (hb hby at_198) rfl rfl ?_
    show Steps p.tables e below (T19.setTop (mkF m 200 #[.val (.int p0), .val (.int p1), .val (.int p2), .val (.long q3), .second, .val (.long q4), .second, .val (.ref ob), .val (.ref oi), .val (.ref nb), .val (.int c0), .val (.int c1), .val (.int c2), .val (.int c3), .val (.ref ni), .val (.ref cm), .val (.int (1 : Int32))] [(.ref cm)])) _
    refine XS.iconst X19.here hx rfl (hb hby at_200) ?_
    show Steps p.tables e below (T19.setTop (mkF m 201 #[.val (.int p0), .val (.int p1), .val (.int p2), .val (.long q3), .second, .val (.long q4), .second, .val (.ref ob), .val (.ref oi), .val (.ref nb), .val (.int c0), .val (.int c1), .val (.int c2), .val (.int c3), .val (.ref ni), .val (.ref cm), .val (.int (1 : Int32))] [(.int (0 : Int32)), (.ref cm)])) _
    refine st20.trans ?_
    show Steps p.tables e below (T20.setTop (mkF m 204 #[.val (.int p0), .val (.int p1), .val (.int p2), .val (.long q3), .second, .val (.long q4), .second, .val (.ref ob), .val (.ref oi), .val (.ref nb), .val (.int c0), .val (.int c1), .val (.int c2), .val (.int c3), .val (.ref ni), .val (.ref cm), .val (.int (1 : Int32))] [(.int (p0 + c0))])) _
    refine XS.iloadN X20.here hx rfl (hb hby at_204) rfl ?_
    show Steps p.tables e below (T20.setTop (mkF m 205 #[.val (.int p0), .val (.int p1), .val (.int p2), .val (.long q3), .second, .val (.long q4), .second, .val (.ref ob), .val (.ref oi), .val (.ref nb), .val (.int c0), .val (.int c1), .val (.int c2), .val (.int c3), .val (.ref ni), .val (.ref cm), .val (.int (1 : Int32))] [(.int p0), (.int (p0 + c0))])) _
    refine XS.iload X20.here hx rfl (hb hby at_205) rfl ?_
    show Steps p.tables e below (T20.setTop (mkF m 207 #[.val (.int p0), .val (.int p1), .val (.int p2), .val (.long q3), .second, .val (.long q4), .second, .val (.ref ob), .val (.ref oi), .val (.ref nb), .val (.int c0), .val (.int c1), .val (.int c2), .val (.int c3), .val (.ref ni), .val (.ref cm), .val (.int (1 : Int32))] [(.int c0), (.int p0), (.int (p0 + c0))])) _
    refine XS.iadd X20.here hx rfl (hb hby at_207) rfl ?_
    show Steps p.tables e below (T20.setTop (mkF m 208 #[.val (.int p0), .val (.int p1), .val (.int p2), .val (.long q3), .second, .val (.long q4), .second, .val (.ref ob), .val (.ref oi), .val (.ref nb), .val (.int c0), .val (.int c1), .val (.int c2), .val (.int c3), .val (.ref ni), .val (.ref cm), .val (.int (1 : Int32))] [(.int (p0 + c0)), (.int (p0 + c0))])) _
    refine XS.icmpNo X20.here hx rfl (hb hby at_208) rfl (teq (rfl : (p0 + c0) = (p0 + c0))).2 ?_
    show Steps p.tables e below (T20.setTop (mkF m 211 #[.val (.int p0), .val (.int p1), .val (.int p2), .val (.long q3), .second, .val (.long q4), .second, .val (.ref ob), .val (.ref oi), .val (.ref nb), .val (.int c0), .val (.int c1), .val (.int c2), .val (.int c3), .val (.ref ni), .val (.ref cm), .val (.int (1 : Int32))] [])) _
    refine XS.iconst X20.here hx rfl (hb hby at_211) ?_
    show Steps p.tables e below (T20.setTop (mkF m 212 #[.val (.int p0), .val (.int p1), .val (.int p2), .val (.long q3), .second, .val (.long q4), .second, .val (.ref ob), .val (.ref oi), .val (.ref nb), .val (.int c0), .val (.int c1), .val (.int c2), .val (.int c3), .val (.ref ni), .val (.ref cm), .val (.int (1 : Int32))] [(.int (1 : Int32))])) _
    refine XS.goto X20.here hx rfl (pc0 := 212) (pc' := 216) rfl (hb hby at_212) (by decide) (by decide) ?_
    show Steps p.tables e below (T20.setTop (mkF m 216 #[.val (.int p0), .val (.int p1), .val (.int p2), .val (.long q3), .second, .val (.long q4), .second, .val (.ref ob), .val (.ref oi), .val (.ref nb), .val (.int c0), .val (.int c1), .val (.int c2), .val (.int c3), .val (.ref ni), .val (.ref cm), .val (.int (1 : Int32))] [(.int (1 : Int32))])) _
    refine XS.istore X20.here hx rfl (hb hby at_216) rfl (l' := #[.val (.int p0), .val (.int p1), .val (.int p2), .val (.long q3), .second, .val (.long q4), .second, .val (.ref ob), .val (.ref oi), .val (.ref nb), .val (.int c0), .val (.int c1), .val (.int c2), .val (.int c3), .val (.ref ni), .val (.ref cm), .val (.int (1 : Int32))]) rfl ?_
    show Steps p.tables e below (T20.setTop (mkF m 218 #[.val (.int p0), .val (.int p1), .val (.int p2), .val (.long q3), .second, .val (.long q4), .second, .val (.ref ob), .val (.ref oi), .val (.ref nb), .val (.int c0), .val (.int c1), .val (.int c2), .val (.int c3), .val (.ref ni), .val (.ref cm), .val (.int (1 : Int32))] [])) _
    refine XS.iload X20.here hx rfl (hb hby at_218) rfl ?_
    show Steps p.tables e below (T20.setTop (mkF m 220 #[.val (.int p0), .val (.int p1), .val (.int p2), .val (.long q3), .second, .val (.long q4), .second, .val (.ref ob), .val (.ref oi), .val (.ref nb), .val (.int c0), .val (.int c1), .val (.int c2), .val (.int c3), .val (.ref ni), .val (.ref cm), .val (.int (1 : Int32))] [(.int (1 : Int32))])) _
    refine XS.ifNo X20.here hx rfl (hb hby at_220) rfl ((if0 _ _).trans (feq (by decide : ¬ ((1 : Int32) = (0 : Int32)))).1) ?_
    show Steps p.tables e below (T20.setTop (mkF m 223 #[.val (.int p0), .val (.int p1), .val (.int p2), .val (.long q3), .second, .val (.long q4), .second, .val (.ref ob), .val (.ref oi), .val (.ref nb), .val (.int c0), .val (.int c1), .val (.int c2), .val (.int c3), .val (.ref ni), .val (.ref cm), .val (.int (1 : Int32))] [])) _
    refine XS.aload X20.here hx rfl (hb hby at_223) rfl rfl ?_
    show Steps p.tables e below (T20.setTop (mkF m 225 #[.val (.int p0), .val (.int p1), .val (.int p2), .val (.long q3), .second, .val (.long q4), .second, .val (.ref ob), .val (.ref oi), .val (.ref nb), .val (.int c0), .val (.int c1), .val (.int c2), .val (.int c3), .val (.ref ni), .val (.ref cm), .val (.int (1 : Int32))] [(.ref cm)])) _
    refine XS.iconst X20.here hx rfl (hb hby at_225) ?_
    show Steps p.tables e below (T20.setTop (mkF m 226 #[.val (.int p0), .val (.int p1), .val (.int p2), .val (.long q3), .second, .val (.long q4), .second, .val (.ref ob), .val (.ref oi), .val (.ref nb), .val (.int c0), .val (.int c1), .val (.int c2), .val (.int c3), .val (.ref ni), .val (.ref cm), .val (.int (1 : Int32))] [(.int (0 : Int32)), (.ref cm)])) _
    refine st21.trans ?_
    show Steps p.tables e below (T21.setTop (mkF m 229 #[.val (.int p0), .val (.int p1), .val (.int p2), .val (.long q3), .second, .val (.long q4), .second, .val (.ref ob), .val (.ref oi), .val (.ref nb), .val (.int c0), .val (.int c1), .val (.int c2), .val (.int c3), .val (.ref ni), .val (.ref cm), .val (.int (1 : Int32))] [(.int (p0 + c1))])) _
    refine XS.iloadN X21.here hx rfl (hb hby at_229) rfl ?_
    show Steps p.tables e below (T21.setTop (mkF m 230 #[.val (.int p0), .val (.int p1), .val (.int p2), .val (.long q3), .second, .val (.long q4), .second, .val (.ref ob), .val (.ref oi), .val (.ref nb), .val (.int c0), .val (.int c1), .val (.int c2), .val (.int c3), .val (.ref ni), .val (.ref cm), .val (.int (1 : Int32))] [(.int p0), (.int (p0 + c1))])) _
    refine XS.iload X21.here hx rfl (hb hby at_230) rfl ?_
    show Steps p.tables e below (T21.setTop (mkF m 232 #[.val (.int p0), .val (.int p1), .val (.int p2), .val (.long q3), .second, .val (.long q4), .second, .val (.ref ob), .val (.ref oi), .val (.ref nb), .val (.int c0), .val (.int c1), .val (.int c2), .val (.int c3), .val (.ref ni), .val (.ref cm), .val (.int (1 : Int32))] [(.int c1), (.int p0), (.int (p0 + c1))])) _
    refine XS.iadd X21.here hx rfl (hb hby at_232) rfl ?_
    show Steps p.tables e below (T21.setTop (mkF m 233 #[.val (.int p0), .val (.int p1), .val (.int p2), .val (.long q3), .second, .val (.long q4), .second, .val (.ref ob), .val (.ref oi), .val (.ref nb), .val (.int c0), .val (.int c1), .val (.int c2), .val (.int c3), .val (.ref ni), .val (.ref cm), .val (.int (1 : Int32))] [(.int (p0 + c1)), (.int (p0 + c1))])) _
    refine XS.icmpNo X21.here hx rfl (hb hby at_233) rfl (teq (rfl : (p0 + c1) = (p0 + c1))).2 ?_
    show Steps p.tables e below (T21.setTop (mkF m 236 #[.val (.int p0), .val (.int p1), .val (.int p2), .val (.long q3), .second, .val (.long q4), .second, .val (.ref ob), .val (.ref oi), .val (.ref nb), .val (.int c0), .val (.int c1), .val (.int c2), .val (.int c3), .val (.ref ni), .val (.ref cm), .val (.int (1 : Int32))] [])) _
    refine XS.iconst X21.here hx rfl (hb hby at_236) ?_
    show Steps p.tables e below (T21.setTop (mkF m 237 #[.val (.int p0), .val (.int p1), .val (.int p2), .val (.long q3), .second, .val (.long q4), .second, .val (.ref ob), .val (.ref oi), .val (.ref nb), .val (.int c0), .val (.int c1), .val (.int c2), .val (.int c3), .val (.ref ni), .val (.ref cm), .val (.int (1 : Int32))] [(.int (1 : Int32))])) _
    refine XS.goto X21.here hx rfl (pc0 := 237) (pc' := 241) rfl (hb hby at_237) (by decide) (by decide) ?_
    show Steps p.tables e below (T21.setTop (mkF m 241 #[.val (.int p0), .val (.int p1), .val (.int p2), .val (.long q3), .second, .val (.long q4), .second, .val (.ref ob), .val (.ref oi), .val (.ref nb), .val (.int c0), .val (.int c1), .val (.int c2), .val (.int c3), .val (.ref ni), .val (.ref cm), .val (.int (1 : Int32))] [(.int (1 : Int32))])) _
    refine XS.istore X21.here hx rfl (hb hby at_241) rfl (l' := #[.val (.int p0), .val (.int p1), .val (.int p2), .val (.long q3), .second, .val (.long q4), .second, .val (.ref ob), .val (.ref oi), .val (.ref nb), .val (.int c0), .val (.int c1), .val (.int c2), .val (.int c3), .val (.ref ni), .val (.ref cm), .val (.int (1 : Int32))]) rfl ?_
    show Steps p.tables e below (T21.setTop (mkF m 243 #[.val (.int p0), .val (.int p1), .val (.int p2), .val (.long q3), .second, .val (.long q4), .second, .val (.ref ob), .val (.ref oi), .val (.ref nb), .val (.int c0), .val (.int c1), .val (.int c2), .val (.int c3), .val (.ref ni), .val (.ref cm), .val (.int (1 : Int32))] [])) _
    refine XS.iload X21.here hx rfl (hb hby at_243) rfl ?_
    show Steps p.tables e below (T21.setTop (mkF m 245 #[.val (.int p0), .val (.int p1), .val (.int p2), .val (.long q3), .second, .val (.long q4), .second, .val (.ref ob), .val (.ref oi), .val (.ref nb), .val (.int c0), .val (.int c1), .val (.int c2), .val (.int c3), .val (.ref ni), .val (.ref cm), .val (.int (1 : Int32))] [(.int (1 : Int32))])) _
    refine XS.ifNo X21.here hx rfl (hb hby at_245) rfl ((if0 _ _).trans (feq (by decide : ¬ ((1 : Int32) = (0 : Int32)))).1) ?_
    show Steps p.tables e below (T21.setTop (mkF m 248 #[.val (.int p0), .val (.int p1), .val (.int p2), .val (.long q3), .second, .val (.long q4), .second, .val (.ref ob), .val (.ref oi), .val (.ref nb), .val (.int c0), .val (.int c1), .val (.int c2), .val (.int c3), .val (.ref ni), .val (.ref cm), .val (.int (1 : Int32))] [])) _
    refine XS.aload X21.here hx rfl (hb hby at_248) rfl rfl ?_
    show Steps p.tables e below (T21.setTop (mkF m 250 #[.val (.int p0), .val (.int p1), .val (.int p2), .val (.long q3), .second, .val (.long q4), .second, .val (.ref ob), .val (.ref oi), .val (.ref nb), .val (.int c0), .val (.int c1), .val (.int c2), .val (.int c3), .val (.ref ni), .val (.ref cm), .val (.int (1 : Int32))] [(.ref cm)])) _
    refine XS.iconst X21.here hx rfl (hb hby at_250) ?_
    show Steps p.tables e below (T21.setTop (mkF m 251 #[.val (.int p0), .val (.int p1), .val (.int p2), .val (.long q3), .second, .val (.long q4), .second, .val (.ref ob), .val (.ref oi), .val (.ref nb), .val (.int c0), .val (.int c1), .val (.int c2), .val (.int c3), .val (.ref ni), .val (.ref cm), .val (.int (1 : Int32))] [(.int (1 : Int32)), (.ref cm)])) _
    refine st22.trans ?_
    show Steps p.tables e below (T22.setTop (mkF m 254 #[.val (.int p0), .val (.int p1), .val (.int p2), .val (.long q3), .second, .val (.long q4), .second, .val (.ref ob), .val (.ref oi), .val (.ref nb), .val (.int c0), .val (.int c1), .val (.int c2), .val (.int c3), .val (.ref ni), .val (.ref cm), .val (.int (1 : Int32))] [(.int (p0 + c2))])) _
    refine XS.iloadN X22.here hx rfl (hb hby at_254) rfl ?_
    show Steps p.tables e below (T22.setTop (mkF m 255 #[.val (.int p0), .val (.int p1), .val (.int p2), .val (.long q3), .second, .val (.long q4), .second, .val (.ref ob), .val (.ref oi), .val (.ref nb), .val (.int c0), .val (.int c1), .val (.int c2), .val (.int c3), .val (.ref ni), .val (.ref cm), .val (.int (1 : Int32))] [(.int p0), (.int (p0 + c2))])) _
    refine XS.iload X22.here hx rfl (hb hby at_255) rfl ?_
    show Steps p.tables e below (T22.setTop (mkF m 257 #[.val (.int p0), .val (.int p1), .val (.int p2), .val (.long q3), .second, .val (.long q4), .second, .val (.ref ob), .val (.ref oi), .val (.ref nb), .val (.int c0), .val (.int c1), .val (.int c2), .val (.int c3), .val (.ref ni), .val (.ref cm), .val (.int (1 : Int32))] [(.int c2), (.int p0), (.int (p0 + c2))])) _
    refine XS.iadd X22.here hx rfl (hb hby at_257) rfl ?_
    show Steps p.tables e below (T22.setTop (mkF m 258 #[.val (.int p0), .val (.int p1), .val (.int p2), .val (.long q3), .second, .val (.long q4), .second, .val (.ref ob), .val (.ref oi), .val (.ref nb), .val (.int c0), .val (.int c1), .val (.int c2), .val (.int c3), .val (.ref ni), .val (.ref cm), .val (.int (1 : Int32))] [(.int (p0 + c2)), (.int (p0 + c2))])) _
    refine XS.icmpNo X22.here hx rfl (hb hby at_258) rfl (teq (rfl : (p0 + c2) = (p0 + c2))).2 ?_
    show Steps p.tables e below (T22.setTop (mkF m 261 #[.val (.int p0), .val (.int p1), .val (.int p2), .val (.long q3), .second, .val (.long q4), .second, .val (.ref ob), .val (.ref oi), .val (.ref nb), .val (.int c0), .val (.int c1), .val (.int c2), .val (.int c3), .val (.ref ni), .val (.ref cm), .val (.int (1 : Int32))] [])) _
    refine XS.iconst X22.here hx rfl (hb hby at_261) ?_
    show Steps p.tables e below (T22.setTop (mkF m 262 #[.val (.int p0), .val (.int p1), .val (.int p2), .val (.long q3), .second, .val (.long q4), .second, .val (.ref ob), .val (.ref oi), .val (.ref nb), .val (.int c0), .val (.int c1), .val (.int c2), .val (.int c3), .val (.ref ni), .val (.ref cm), .val (.int (1 : Int32))] [(.int (1 : Int32))])) _
    refine XS.goto X22.here hx rfl (pc0 := 262) (pc' := 266) rfl (hb hby at_262) (by decide) (by decide) ?_
    show Steps p.tables e below (T22.setTop (mkF m 266 #[.val (.int p0), .val (.int p1), .val (.int p2), .val (.long q3), .second, .val (.long q4), .second, .val (.ref ob), .val (.ref oi), .val (.ref nb), .val (.int c0), .val (.int c1), .val (.int c2), .val (.int c3), .val (.ref ni), .val (.ref cm), .val (.int (1 : Int32))] [(.int (1 : Int32))])) _
    refine XS.istore X22.here hx rfl (hb hby at_266) rfl (l' := #[.val (.int p0), .val (.int p1), .val (.int p2), .val (.long q3), .second, .val (.long q4), .second, .val (.ref ob), .val (.ref oi), .val (.ref nb), .val (.int c0), .val (.int c1), .val (.int c2), .val (.int c3), .val (.ref ni), .val (.ref cm), .val (.int (1 : Int32))]) rfl ?_
    show Steps p.tables e below (T22.setTop (mkF m 268 #[.val (.int p0), .val (.int p1), .val (.int p2), .val (.long q3), .second, .val (.long q4), .second, .val (.ref ob), .val (.ref oi), .val (.ref nb), .val (.int c0), .val (.int c1), .val (.int c2), .val (.int c3), .val (.ref ni), .val (.ref cm), .val (.int (1 : Int32))] [])) _
    refine XS.iload X22.here hx rfl (hb hby at_268) rfl ?_
    show Steps p.tables e below (T22.setTop (mkF m 270 #[.val (.int p0), .val (.int p1), .val (.int p2), .val (.long q3), .second, .val (.long q4), .second, .val (.ref ob), .val (.ref oi), .val (.ref nb), .val (.int c0), .val (.int c1), .val (.int c2), .val (.int c3), .val (.ref ni), .val (.ref cm), .val (.int (1 : Int32))] [(.int (1 : Int32))])) _
    refine XS.ifNo X22.here hx rfl (hb hby at_270) rfl ((if0 _ _).trans (feq (by decide : ¬ ((1 : Int32) = (0 : Int32)))).1) ?_
    show Steps p.tables e below (T22.setTop (mkF m 273 #[.val (.int p0), .val (.int p1), .val (.int p2), .val (.long q3), .second, .val (.long q4), .second, .val (.ref ob), .val (.ref oi), .val (.ref nb), .val (.int c0), .val (.int c1), .val (.int c2), .val (.int c3), .val (.ref ni), .val (.ref cm), .val (.int (1 : Int32))] [])) _
    refine XS.aload X22.here hx rfl (hb hby at_273) rfl rfl ?_
    show Steps p.tables e below (T22.setTop (mkF m 275 #[.val (.int p0), .val (.int p1), .val (.int p2), .val (.long q3), .second, .val (.long q4), .second, .val (.ref ob), .val (.ref oi), .val (.ref nb), .val (.int c0), .val (.int c1), .val (.int c2), .val (.int c3), .val (.ref ni), .val (.ref cm), .val (.int (1 : Int32))] [(.ref cm)])) _
    refine XS.iconst X22.here hx rfl (hb hby at_275) ?_
    show Steps p.tables e below (T22.setTop (mkF m 276 #[.val (.int p0), .val (.int p1), .val (.int p2), .val (.long q3), .second, .val (.long q4), .second, .val (.ref ob), .val (.ref oi), .val (.ref nb), .val (.int c0), .val (.int c1), .val (.int c2), .val (.int c3), .val (.ref ni), .val (.ref cm), .val (.int (1 : Int32))] [(.int (1 : Int32)), (.ref cm)])) _
    refine st23.trans ?_
    show Steps p.tables e below (T23.setTop (mkF m 279 #[.val (.int p0), .val (.int p1), .val (.int p2), .val (.long q3), .second, .val (.long q4), .second, .val (.ref ob), .val (.ref oi), .val (.ref nb), .val (.int c0), .val (.int c1), .val (.int c2), .val (.int c3), .val (.ref ni), .val (.ref cm), .val (.int (1 : Int32))] [(.int (p0 + c3))])) _
    refine XS.iloadN X23.here hx rfl (hb hby at_279) rfl ?_
    show Steps p.tables e below (T23.setTop (mkF m 280 #[.val (.int p0), .val (.int p1), .val (.int p2), .val (.long q3), .second, .val (.long q4), .second, .val (.ref ob), .val (.ref oi), .val (.ref nb), .val (.int c0), .val (.int c1), .val (.int c2), .val (.int c3), .val (.ref ni), .val (.ref cm), .val (.int (1 : Int32))] [(.int p0), (.int (p0 + c3))])) _
    refine XS.iload X23.here hx rfl (hb hby at_280) rfl ?_
    show Steps p.tables e below (T23.setTop (mkF m 282 #[.val (.int p0), .val (.int p1), .val (.int p2), .val (.long q3), .second, .val (.long q4), .second, .val (.ref ob), .val (.ref oi), .val (.ref nb), .val (.int c0), .val (.int c1), .val (.int c2), .val (.int c3), .val (.ref ni), .val (.ref cm), .val (.int (1 : Int32))] [(.int c3), (.int p0), (.int (p0 + c3))])) _
    refine XS.iadd X23.here hx rfl (hb hby at_282) rfl ?_
    show Steps p.tables e below (T23.setTop (mkF m 283 #[.val (.int p0), .val (.int p1), .val (.int p2), .val (.long q3), .second, .val (.long q4), .second, .val (.ref ob), .val (.ref oi), .val (.ref nb), .val (.int c0), .val (.int c1), .val (.int c2), .val (.int c3), .val (.ref ni), .val (.ref cm), .val (.int (1 : Int32))] [(.int (p0 + c3)), (.int (p0 + c3))])) _
    refine XS.icmpNo X23.here hx rfl (hb hby at_283) rfl (teq (rfl : (p0 + c3) = (p0 + c3))).2 ?_
    show Steps p.tables e below (T23.setTop (mkF m 286 #[.val (.int p0), .val (.int p1), .val (.int p2), .val (.long q3), .second, .val (.long q4), .second, .val (.ref ob), .val (.ref oi), .val (.ref nb), .val (.int c0), .val (.int c1), .val (.int c2), .val (.int c3), .val (.ref ni), .val (.ref cm), .val (.int (1 : Int32))] [])) _
    refine XS.iconst X23.here hx rfl (hb hby at_286) ?_
    show Steps p.tables e below (T23.setTop (mkF m 287 #[.val (.int p0), .val (.int p1), .val (.int p2), .val (.long q3), .second, .val (.long q4), .second, .val (.ref ob), .val (.ref oi), .val (.ref nb), .val (.int c0), .val (.int c1), .val (.int c2), .val (.int c3), .val (.ref ni), .val (.ref cm), .val (.int (1 : Int32))] [(.int (1 : Int32))])) _
    refine XS.goto X23.here hx rfl (pc0 := 287) (pc' := 291) rfl (hb hby at_287) (by decide) (by decide) ?_
    show Steps p.tables e below (T23.setTop (mkF m 291 #[.val (.int p0), .val (.int p1), .val (.int p2), .val (.long q3), .second, .val (.long q4), .second, .val (.ref ob), .val (.ref oi), .val (.ref nb), .val (.int c0), .val (.int c1), .val (.int c2), .val (.int c3), .val (.ref ni), .val (.ref cm), .val (.int (1 : Int32))] [(.int (1 : Int32))])) _
    refine XS.istore X23.here hx rfl (hb hby at_291) rfl (l' := #[.val (.int p0), .val (.int p1), .val (.int p2), .val (.long q3), .second, .val (.long q4), .second, .val (.ref ob), .val (.ref oi), .val (.ref nb), .val (.int c0), .val (.int c1), .val (.int c2), .val (.int c3), .val (.ref ni), .val (.ref cm), .val (.int (1 : Int32))]) rfl ?_
    show Steps p.tables e below (T23.setTop (mkF m 293 #[.val (.int p0), .val (.int p1), .val (.int p2), .val (.long q3), .second, .val (.long q4), .second, .val (.ref ob), .val (.ref oi), .val (.ref nb), .val (.int c0), .val (.int c1), .val (.int c2), .val (.int c3), .val (.ref ni), .val (.ref cm), .val (.int (1 : Int32))] [])) _
    refine XS.iload X23.here hx rfl (hb hby at_293) rfl ?_
    show Steps p.tables e below (T23.setTop (mkF m 295 #[.val (.int p0), .val (.int p1), .val (.int p2), .val (.long q3), .second, .val (.long q4), .second, .val (.ref ob), .val (.ref oi), .val (.ref nb), .val (.int c0), .val (.int c1), .val (.int c2), .val (.int c3), .val (.ref ni), .val (.ref cm), .val (.int (1 : Int32))] [(.int (1 : Int32))])) _
    exact retN X23 hx (t := .boolean) Bd.returns (by simp) (hb hby at_295) hr
  · show Qrm0 Z p0 p1 p2 q3 q4 h0 n0 _ T23.heap _
    rw [eh23]
    exact ⟨rfl, N23⟩
set_option maxRecDepth 65536 in
set_option maxHeartbeats 40000000 in
theorem comes_1 {Post : Tables → Env → Array Value → State → Outcome → State → Prop} (hpost : ∀ tb e args s v u, (limb_1_1.after args s (.returned v) u = true ∧ limb_1_2.after args s (.returned v) u = true ∧ True) → FrameEnd s (.returned v) u (Jvm.fieldLocs frame_1_writes args s ++ Jvm.arrayLocs frame_1_arrays args s ++ Jvm.staticLocs frame_1_statics s) 24 128 → Post tb e args s (.returned v) u) :
    ArmFor flags0 classFile x code maxLocals ret World_1 tables_1 room_1 Calls_1 rest_1 Pre_1 Post := by
  intro l hfl _ _ p e ha hc hk s m args below hf hA hF happ hP
  obtain ⟨hcalls, hrest, hpre⟩ := hP
  obtain ⟨-, -, -, hnamed, -, -, -, hat⟩ := (Spec.applies_iff hf).mp happ
  obtain ⟨hg, hn⟩ := and_e (Cond.before_iff.mp (show (Jvm.Cond.and given_1 narrow_1).before args s = true from hpre))
  obtain ⟨g1, g2⟩ := and_e hg
  obtain ⟨g3, g4⟩ := and_e g2
  obtain ⟨g5, g6⟩ := and_e g4
  obtain ⟨g7, g8⟩ := and_e g6
  obtain ⟨g9, g10⟩ := and_e g8
  obtain ⟨w0, w1, w2, w3, w4, rfl⟩ : ∃ w0 w1 w2 w3 w4 : Value, args = #[w0, w1, w2, w3, w4] := by
    have hs : args.size = 5 := by simpa [Cond.value, given_1] using g1
    obtain ⟨L⟩ := args
    match L, hs with
    | [w0, w1, w2, w3, w4], _ => exact ⟨w0, w1, w2, w3, w4, rfl⟩
  have hw := fun d (hd : d ∈ tables_1) => atoms_spec (ws := Jvm.Cond.code x code maxLocals ret :: tables_1) hat d (List.mem_cons_of_mem _ hd)
  obtain ⟨i0, ei0⟩ := is_v g3
  obtain rfl : w0 = (.int i0) := Option.some.inj ei0
  obtain ⟨i1, ei1⟩ := is_v g5
  obtain rfl : w1 = (.int i1) := Option.some.inj ei1
  obtain ⟨i2, ei2⟩ := is_v g7
  obtain rfl : w2 = (.int i2) := Option.some.inj ei2
  obtain ⟨i3, ei3⟩ := isL_v g9
  obtain rfl : w3 = (.long i3) := Option.some.inj ei3
  obtain ⟨i4, ei4⟩ := isL_v g10
  obtain rfl : w4 = (.long i4) := Option.some.inj ei4
  obtain ⟨n, o, h1, h2, h3, _, L, rfl, ⟨rfl, N⟩, hq⟩ := rm0 l s _ hw tables_1 i0 i1 i2 i3 i4  s.heap s.heap.size (Nat.le_refl _) p e ha hc hk s m _ below hf ((Spec.applies_iff_loose hf).mp happ).1 ⟨rfl, State.Warmed39.refl s, rfl⟩ trivial
  refine ⟨n, _, h1, h2, h3, hpost _ _ _ _ _ _ ⟨Cond.after_iff.mpr rfl, Cond.after_iff.mpr (eq_i res_at (Term.int_eval (1)) rfl), trivial⟩ ⟨hq.1, hq.2.1, (hq.2.2.sift fun y hy => Or.inr (N y hy)).mono (by decide) (by decide)⟩⟩
theorem main_1_1 : Claimed_1_1 := comes_1 fun _ _ _ _ _ _ h hF => ⟨h.1, hF⟩
theorem main_1_2 : Claimed_1_2 := comes_1 fun _ _ _ _ _ _ h hF => ⟨h.2.1, hF⟩
end Jvm.Pilot.@@N@@
namespace Jvm.Pilot.@@N@@
open Jvm Jvm.ClassFile Sem Op Lib Jvm.Free Jvm.Stand Jvm.Pilot.@@N@@.Jvm.D
/-! MADE BY PROGRAM (witnessworld.py) out of the Statement's table words and the real class files: 9 classes; the members and pool entries that the words name. The judged class is class 1, her method 1. -/
namespace start1
open Jvm.ClassFile
def u (s : String) : CpInfo := .utf8 (stringToUtf16 s)
/-- a pool by its gaps: so many unusable entries, then the entry; so many at the end -/
def gap : Nat → List CpInfo → List CpInfo
  | 0, r => r
  | n + 1, r => .unusable :: gap n r
def poolList (es : List (Nat × CpInfo)) (last : Nat) : List CpInfo := es.foldr (fun e r => gap e.1 (e.2 :: r)) (gap last [])
def pool (es : List (Nat × CpInfo)) (last : Nat) : Array CpInfo := ⟨poolList es last⟩
def fileOf (pool : Array CpInfo) (this : Nat) (attrs : Array Attribute := #[]) (ms : Array MethodInfo := #[]) (fl : Nat := 33) (sup : Nat := 0) (ifs : Array Nat := #[]) (fds : Array FieldInfo := #[]) : ClassFile where
  minorVersion := 0
  majorVersion := 65
  constantPool := pool
  accessFlags := fl
  thisClass := this
  superClass := sup
  interfaces := ifs
  fields := fds
  methods := ms
  attributes := attrs
def plain (name : String) (sup : Option ClassId) : Class where
  name := name
  kind := .ordinary
  loader := none
  accessFlags := 33
  super := sup
  interfaces := #[]
  cf := none
  fields := #[]
  methods := #[]
  instanceTypes := #[]
  staticTypes := #[]
  resolved := #[]
  callSites := []
  init := .initialized
  statics := none
  mirror := none

def pool0 : Array CpInfo := pool [(5, u "<init>"), (0, u "()V"), (1, .class_ 10), (1, u "java/lang/Object")] 113

def k0c0 : Code := { maxStack := 0, maxLocals := 1, code := object_method_1_code, exceptionTable := #[], attributes := #[] }
def k0m0 : Method := { name := "<init>", desc := "()V", sig := { parameters := [], returnType := none }, accessFlags := 1, code := some k0c0 }
/-- java/lang/Object -/
def k0 : Class := { plain "java/lang/Object" none with
  accessFlags := 33
  interfaces := #[]
  cf := some (fileOf pool0 8 #[] #[{ accessFlags := 1, nameIndex := 5, descriptorIndex := 6, attributes := #[] }] 33 0 #[] #[])
  fields := #[]
  methods := #[k0m0]
  instanceTypes := #[]
  staticTypes := #[]
  resolved := Array.replicate 124 none
  statics := none }

def pool1 : Array CpInfo := pool [(2, .class_ 4), (1, u "java/lang/Object"), (0, u "<init>"), (0, u "()V"), (0, .class_ 8), (0, u "com/example/slot16k/slot16k/Command"), (0, .methodref 7 10), (0, .nameAndType 5 11), (0, u "([BII[II)V"), (0, .methodref 7 13), (0, .nameAndType 14 11), (0, u "standIn"), (0, .methodref 7 16), (0, .nameAndType 17 18), (0, u "bytes"), (0, u "()[B"), (0, .methodref 7 20), (0, .nameAndType 21 22), (0, u "offset"), (0, u "()I"), (0, .methodref 7 24), (0, .nameAndType 25 22), (0, u "length"), (0, .methodref 7 27), (0, .nameAndType 28 22), (0, u "arguments"), (0, .methodref 7 30), (0, .nameAndType 31 32), (0, u "start"), (0, u "(I)I"), (0, .methodref 7 34), (0, .nameAndType 35 32), (0, u "end"), (0, .class_ 37), (0, u "com/example/slot16k/slot16k/CommandStandInPinLaw"), (2, u "law"), (0, u "(IIIJJ)Z")] 7

def k1m0 : Method := { name := "<init>", desc := "()V", sig := { parameters := [], returnType := none }, accessFlags := 1, code := none }
def k1c1 : Code := { maxStack := 7, maxLocals := 17, code := code, exceptionTable := #[], attributes := #[] }
def k1m1 : Method := { name := "law", desc := "(IIIJJ)Z", sig := { parameters := [.int, .int, .int, .long, .long], returnType := some .boolean }, accessFlags := 9, code := some k1c1 }
/-- com/example/slot16k/slot16k/CommandStandInPinLaw -/
def k1 : Class := { plain "com/example/slot16k/slot16k/CommandStandInPinLaw" (some 0) with
  accessFlags := 49
  interfaces := #[]
  cf := some (fileOf pool1 36 #[] #[{ accessFlags := 1, nameIndex := 5, descriptorIndex := 6, attributes := #[] }, { accessFlags := 9, nameIndex := 40, descriptorIndex := 41, attributes := #[] }] 49 2 #[] #[])
  fields := #[]
  methods := #[k1m0, k1m1]
  instanceTypes := #[]
  staticTypes := #[]
  resolved := Array.replicate 49 none
  statics := none }

def pool2 : Array CpInfo := pool [(3, .methodref 4 5), (0, .class_ 6), (0, .nameAndType 7 8), (0, u "java/lang/Object"), (0, u "<init>"), (0, u "()V"), (0, .methodref 10 11), (0, .class_ 12), (0, .nameAndType 13 14), (0, u "com/example/slot16k/slot16k/Command"), (0, u "standIn"), (0, u "([BII[II)V"), (0, .fieldref 10 16), (0, .nameAndType 17 18), (0, u "bytes"), (0, u "[B"), (0, .fieldref 10 20), (0, .nameAndType 21 22), (0, u "offset"), (0, u "I"), (0, .fieldref 10 24), (0, .nameAndType 25 22), (0, u "length"), (0, .fieldref 10 27), (0, .nameAndType 28 29), (0, u "bounds"), (0, u "[I"), (0, .fieldref 10 31), (0, .nameAndType 32 22), (0, u "arguments"), (19, u "()[B"), (0, u "MAX_LENGTH"), (5, u "()I"), (3, u "start"), (0, u "(I)I"), (0, u "end")] 2

def k2c0 : Code := { maxStack := 6, maxLocals := 6, code := prog_8_method_1_code, exceptionTable := #[], attributes := #[] }
def k2m0 : Method := { name := "<init>", desc := "([BII[II)V", sig := { parameters := [(.array .byte), .int, .int, (.array .int), .int], returnType := none }, accessFlags := 0, code := some k2c0 }
def k2c1 : Code := { maxStack := 2, maxLocals := 6, code := prog_8_method_2_code, exceptionTable := #[], attributes := #[] }
def k2m1 : Method := { name := "standIn", desc := "([BII[II)V", sig := { parameters := [(.array .byte), .int, .int, (.array .int), .int], returnType := none }, accessFlags := 0, code := some k2c1 }
def k2c2 : Code := { maxStack := 1, maxLocals := 1, code := prog_8_method_5_code, exceptionTable := #[], attributes := #[] }
def k2m2 : Method := { name := "bytes", desc := "()[B", sig := { parameters := [], returnType := some (.array .byte) }, accessFlags := 0, code := some k2c2 }
def k2c3 : Code := { maxStack := 1, maxLocals := 1, code := prog_8_method_6_code, exceptionTable := #[], attributes := #[] }
def k2m3 : Method := { name := "offset", desc := "()I", sig := { parameters := [], returnType := some .int }, accessFlags := 0, code := some k2c3 }
def k2c4 : Code := { maxStack := 1, maxLocals := 1, code := prog_8_method_7_code, exceptionTable := #[], attributes := #[] }
def k2m4 : Method := { name := "length", desc := "()I", sig := { parameters := [], returnType := some .int }, accessFlags := 0, code := some k2c4 }
def k2c5 : Code := { maxStack := 1, maxLocals := 1, code := prog_8_method_10_code, exceptionTable := #[], attributes := #[] }
def k2m5 : Method := { name := "arguments", desc := "()I", sig := { parameters := [], returnType := some .int }, accessFlags := 0, code := some k2c5 }
def k2c6 : Code := { maxStack := 4, maxLocals := 2, code := prog_8_method_11_code, exceptionTable := #[], attributes := #[] }
def k2m6 : Method := { name := "start", desc := "(I)I", sig := { parameters := [.int], returnType := some .int }, accessFlags := 0, code := some k2c6 }
def k2c7 : Code := { maxStack := 4, maxLocals := 2, code := prog_8_method_12_code, exceptionTable := #[], attributes := #[] }
def k2m7 : Method := { name := "end", desc := "(I)I", sig := { parameters := [.int], returnType := some .int }, accessFlags := 0, code := some k2c7 }
/-- com/example/slot16k/slot16k/Command -/
def k2 : Class := { plain "com/example/slot16k/slot16k/Command" (some 0) with
  accessFlags := 48
  interfaces := #[]
  cf := some (fileOf pool2 10 #[] #[{ accessFlags := 0, nameIndex := 7, descriptorIndex := 14, attributes := #[] }, { accessFlags := 0, nameIndex := 13, descriptorIndex := 14, attributes := #[] }, { accessFlags := 0, nameIndex := 17, descriptorIndex := 52, attributes := #[] }, { accessFlags := 0, nameIndex := 21, descriptorIndex := 59, attributes := #[] }, { accessFlags := 0, nameIndex := 25, descriptorIndex := 59, attributes := #[] }, { accessFlags := 0, nameIndex := 32, descriptorIndex := 59, attributes := #[] }, { accessFlags := 0, nameIndex := 63, descriptorIndex := 64, attributes := #[] }, { accessFlags := 0, nameIndex := 65, descriptorIndex := 64, attributes := #[] }] 48 4 #[] #[{ accessFlags := 24, nameIndex := 53, descriptorIndex := 22, attributes := #[] }, { accessFlags := 2, nameIndex := 17, descriptorIndex := 18, attributes := #[] }, { accessFlags := 2, nameIndex := 21, descriptorIndex := 22, attributes := #[] }, { accessFlags := 2, nameIndex := 25, descriptorIndex := 22, attributes := #[] }, { accessFlags := 2, nameIndex := 28, descriptorIndex := 29, attributes := #[] }, { accessFlags := 2, nameIndex := 32, descriptorIndex := 22, attributes := #[] }])
  fields := #[{ name := "MAX_LENGTH", type := .int, accessFlags := 24, slot := 0, constantValue := 0 }, { name := "bytes", type := (.array .byte), accessFlags := 2, slot := 0, constantValue := 0 }, { name := "offset", type := .int, accessFlags := 2, slot := 1, constantValue := 0 }, { name := "length", type := .int, accessFlags := 2, slot := 2, constantValue := 0 }, { name := "bounds", type := (.array .int), accessFlags := 2, slot := 3, constantValue := 0 }, { name := "arguments", type := .int, accessFlags := 2, slot := 4, constantValue := 0 }]
  methods := #[k2m0, k2m1, k2m2, k2m3, k2m4, k2m5, k2m6, k2m7]
  instanceTypes := #[(.array .byte), .int, .int, (.array .int), .int]
  staticTypes := #[.int]
  resolved := Array.replicate 68 none
  statics := none }

def pool3 : Array CpInfo := pool [(1, u "java/lang/Cloneable"), (0, .class_ 1), (0, u "java/lang/Object"), (0, .class_ 3)] 3

/-- java/lang/Cloneable -/
def k3 : Class := { plain "java/lang/Cloneable" (some 0) with
  accessFlags := 1537
  interfaces := #[]
  cf := some (fileOf pool3 2 #[] #[] 1537 4 #[] #[])
  fields := #[]
  methods := #[]
  instanceTypes := #[]
  staticTypes := #[]
  resolved := Array.replicate 8 none
  statics := none }

def pool4 : Array CpInfo := pool [(1, u "java/io/Serializable"), (0, .class_ 1), (0, u "java/lang/Object"), (0, .class_ 3)] 3

/-- java/io/Serializable -/
def k4 : Class := { plain "java/io/Serializable" (some 0) with
  accessFlags := 1537
  interfaces := #[]
  cf := some (fileOf pool4 2 #[] #[] 1537 4 #[] #[])
  fields := #[]
  methods := #[]
  instanceTypes := #[]
  staticTypes := #[]
  resolved := Array.replicate 8 none
  statics := none }

/-- the primitive byte -/
def k5 : Class := { plain "byte" none with kind := .primitive 'B', accessFlags := 0x411 }
/-- [B -/
def k6 : Class := { plain "[B" (some 0) with kind := .array 5 .byte, interfaces := #[3, 4], accessFlags := 1041 }

/-- the primitive int -/
def k7 : Class := { plain "int" none with kind := .primitive 'I', accessFlags := 0x411 }
/-- [I -/
def k8 : Class := { plain "[I" (some 0) with kind := .array 7 .int, interfaces := #[3, 4], accessFlags := 1041 }

def heap : Heap := #[]
def classes : Array Class := #[k0, k1, k2, k3, k4, k5, k6, k7, k8]
def interned : List (Array UInt16 × Addr) := []
def slotsUsed : Nat := 0
def theMethod : MethodId := ⟨1, 1⟩
def args0 : Array Value := #[.int 5, .int 5, .int 5, .long 5, .long 5]
def aboutOver (below : List Frame) : State where
  vm := { classes := classes, interned := interned.toArray }
  heap := heap
  slotsUsed := slotsUsed
  threads := #[{ frames := .invoking theMethod args0 :: below }]
def below0 : List Frame := [.native { method := ⟨0, 0⟩, args := #[] }]
def about1 : State := aboutOver below0
def p0 : Program := .bare "" "" ""
def e0 : Env := launch0.env 0 0 0
theorem w_frames : about1.frames = Frame.invoking theMethod args0 :: below0 := rfl
set_option maxRecDepth 65536 in
theorem w_args : argsFit about1.vm theMethod args0 = true := by decide +kernel
set_option maxRecDepth 65536 in
theorem w_heap : heapFits about1 = true := by decide +kernel
set_option maxRecDepth 65536 in
theorem w_runnable : about1.curStatus? = some .runnable := by decide +kernel
set_option maxRecDepth 65536 in
theorem w_alone : about1.alone = true := by decide +kernel
set_option maxRecDepth 65536 in
theorem w_named : about1.methodNamed? x = some theMethod := by decide +kernel
set_option maxRecDepth 65536 in
theorem w_hears : about1.hears theMethod below0 = true := by decide +kernel
set_option maxRecDepth 65536 in
theorem w_ripe : about1.ripe theMethod args0 below0 = true := by decide +kernel
theorem w_running : about1.status = .running := rfl
set_option maxRecDepth 65536 in
theorem w_room : about1.hasRoom e0.platform room_1 = true :=
  launch0.hasRoom_least _ room_1 (by decide +kernel) (by decide +kernel) (by decide +kernel) (by decide +kernel) (by decide +kernel) (by decide +kernel)
theorem allAtoms_all (ts : List Jvm.Cond) (a : Array Jvm.Value) (st : Jvm.State) : (allAtoms ts).before a st = ts.all (fun c => c.before a st) := by
  induction ts with
  | nil => rfl
  | cons c t ih =>
    show (Jvm.Cond.and c (allAtoms t)).before a st = _
    rw [Jvm.Cond.before_and, ih, List.all_cons]
def words1 : List Jvm.Cond := Jvm.Cond.code x code maxLocals ret :: tables_1
/-- a 'code' word, met by the world's own term for the bytes: nothing is compared byte by byte -/
theorem code_word {y : MethodName} {bytes : ByteArray} {mx : Nat} {rt : Option FieldType} {a : Array Value} {s : State} {m : MethodId} {meth : Method} {c : Code} (h1 : s.methodNamed? y = some m) (h2 : s.vm.method? m = some meth) (h3 : meth.code = some c) (h4 : c.code = bytes)
    (h5 : (c.maxLocals == mx && c.exceptionTable.isEmpty && decide (c.maxStack ≤ mostOperands) && decide (meth.sig.returnType = rt) && !meth.locks && decide (parseMethodDescriptor y.desc = some meth.sig)) = true) : (Jvm.Cond.code y bytes mx rt).before a s = true := by
  simp only [Bool.and_eq_true, beq_iff_eq, Bool.not_eq_true', decide_eq_true_eq] at h5
  obtain ⟨⟨⟨⟨⟨g1, g2⟩, g3⟩, g4⟩, g5⟩, g6⟩ := h5
  simp [Cond.before, Cond.holds, Cond.value, h1, h2, h3, h4, g1, g2, g3, g4, g5, g6]
def isCode : Jvm.Cond → Bool
  | .code _ _ _ _ => true
  | _ => false
theorem all_split {L : List Jvm.Cond} {P : Jvm.Cond → Bool} (h1 : L.all (fun c => isCode c || P c) = true) (h2 : ∀ c ∈ L.filter isCode, P c = true) : L.all P = true := by
  refine List.all_eq_true.mpr fun c hc => ?_
  have h := List.all_eq_true.mp h1 c hc
  rcases Bool.eq_false_or_eq_true (isCode c) with hi | hi
  · exact h2 c (List.mem_filter.mpr ⟨hc, hi⟩)
  · simpa [hi] using h
set_option maxRecDepth 65536 in
theorem w_c0 : (Jvm.Cond.code x code maxLocals ret).before args0 about1 = true := code_word (m := ⟨1, 1⟩) (meth := k1m1) (c := k1c1) (by decide +kernel) rfl rfl rfl (by decide +kernel)
set_option maxRecDepth 65536 in
theorem w_c1 : (Jvm.Cond.code ({ cls := "com/example/slot16k/slot16k/Command", name := "<init>", desc := "([BII[II)V" } : Jvm.MethodName) prog_8_method_1_code (6 : Nat) (Option.none : Option Jvm.ClassFile.FieldType)).before args0 about1 = true := code_word (m := ⟨2, 0⟩) (meth := k2m0) (c := k2c0) (by decide +kernel) rfl rfl rfl (by decide +kernel)
set_option maxRecDepth 65536 in
theorem w_c2 : (Jvm.Cond.code ({ cls := "java/lang/Object", name := "<init>", desc := "()V" } : Jvm.MethodName) object_method_1_code (1 : Nat) (Option.none : Option Jvm.ClassFile.FieldType)).before args0 about1 = true := code_word (m := ⟨0, 0⟩) (meth := k0m0) (c := k0c0) (by decide +kernel) rfl rfl rfl (by decide +kernel)
set_option maxRecDepth 65536 in
theorem w_c3 : (Jvm.Cond.code ({ cls := "com/example/slot16k/slot16k/Command", name := "standIn", desc := "([BII[II)V" } : Jvm.MethodName) prog_8_method_2_code (6 : Nat) (Option.none : Option Jvm.ClassFile.FieldType)).before args0 about1 = true := code_word (m := ⟨2, 1⟩) (meth := k2m1) (c := k2c1) (by decide +kernel) rfl rfl rfl (by decide +kernel)
set_option maxRecDepth 65536 in
theorem w_c4 : (Jvm.Cond.code ({ cls := "com/example/slot16k/slot16k/Command", name := "bytes", desc := "()[B" } : Jvm.MethodName) prog_8_method_5_code (1 : Nat) (Option.some (Jvm.ClassFile.FieldType.array Jvm.ClassFile.FieldType.byte))).before args0 about1 = true := code_word (m := ⟨2, 2⟩) (meth := k2m2) (c := k2c2) (by decide +kernel) rfl rfl rfl (by decide +kernel)
set_option maxRecDepth 65536 in
theorem w_c5 : (Jvm.Cond.code ({ cls := "com/example/slot16k/slot16k/Command", name := "offset", desc := "()I" } : Jvm.MethodName) prog_8_method_6_code (1 : Nat) (Option.some Jvm.ClassFile.FieldType.int)).before args0 about1 = true := code_word (m := ⟨2, 3⟩) (meth := k2m3) (c := k2c3) (by decide +kernel) rfl rfl rfl (by decide +kernel)
set_option maxRecDepth 65536 in
theorem w_c6 : (Jvm.Cond.code ({ cls := "com/example/slot16k/slot16k/Command", name := "length", desc := "()I" } : Jvm.MethodName) prog_8_method_7_code (1 : Nat) (Option.some Jvm.ClassFile.FieldType.int)).before args0 about1 = true := code_word (m := ⟨2, 4⟩) (meth := k2m4) (c := k2c4) (by decide +kernel) rfl rfl rfl (by decide +kernel)
set_option maxRecDepth 65536 in
theorem w_c7 : (Jvm.Cond.code ({ cls := "com/example/slot16k/slot16k/Command", name := "arguments", desc := "()I" } : Jvm.MethodName) prog_8_method_10_code (1 : Nat) (Option.some Jvm.ClassFile.FieldType.int)).before args0 about1 = true := code_word (m := ⟨2, 5⟩) (meth := k2m5) (c := k2c5) (by decide +kernel) rfl rfl rfl (by decide +kernel)
set_option maxRecDepth 65536 in
theorem w_c8 : (Jvm.Cond.code ({ cls := "com/example/slot16k/slot16k/Command", name := "start", desc := "(I)I" } : Jvm.MethodName) prog_8_method_11_code (2 : Nat) (Option.some Jvm.ClassFile.FieldType.int)).before args0 about1 = true := code_word (m := ⟨2, 6⟩) (meth := k2m6) (c := k2c6) (by decide +kernel) rfl rfl rfl (by decide +kernel)
set_option maxRecDepth 65536 in
theorem w_c9 : (Jvm.Cond.code ({ cls := "com/example/slot16k/slot16k/Command", name := "end", desc := "(I)I" } : Jvm.MethodName) prog_8_method_12_code (2 : Nat) (Option.some Jvm.ClassFile.FieldType.int)).before args0 about1 = true := code_word (m := ⟨2, 7⟩) (meth := k2m7) (c := k2c7) (by decide +kernel) rfl rfl rfl (by decide +kernel)
def codes1 : List Jvm.Cond := [Jvm.Cond.code x code maxLocals ret, Jvm.Cond.code ({ cls := "com/example/slot16k/slot16k/Command", name := "<init>", desc := "([BII[II)V" } : Jvm.MethodName) prog_8_method_1_code (6 : Nat) (Option.none : Option Jvm.ClassFile.FieldType), Jvm.Cond.code ({ cls := "java/lang/Object", name := "<init>", desc := "()V" } : Jvm.MethodName) object_method_1_code (1 : Nat) (Option.none : Option Jvm.ClassFile.FieldType), Jvm.Cond.code ({ cls := "com/example/slot16k/slot16k/Command", name := "standIn", desc := "([BII[II)V" } : Jvm.MethodName) prog_8_method_2_code (6 : Nat) (Option.none : Option Jvm.ClassFile.FieldType), Jvm.Cond.code ({ cls := "com/example/slot16k/slot16k/Command", name := "bytes", desc := "()[B" } : Jvm.MethodName) prog_8_method_5_code (1 : Nat) (Option.some (Jvm.ClassFile.FieldType.array Jvm.ClassFile.FieldType.byte)), Jvm.Cond.code ({ cls := "com/example/slot16k/slot16k/Command", name := "offset", desc := "()I" } : Jvm.MethodName) prog_8_method_6_code (1 : Nat) (Option.some Jvm.ClassFile.FieldType.int), Jvm.Cond.code ({ cls := "com/example/slot16k/slot16k/Command", name := "length", desc := "()I" } : Jvm.MethodName) prog_8_method_7_code (1 : Nat) (Option.some Jvm.ClassFile.FieldType.int), Jvm.Cond.code ({ cls := "com/example/slot16k/slot16k/Command", name := "arguments", desc := "()I" } : Jvm.MethodName) prog_8_method_10_code (1 : Nat) (Option.some Jvm.ClassFile.FieldType.int), Jvm.Cond.code ({ cls := "com/example/slot16k/slot16k/Command", name := "start", desc := "(I)I" } : Jvm.MethodName) prog_8_method_11_code (2 : Nat) (Option.some Jvm.ClassFile.FieldType.int), Jvm.Cond.code ({ cls := "com/example/slot16k/slot16k/Command", name := "end", desc := "(I)I" } : Jvm.MethodName) prog_8_method_12_code (2 : Nat) (Option.some Jvm.ClassFile.FieldType.int)]
set_option maxRecDepth 65536 in
theorem codes_eq : words1.filter isCode = codes1 := rfl
theorem w_codes : ∀ c ∈ words1.filter isCode, c.before args0 about1 = true := by
  rw [codes_eq]
  intro c hc
  simp only [codes1, List.mem_cons, List.not_mem_nil, or_false] at hc
  rcases hc with rfl | rfl | rfl | rfl | rfl | rfl | rfl | rfl | rfl | rfl
  · exact w_c0
  · exact w_c1
  · exact w_c2
  · exact w_c3
  · exact w_c4
  · exact w_c5
  · exact w_c6
  · exact w_c7
  · exact w_c8
  · exact w_c9
set_option maxRecDepth 65536 in
theorem w_t1 : (words1.take 24).all (fun c => isCode c || c.before args0 about1) = true := by decide +kernel
set_option maxRecDepth 65536 in
theorem w_t2 : ((words1.drop 24).take 24).all (fun c => isCode c || c.before args0 about1) = true := by decide +kernel
set_option maxRecDepth 65536 in
theorem w_t3 : ((words1.drop 24).drop 24).all (fun c => isCode c || c.before args0 about1) = true := by decide +kernel
theorem w_tables : (allAtoms (Jvm.Cond.code x code maxLocals ret :: tables_1)).before args0 about1 = true := by
  rw [allAtoms_all]
  show words1.all (fun c => c.before args0 about1) = true
  refine all_split ?_ w_codes
  rw [← List.take_append_drop 24 words1, List.all_append, w_t1, ← List.take_append_drop 24 (words1.drop 24), List.all_append, w_t2, w_t3]
  rfl
set_option maxRecDepth 65536 in
theorem w_case : (Jvm.Cond.and given_1 narrow_1).before args0 about1 = true := by decide +kernel
theorem w_applies : (headSpec (Jvm.Cond.code x code maxLocals ret :: tables_1) room_1).applies x e0.platform about1 = true :=
  (Spec.applies_iff w_frames).mpr ⟨w_running, w_runnable, w_alone, w_named, w_hears, w_ripe, w_room, w_tables⟩
theorem atStart : AtStart classFile x code maxLocals ret World_1 tables_1 room_1 Calls_1 rest_1 Pre_1 launch0 p0 e0 about1 theMethod args0 below0 :=
  ⟨lists_1, trivial, launch0.admits_env _ _ _, launch0.least_env, fairChoices_fair.cas, fairChoices_fair.clock, w_frames, w_args, w_heap, w_applies, trivial, trivial, w_case⟩
end start1
theorem witness_1 : WitnessClaimed_1 := ⟨start1.p0, start1.e0, start1.about1, start1.theMethod, start1.args0, start1.below0, start1.atStart⟩
end Jvm.Pilot.@@N@@
