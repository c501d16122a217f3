import JvmDerived
import JvmDerived.Pilot.@@N@@Statement
import JvmDerived.Pilot.@@N@@Code
set_option linter.unusedVariables false
set_option linter.unusedSimpArgs false
namespace Jvm.RoadKit
open Sem ClassFile Op Lib Jvm.Stand Jvm.Free Jvm.LawKit
section New
variable {p : Program} {l : Launch} {e : Env} {R : Room} {s : State} {m : MethodId} {args : Array Value} {below : List Frame} {meth : Method} {c : Code} {T : State} {locs : List Loc} {cells slots : Nat}
theorem retI (X : Stand p l e R s m args below meth c T locs cells slots) (hx : p.tables.exec = Jvm.exec) {pc : Nat} {Ls : Array Slot} {z : Int32} {rest : List Value} (hret : meth.sig.returnType = some .int) (hd : decode c.code pc = .ok (.ireturn, 1)) {fs : List Frame}
    (hl : ∀ (f : JFrame) (acts : List Action), f.method = m → f.locked = none → f.entered = [] → (doReturn e (T.setTop f) acts (some (.int z))).1 = T.setFrames fs) : Steps p.tables e below (T.setTop (mkF m pc Ls (.int z :: rest))) (T.setFrames fs) := by
  have hm' : T.vm.method? m = some meth := X.method'
  have hn : narrow .int (.int z) = .int z := rfl
  show Steps p.tables e below (T.setTop { method := m, pc := pc, locals := Ls, stack := _ :: rest, locked := none }) _
  jvm_step X.here [X.here.top, hx, hd, hm', hret, hn]
  first | (intro acts; rw [hl _ acts rfl rfl rfl]) | rw [hl _ _ rfl rfl rfl]
  exact Steps.refl _
theorem own_lrem {target : State} (X : Stand p l e R s m args below meth c T locs cells slots) (hx : p.tables.exec = Jvm.exec) {g : JFrame} (hg : g.method = m) {x y : Int64} {rest : List Value} (hd : decode c.code g.pc = .ok (.lrem, 1)) (hs : g.stack = .long y :: .long x :: rest) (hy : y ≠ 0)
    (hr : Steps p.tables e below (T.setTop { g with pc := g.pc + 1, stack := .long (x % y) :: rest }) target) : Steps p.tables e below (T.setTop g) target :=
  XS.lrem X.here hx hg hd hs hy (by rw [lrem_mod]; exact hr)
theorem own_retJ (Y : Stand p l e R s m args below meth c T locs cells slots) (hexec : p.tables.exec = Jvm.exec) {pc : Nat} {Ls : Array Slot} {w : Int64} (hret : meth.sig.returnType = some .long)
    (hdg : decode c.code pc = .ok (.lreturn, 1)) {fs : List Frame} (hleave : ∀ (f : JFrame) (acts : List Action), f.method = m → f.locked = none → f.entered = [] → (doReturn e (T.setTop f) acts (some (.long w))).1 = T.setFrames fs) :
    Steps p.tables e below (T.setTop (mkF m pc Ls [.long w])) (T.setFrames fs) := Y.lreturnOut hexec hret hdg hleave
theorem own_retR (X : Stand p l e R s m args below meth c T locs cells slots) (hx : p.tables.exec = Jvm.exec) {pc : Nat} {Ls : Array Slot} {w : Value} {t : FieldType} {rest : List Value} (hret : meth.sig.returnType = some t) (hn : narrow t w = w) (ht : t.isReference = true) (hw : w.isRef = true)
    (hd : decode c.code pc = .ok (.areturn, 1)) {fs : List Frame} (hl : ∀ (f : JFrame) (acts : List Action), f.method = m → f.locked = none → f.entered = [] → (doReturn e (T.setTop f) acts (some w)).1 = T.setFrames fs) :
    Steps p.tables e below (T.setTop (mkF m pc Ls (w :: rest))) (T.setFrames fs) := retOut X hx hret hn (Or.inr (Or.inr (Or.inr (Or.inr ⟨rfl, ht, hw⟩)))) hd hl
theorem own_via {tb : Tables} {s0 target : State} (s' : State) (h : Steps tb e below s' target → Steps tb e below s0 target) (k : Steps tb e below s' target) : Steps tb e below s0 target := h k
end New
end Jvm.RoadKit
namespace Jvm.Pilot.@@N@@
open Jvm Jvm.ClassFile Sem Op Lib Jvm.Free Jvm.Stand Jvm.LawKit Jvm.RoadKit Bundle Jvm.Pilot.@@N@@.Jvm.D
theorem d1_0 : decode method_2_code 0 = .ok (.iload_n 0, 1) := by decide +kernel
theorem d1_1 : decode method_2_code 1 = .ok (.ldc 7, 2) := by decide +kernel
theorem d1_3 : decode method_2_code 3 = .ok (.iand, 1) := by decide +kernel
theorem d1_4 : decode method_2_code 4 = .ok (.ldc 8, 2) := by decide +kernel
theorem d1_6 : decode method_2_code 6 = .ok (.irem, 1) := by decide +kernel
theorem d1_7 : decode method_2_code 7 = .ok (.ireturn, 1) := by decide +kernel
theorem pn_1 : plainName "com/example/epitome/epitome/cube/CubeCellsProductPinLaw" = true := by first | (simp [plainName, overriddenIn]; done) | decide +kernel
theorem ef_rm1 (m : MethodId) (p0 : Int32) : entryFrame m #[(.int p0)] 1 = mkF m 0 #[.val (.int p0)] [] := by first | (simp [entryFrame, mkF, argsToLocals, Value.category]; done) | rfl
def Qrm1 (Z : State) (p0 : Int32) (h0 : Heap) (n0 : Nat) (v : Option Value) (h : Heap) (L : List Loc) : Prop := v = some (.int ((p0 &&& (2147483647 : Int32)) % (134217729 : Int32))) ∧ Fr n0 L ∧ h = h0
set_option maxRecDepth 65536 in
set_option maxHeartbeats 40000000 in
theorem rm1 (l : Launch) (Z : State) (A0 : Array Value) (hw : ∀ d ∈ tables_1, d.before A0 Z = true) (ws : List Jvm.Cond) (p0 : Int32) (h0 : Heap) (n0 : Nat) (Z0 : n0 ≤ h0.size) :
    MetFree l (⟨"com/example/epitome/epitome/cube/CubeCellsProductPinLaw", "size", "(I)I"⟩ : MethodName) (head1 (Jvm.Cond.code (⟨"com/example/epitome/epitome/cube/CubeCellsProductPinLaw", "size", "(I)I"⟩ : MethodName) method_2_code 1 (some .int) :: ws) ({ frames := 0, cells := 0, slots := 0, locals := 0 } : Room)) (fun a U => a = #[(.int p0)] ∧ Z.Warmed39 U.vm ∧ U.heap = h0) (fun _ _ _ _ _ => True) (fun _ U o U' => ∃ v L, o = .returned v ∧ Qrm1 Z p0 h0 n0 v U'.heap L ∧ FrameEnd U o U' L ({ frames := 0, cells := 0, slots := 0, locals := 0 } : Room).cells ({ frames := 0, cells := 0, slots := 0, locals := 0 } : Room).slots) := by
  refine MetFree.of_bodySF (plainFor_of_name pn_1) hisR ?_
  intro p e s m args below meth c s₁ Bd hml0 hP hK
  obtain ⟨rfl, hZ, hh⟩ := hP
  have hx := Bd.exec
  have hby := Bd.bytes
  have hml : c.maxLocals = 1 := hml0
  have hown : s.vm.findClass "com/example/epitome/epitome/cube/CubeCellsProductPinLaw" = some m.cls := findClass_of_methodNamed Bd.named
  have hnm := (name_of_methodNamed Bd.named Bd.method).1
  have X0 : Stand p l e ({ frames := 0, cells := 0, slots := 0, locals := 0 } : Room) s m #[(.int p0)] below meth c s₁ [] 0 0 := Stand.of_body Bd
  have e0 : s₁.heap = h0 := by rw [← hh, Bd.state]; rfl
  have N0 := Fr.nil n0
  have K0 : Keep h0 h0 [] := Keep.refl _ _
  have pre0 : ∀ t, Steps p.tables e below (s₁.setTop (mkF m 0 #[.val (.int p0)] [])) t → Steps p.tables e below (s₁.setTop (entryFrame m #[(.int p0)] 1)) t := fun t k => castTop (ef_rm1 m p0) k
  obtain ⟨fs, hr, hrun, hended, hW, hsame⟩ := X0.leave (v := some (.int ((p0 &&& (2147483647 : Int32)) % (134217729 : Int32)))) (fun h => by rw [Bd.returns] at h; cases h)
  refine ⟨_, _, pre0 _ ?_, hrun, hended, _, _, rfl, ?_, ⟨_, rfl⟩, hW, hsame.mono (by decide) (by decide)⟩
  · show Steps p.tables e below (s₁.setTop (mkF m 0 #[.val (.int p0)] [])) _
    refine XS.iloadN X0.here hx rfl (hb hby d1_0) rfl ?_
    show Steps p.tables e below (s₁.setTop (mkF m 1 #[.val (.int p0)] [(.int p0)])) _
    refine X0.ldcInt hx hown (mvT hZ (hw _ (List.mem_of_getElem? (i := 0) rfl))) (g := (mkF m 1 #[.val (.int p0)] [(.int p0)])) rfl (hb hby d1_1) _ ?_
    show Steps p.tables e below (s₁.setTop (mkF m 3 #[.val (.int p0)] [(.int (2147483647 : Int32)), (.int p0)])) _
    refine XS.iand X0.here hx rfl (hb hby d1_3) rfl ?_
    show Steps p.tables e below (s₁.setTop (mkF m 4 #[.val (.int p0)] [(.int (p0 &&& (2147483647 : Int32)))])) _
    refine X0.ldcInt hx hown (mvT hZ (hw _ (List.mem_of_getElem? (i := 5) rfl))) (g := (mkF m 4 #[.val (.int p0)] [(.int (p0 &&& (2147483647 : Int32)))])) rfl (hb hby d1_4) _ ?_
    show Steps p.tables e below (s₁.setTop (mkF m 6 #[.val (.int p0)] [(.int (134217729 : Int32)), (.int (p0 &&& (2147483647 : Int32)))])) _
    refine iremM X0 hx rfl (hb hby d1_6) rfl (by decide) ?_
    show Steps p.tables e below (s₁.setTop (mkF m 7 #[.val (.int p0)] [(.int ((p0 &&& (2147483647 : Int32)) % (134217729 : Int32)))])) _
    exact retI X0 hx Bd.returns (hb hby d1_7) hr
  · show Qrm1 Z p0 h0 n0 _ s₁.heap _
    rw [e0]
    exact ⟨rfl, N0, rfl⟩
theorem d2_0 : decode prog_14_method_19_code 0 = .ok (.lconst 1, 1) := by decide +kernel
theorem d2_1 : decode prog_14_method_19_code 1 = .ok (.lstore_n 1, 1) := by decide +kernel
theorem d2_2 : decode prog_14_method_19_code 2 = .ok (.aload_n 0, 1) := by decide +kernel
theorem d2_3 : decode prog_14_method_19_code 3 = .ok (.astore_n 3, 1) := by decide +kernel
theorem d2_4 : decode prog_14_method_19_code 4 = .ok (.aload_n 3, 1) := by decide +kernel
theorem d2_5 : decode prog_14_method_19_code 5 = .ok (.arraylength, 1) := by decide +kernel
theorem d2_6 : decode prog_14_method_19_code 6 = .ok (.istore 4, 2) := by decide +kernel
theorem d2_8 : decode prog_14_method_19_code 8 = .ok (.iconst 0, 1) := by decide +kernel
theorem d2_9 : decode prog_14_method_19_code 9 = .ok (.istore 5, 2) := by decide +kernel
theorem d2_11 : decode prog_14_method_19_code 11 = .ok (.iload 5, 2) := by decide +kernel
theorem d2_13 : decode prog_14_method_19_code 13 = .ok (.iload 4, 2) := by decide +kernel
theorem d2_15 : decode prog_14_method_19_code 15 = .ok (.if_icmp .ge 21, 3) := by decide +kernel
theorem d2_36 : decode prog_14_method_19_code 36 = .ok (.lload_n 1, 1) := by decide +kernel
theorem d2_37 : decode prog_14_method_19_code 37 = .ok (.lreturn, 1) := by decide +kernel
theorem pn_2 : plainName "com/example/epitome/epitome/cube/CubeCells" = true := by first | (simp [plainName, overriddenIn]; done) | decide +kernel
theorem ef_rm2_0 (m : MethodId) (a0 : Addr) : entryFrame m #[(.ref a0)] 7 = mkF m 0 #[.val (.ref a0), .unset, .unset, .unset, .unset, .unset, .unset] [] := by first | (simp [entryFrame, mkF, argsToLocals, Value.category]; done) | rfl
def Qrm2_0 (Z : State) (a0 : Addr) (kk : ClassId) (h0 : Heap) (n0 : Nat) (v : Option Value) (h : Heap) (L : List Loc) : Prop := v = some (.long (1 : Int64)) ∧ Fr n0 L ∧ h = h0
set_option maxRecDepth 65536 in
set_option maxHeartbeats 40000000 in
theorem rm2_0 (l : Launch) (Z : State) (A0 : Array Value) (hw : ∀ d ∈ tables_1, d.before A0 Z = true) (ws : List Jvm.Cond) (a0 : Addr) (kk : ClassId) (h0 : Heap) (n0 : Nat) (Z0 : n0 ≤ h0.size) (V_a0 : Arv Z h0 a0 kk .int (0 : Int32) [] (.int (0 : Int32))) :
    MetFree l (⟨"com/example/epitome/epitome/cube/CubeCells", "product", "([I)J"⟩ : MethodName) (head1 (Jvm.Cond.code (⟨"com/example/epitome/epitome/cube/CubeCells", "product", "([I)J"⟩ : MethodName) prog_14_method_19_code 7 (some .long) :: ws) ({ frames := 0, cells := 0, slots := 0, locals := 0 } : Room)) (fun a U => a = #[(.ref a0)] ∧ Z.Warmed39 U.vm ∧ U.heap = h0) (fun _ _ _ _ _ => True) (fun _ U o U' => ∃ v L, o = .returned v ∧ Qrm2_0 Z a0 kk h0 n0 v U'.heap L ∧ FrameEnd U o U' L ({ frames := 0, cells := 0, slots := 0, locals := 0 } : Room).cells ({ frames := 0, cells := 0, slots := 0, locals := 0 } : Room).slots) := by
  refine MetFree.of_bodySF (plainFor_of_name pn_2) hisR ?_
  intro p e s m args below meth c s₁ Bd hml0 hP hK
  obtain ⟨rfl, hZ, hh⟩ := hP
  have hx := Bd.exec
  have hby := Bd.bytes
  have hml : c.maxLocals = 7 := hml0
  have hown : s.vm.findClass "com/example/epitome/epitome/cube/CubeCells" = some m.cls := findClass_of_methodNamed Bd.named
  have hnm := (name_of_methodNamed Bd.named Bd.method).1
  have X0 : Stand p l e ({ frames := 0, cells := 0, slots := 0, locals := 0 } : Room) s m #[(.ref a0)] below meth c s₁ [] 0 0 := Stand.of_body Bd
  have e0 : s₁.heap = h0 := by rw [← hh, Bd.state]; rfl
  have N0 := Fr.nil n0
  have K0 : Keep h0 h0 [] := Keep.refl _ _
  have pre0 : ∀ t, Steps p.tables e below (s₁.setTop (mkF m 0 #[.val (.ref a0), .unset, .unset, .unset, .unset, .unset, .unset] [])) t → Steps p.tables e below (s₁.setTop (entryFrame m #[(.ref a0)] 7)) t := fun t k => castTop (ef_rm2_0 m a0) k
  obtain ⟨cl1, Ar1, -, SS1, MM1, -, -⟩ := id V_a0
  obtain ⟨fs, hr, hrun, hended, hW, hsame⟩ := X0.leave (v := some (.long (1 : Int64))) (fun h => by rw [Bd.returns] at h; cases h)
  refine ⟨_, _, pre0 _ ?_, hrun, hended, _, _, rfl, ?_, ⟨_, rfl⟩, hW, hsame.mono (by decide) (by decide)⟩
  · show Steps p.tables e below (s₁.setTop (mkF m 0 #[.val (.ref a0), .unset, .unset, .unset, .unset, .unset, .unset] [])) _
    refine XS.lconst X0.here hx rfl (hb hby d2_0) ?_
    show Steps p.tables e below (s₁.setTop (mkF m 1 #[.val (.ref a0), .unset, .unset, .unset, .unset, .unset, .unset] [(.long (1 : Int64))])) _
    refine XS.lstoreN X0.here hx rfl (hb hby d2_1) rfl (l' := #[.val (.ref a0), .val (.long (1 : Int64)), .second, .unset, .unset, .unset, .unset]) rfl ?_
    show Steps p.tables e below (s₁.setTop (mkF m 2 #[.val (.ref a0), .val (.long (1 : Int64)), .second, .unset, .unset, .unset, .unset] [])) _
    refine XS.aloadN X0.here hx rfl (hb hby d2_2) rfl rfl ?_
    show Steps p.tables e below (s₁.setTop (mkF m 3 #[.val (.ref a0), .val (.long (1 : Int64)), .second, .unset, .unset, .unset, .unset] [(.ref a0)])) _
    refine XS.astoreN X0.here hx rfl (hb hby d2_3) rfl rfl (l' := #[.val (.ref a0), .val (.long (1 : Int64)), .second, .val (.ref a0), .unset, .unset, .unset]) rfl ?_
    show Steps p.tables e below (s₁.setTop (mkF m 4 #[.val (.ref a0), .val (.long (1 : Int64)), .second, .val (.ref a0), .unset, .unset, .unset] [])) _
    refine XS.aloadN X0.here hx rfl (hb hby d2_4) rfl rfl ?_
    show Steps p.tables e below (s₁.setTop (mkF m 5 #[.val (.ref a0), .val (.long (1 : Int64)), .second, .val (.ref a0), .unset, .unset, .unset] [(.ref a0)])) _
    refine X0.arraylength hx (by rw [e0]; exact Ar1.1) (State.isArrayOf_alike hZ.alike Ar1.2.1) (g := (mkF m 5 #[.val (.ref a0), .val (.long (1 : Int64)), .second, .val (.ref a0), .unset, .unset, .unset] [(.ref a0)])) rfl rfl (hb hby d2_5) _ ?_
    rw [len_of SS1 MM1]
    show Steps p.tables e below (s₁.setTop (mkF m 6 #[.val (.ref a0), .val (.long (1 : Int64)), .second, .val (.ref a0), .unset, .unset, .unset] [(.int (0 : Int32))])) _
    refine XS.istore X0.here hx rfl (hb hby d2_6) rfl (l' := #[.val (.ref a0), .val (.long (1 : Int64)), .second, .val (.ref a0), .val (.int (0 : Int32)), .unset, .unset]) rfl ?_
    show Steps p.tables e below (s₁.setTop (mkF m 8 #[.val (.ref a0), .val (.long (1 : Int64)), .second, .val (.ref a0), .val (.int (0 : Int32)), .unset, .unset] [])) _
    refine XS.iconst X0.here hx rfl (hb hby d2_8) ?_
    show Steps p.tables e below (s₁.setTop (mkF m 9 #[.val (.ref a0), .val (.long (1 : Int64)), .second, .val (.ref a0), .val (.int (0 : Int32)), .unset, .unset] [(.int (0 : Int32))])) _
    refine XS.istore X0.here hx rfl (hb hby d2_9) rfl (l' := #[.val (.ref a0), .val (.long (1 : Int64)), .second, .val (.ref a0), .val (.int (0 : Int32)), .val (.int (0 : Int32)), .unset]) rfl ?_
    show Steps p.tables e below (s₁.setTop (mkF m 11 #[.val (.ref a0), .val (.long (1 : Int64)), .second, .val (.ref a0), .val (.int (0 : Int32)), .val (.int (0 : Int32)), .unset] [])) _
    refine XS.iload X0.here hx rfl (hb hby d2_11) rfl ?_
    show Steps p.tables e below (s₁.setTop (mkF m 13 #[.val (.ref a0), .val (.long (1 : Int64)), .second, .val (.ref a0), .val (.int (0 : Int32)), .val (.int (0 : Int32)), .unset] [(.int (0 : Int32))])) _
    refine XS.iload X0.here hx rfl (hb hby d2_13) rfl ?_
    show Steps p.tables e below (s₁.setTop (mkF m 15 #[.val (.ref a0), .val (.long (1 : Int64)), .second, .val (.ref a0), .val (.int (0 : Int32)), .val (.int (0 : Int32)), .unset] [(.int (0 : Int32)), (.int (0 : Int32))])) _
    refine XS.icmpYes X0.here hx rfl (pc0 := 15) (pc' := 36) rfl (hb hby d2_15) rfl (flt (by decide : ¬ ((0 : Int32) < (0 : Int32)))).2.1 (by decide) (by decide) ?_
    show Steps p.tables e below (s₁.setTop (mkF m 36 #[.val (.ref a0), .val (.long (1 : Int64)), .second, .val (.ref a0), .val (.int (0 : Int32)), .val (.int (0 : Int32)), .unset] [])) _
    refine XS.lloadN X0.here hx rfl (hb hby d2_36) rfl ?_
    show Steps p.tables e below (s₁.setTop (mkF m 37 #[.val (.ref a0), .val (.long (1 : Int64)), .second, .val (.ref a0), .val (.int (0 : Int32)), .val (.int (0 : Int32)), .unset] [(.long (1 : Int64))])) _
    exact own_retJ X0 hx Bd.returns (hb hby d2_37) hr
  · show Qrm2_0 Z a0 kk h0 n0 _ s₁.heap _
    rw [e0]
    exact ⟨rfl, N0, rfl⟩
theorem d2_18 : decode prog_14_method_19_code 18 = .ok (.aload_n 3, 1) := by decide +kernel
theorem d2_19 : decode prog_14_method_19_code 19 = .ok (.iload 5, 2) := by decide +kernel
theorem d2_21 : decode prog_14_method_19_code 21 = .ok (.iaload, 1) := by decide +kernel
theorem d2_22 : decode prog_14_method_19_code 22 = .ok (.istore 6, 2) := by decide +kernel
theorem d2_24 : decode prog_14_method_19_code 24 = .ok (.lload_n 1, 1) := by decide +kernel
theorem d2_25 : decode prog_14_method_19_code 25 = .ok (.iload 6, 2) := by decide +kernel
theorem d2_27 : decode prog_14_method_19_code 27 = .ok (.i2l, 1) := by decide +kernel
theorem d2_28 : decode prog_14_method_19_code 28 = .ok (.lmul, 1) := by decide +kernel
theorem d2_29 : decode prog_14_method_19_code 29 = .ok (.lstore_n 1, 1) := by decide +kernel
theorem d2_30 : decode prog_14_method_19_code 30 = .ok (.iinc 5 1, 3) := by decide +kernel
theorem d2_33 : decode prog_14_method_19_code 33 = .ok (.goto (-22), 3) := by decide +kernel
theorem ef_rm2_1 (m : MethodId) (a0 : Addr) : entryFrame m #[(.ref a0)] 7 = mkF m 0 #[.val (.ref a0), .unset, .unset, .unset, .unset, .unset, .unset] [] := by first | (simp [entryFrame, mkF, argsToLocals, Value.category]; done) | rfl
def Qrm2_1 (Z : State) (a0 : Addr) (kk : ClassId) (z0 : Int32) (h0 : Heap) (n0 : Nat) (v : Option Value) (h : Heap) (L : List Loc) : Prop := v = some (.long ((1 : Int64) * (z0.toInt64))) ∧ Fr n0 L ∧ h = h0
set_option maxRecDepth 65536 in
set_option maxHeartbeats 40000000 in
theorem rm2_1 (l : Launch) (Z : State) (A0 : Array Value) (hw : ∀ d ∈ tables_1, d.before A0 Z = true) (ws : List Jvm.Cond) (a0 : Addr) (kk : ClassId) (z0 : Int32) (h0 : Heap) (n0 : Nat) (Z0 : n0 ≤ h0.size) (V_a0 : Arv Z h0 a0 kk .int (1 : Int32) [(.int z0)] (.int (0 : Int32))) :
    MetFree l (⟨"com/example/epitome/epitome/cube/CubeCells", "product", "([I)J"⟩ : MethodName) (head1 (Jvm.Cond.code (⟨"com/example/epitome/epitome/cube/CubeCells", "product", "([I)J"⟩ : MethodName) prog_14_method_19_code 7 (some .long) :: ws) ({ frames := 0, cells := 0, slots := 0, locals := 0 } : Room)) (fun a U => a = #[(.ref a0)] ∧ Z.Warmed39 U.vm ∧ U.heap = h0) (fun _ _ _ _ _ => True) (fun _ U o U' => ∃ v L, o = .returned v ∧ Qrm2_1 Z a0 kk z0 h0 n0 v U'.heap L ∧ FrameEnd U o U' L ({ frames := 0, cells := 0, slots := 0, locals := 0 } : Room).cells ({ frames := 0, cells := 0, slots := 0, locals := 0 } : Room).slots) := by
  refine MetFree.of_bodySF (plainFor_of_name pn_2) hisR ?_
  intro p e s m args below meth c s₁ Bd hml0 hP hK
  obtain ⟨rfl, hZ, hh⟩ := hP
  have hx := Bd.exec
  have hby := Bd.bytes
  have hml : c.maxLocals = 7 := hml0
  have hown : s.vm.findClass "com/example/epitome/epitome/cube/CubeCells" = some m.cls := findClass_of_methodNamed Bd.named
  have hnm := (name_of_methodNamed Bd.named Bd.method).1
  have X0 : Stand p l e ({ frames := 0, cells := 0, slots := 0, locals := 0 } : Room) s m #[(.ref a0)] below meth c s₁ [] 0 0 := Stand.of_body Bd
  have e0 : s₁.heap = h0 := by rw [← hh, Bd.state]; rfl
  have N0 := Fr.nil n0
  have K0 : Keep h0 h0 [] := Keep.refl _ _
  have pre0 : ∀ t, Steps p.tables e below (s₁.setTop (mkF m 0 #[.val (.ref a0), .unset, .unset, .unset, .unset, .unset, .unset] [])) t → Steps p.tables e below (s₁.setTop (entryFrame m #[(.ref a0)] 7)) t := fun t k => castTop (ef_rm2_1 m a0) k
  obtain ⟨cl1, Ar1, -, SS1, MM1, -, -⟩ := id V_a0
  obtain ⟨cl2, Ar2, -, SS2, MM2, HH2, -⟩ := id V_a0
  have hin2 := inb_of SS2 (j := (0 : Int32)) ⟨by decide, by decide⟩
  have hat2 : cl2.slots[((0 : Int32)).toNatClampNeg]? = some (.int z0) := HH2.at hin2 rfl
  obtain ⟨fs, hr, hrun, hended, hW, hsame⟩ := X0.leave (v := some (.long ((1 : Int64) * (z0.toInt64)))) (fun h => by rw [Bd.returns] at h; cases h)
  refine ⟨_, _, pre0 _ ?_, hrun, hended, _, _, rfl, ?_, ⟨_, rfl⟩, hW, hsame.mono (by decide) (by decide)⟩
  · show Steps p.tables e below (s₁.setTop (mkF m 0 #[.val (.ref a0), .unset, .unset, .unset, .unset, .unset, .unset] [])) _
    refine XS.lconst X0.here hx rfl (hb hby d2_0) ?_
    show Steps p.tables e below (s₁.setTop (mkF m 1 #[.val (.ref a0), .unset, .unset, .unset, .unset, .unset, .unset] [(.long (1 : Int64))])) _
    refine XS.lstoreN X0.here hx rfl (hb hby d2_1) rfl (l' := #[.val (.ref a0), .val (.long (1 : Int64)), .second, .unset, .unset, .unset, .unset]) rfl ?_
    show Steps p.tables e below (s₁.setTop (mkF m 2 #[.val (.ref a0), .val (.long (1 : Int64)), .second, .unset, .unset, .unset, .unset] [])) _
    refine XS.aloadN X0.here hx rfl (hb hby d2_2) rfl rfl ?_
    show Steps p.tables e below (s₁.setTop (mkF m 3 #[.val (.ref a0), .val (.long (1 : Int64)), .second, .unset, .unset, .unset, .unset] [(.ref a0)])) _
    refine XS.astoreN X0.here hx rfl (hb hby d2_3) rfl rfl (l' := #[.val (.ref a0), .val (.long (1 : Int64)), .second, .val (.ref a0), .unset, .unset, .unset]) rfl ?_
    show Steps p.tables e below (s₁.setTop (mkF m 4 #[.val (.ref a0), .val (.long (1 : Int64)), .second, .val (.ref a0), .unset, .unset, .unset] [])) _
    refine XS.aloadN X0.here hx rfl (hb hby d2_4) rfl rfl ?_
    show Steps p.tables e below (s₁.setTop (mkF m 5 #[.val (.ref a0), .val (.long (1 : Int64)), .second, .val (.ref a0), .unset, .unset, .unset] [(.ref a0)])) _
    refine X0.arraylength hx (by rw [e0]; exact Ar1.1) (State.isArrayOf_alike hZ.alike Ar1.2.1) (g := (mkF m 5 #[.val (.ref a0), .val (.long (1 : Int64)), .second, .val (.ref a0), .unset, .unset, .unset] [(.ref a0)])) rfl rfl (hb hby d2_5) _ ?_
    rw [len_of SS1 MM1]
    show Steps p.tables e below (s₁.setTop (mkF m 6 #[.val (.ref a0), .val (.long (1 : Int64)), .second, .val (.ref a0), .unset, .unset, .unset] [(.int (1 : Int32))])) _
    refine XS.istore X0.here hx rfl (hb hby d2_6) rfl (l' := #[.val (.ref a0), .val (.long (1 : Int64)), .second, .val (.ref a0), .val (.int (1 : Int32)), .unset, .unset]) rfl ?_
    show Steps p.tables e below (s₁.setTop (mkF m 8 #[.val (.ref a0), .val (.long (1 : Int64)), .second, .val (.ref a0), .val (.int (1 : Int32)), .unset, .unset] [])) _
    refine XS.iconst X0.here hx rfl (hb hby d2_8) ?_
    show Steps p.tables e below (s₁.setTop (mkF m 9 #[.val (.ref a0), .val (.long (1 : Int64)), .second, .val (.ref a0), .val (.int (1 : Int32)), .unset, .unset] [(.int (0 : Int32))])) _
    refine XS.istore X0.here hx rfl (hb hby d2_9) rfl (l' := #[.val (.ref a0), .val (.long (1 : Int64)), .second, .val (.ref a0), .val (.int (1 : Int32)), .val (.int (0 : Int32)), .unset]) rfl ?_
    show Steps p.tables e below (s₁.setTop (mkF m 11 #[.val (.ref a0), .val (.long (1 : Int64)), .second, .val (.ref a0), .val (.int (1 : Int32)), .val (.int (0 : Int32)), .unset] [])) _
    refine XS.iload X0.here hx rfl (hb hby d2_11) rfl ?_
    show Steps p.tables e below (s₁.setTop (mkF m 13 #[.val (.ref a0), .val (.long (1 : Int64)), .second, .val (.ref a0), .val (.int (1 : Int32)), .val (.int (0 : Int32)), .unset] [(.int (0 : Int32))])) _
    refine XS.iload X0.here hx rfl (hb hby d2_13) rfl ?_
    show Steps p.tables e below (s₁.setTop (mkF m 15 #[.val (.ref a0), .val (.long (1 : Int64)), .second, .val (.ref a0), .val (.int (1 : Int32)), .val (.int (0 : Int32)), .unset] [(.int (1 : Int32)), (.int (0 : Int32))])) _
    refine XS.icmpNo X0.here hx rfl (hb hby d2_15) rfl (tlt (by decide : (0 : Int32) < (1 : Int32))).2.1 ?_
    show Steps p.tables e below (s₁.setTop (mkF m 18 #[.val (.ref a0), .val (.long (1 : Int64)), .second, .val (.ref a0), .val (.int (1 : Int32)), .val (.int (0 : Int32)), .unset] [])) _
    refine XS.aloadN X0.here hx rfl (hb hby d2_18) rfl rfl ?_
    show Steps p.tables e below (s₁.setTop (mkF m 19 #[.val (.ref a0), .val (.long (1 : Int64)), .second, .val (.ref a0), .val (.int (1 : Int32)), .val (.int (0 : Int32)), .unset] [(.ref a0)])) _
    refine XS.iload X0.here hx rfl (hb hby d2_19) rfl ?_
    show Steps p.tables e below (s₁.setTop (mkF m 21 #[.val (.ref a0), .val (.long (1 : Int64)), .second, .val (.ref a0), .val (.int (1 : Int32)), .val (.int (0 : Int32)), .unset] [(.int (0 : Int32)), (.ref a0)])) _
    refine X0.iaload hx (j := (0 : Int32)) (v := (.int z0)) (by rw [e0]; exact Ar2.1) (State.isArrayOf_alike hZ.alike Ar2.2.1) Ar2.2.2 hin2 hat2 (g := (mkF m 21 #[.val (.ref a0), .val (.long (1 : Int64)), .second, .val (.ref a0), .val (.int (1 : Int32)), .val (.int (0 : Int32)), .unset] [(.int (0 : Int32)), (.ref a0)])) rfl rfl (hb hby d2_21) _ ?_
    show Steps p.tables e below (s₁.setTop (mkF m 22 #[.val (.ref a0), .val (.long (1 : Int64)), .second, .val (.ref a0), .val (.int (1 : Int32)), .val (.int (0 : Int32)), .unset] [(.int z0)])) _
    refine XS.istore X0.here hx rfl (hb hby d2_22) rfl (l' := #[.val (.ref a0), .val (.long (1 : Int64)), .second, .val (.ref a0), .val (.int (1 : Int32)), .val (.int (0 : Int32)), .val (.int z0)]) rfl ?_
    show Steps p.tables e below (s₁.setTop (mkF m 24 #[.val (.ref a0), .val (.long (1 : Int64)), .second, .val (.ref a0), .val (.int (1 : Int32)), .val (.int (0 : Int32)), .val (.int z0)] [])) _
    refine XS.lloadN X0.here hx rfl (hb hby d2_24) rfl ?_
    show Steps p.tables e below (s₁.setTop (mkF m 25 #[.val (.ref a0), .val (.long (1 : Int64)), .second, .val (.ref a0), .val (.int (1 : Int32)), .val (.int (0 : Int32)), .val (.int z0)] [(.long (1 : Int64))])) _
    refine XS.iload X0.here hx rfl (hb hby d2_25) rfl ?_
    show Steps p.tables e below (s₁.setTop (mkF m 27 #[.val (.ref a0), .val (.long (1 : Int64)), .second, .val (.ref a0), .val (.int (1 : Int32)), .val (.int (0 : Int32)), .val (.int z0)] [(.int z0), (.long (1 : Int64))])) _
    refine XS.i2l X0.here hx rfl (hb hby d2_27) rfl ?_
    show Steps p.tables e below (s₁.setTop (mkF m 28 #[.val (.ref a0), .val (.long (1 : Int64)), .second, .val (.ref a0), .val (.int (1 : Int32)), .val (.int (0 : Int32)), .val (.int z0)] [(.long (z0.toInt64)), (.long (1 : Int64))])) _
    refine XS.lmul X0.here hx rfl (hb hby d2_28) rfl ?_
    show Steps p.tables e below (s₁.setTop (mkF m 29 #[.val (.ref a0), .val (.long (1 : Int64)), .second, .val (.ref a0), .val (.int (1 : Int32)), .val (.int (0 : Int32)), .val (.int z0)] [(.long ((1 : Int64) * (z0.toInt64)))])) _
    refine XS.lstoreN X0.here hx rfl (hb hby d2_29) rfl (l' := #[.val (.ref a0), .val (.long ((1 : Int64) * (z0.toInt64))), .second, .val (.ref a0), .val (.int (1 : Int32)), .val (.int (0 : Int32)), .val (.int z0)]) rfl ?_
    show Steps p.tables e below (s₁.setTop (mkF m 30 #[.val (.ref a0), .val (.long ((1 : Int64) * (z0.toInt64))), .second, .val (.ref a0), .val (.int (1 : Int32)), .val (.int (0 : Int32)), .val (.int z0)] [])) _
    refine XS.iinc X0.here hx rfl (hb hby d2_30) rfl (l' := #[.val (.ref a0), .val (.long ((1 : Int64) * (z0.toInt64))), .second, .val (.ref a0), .val (.int (1 : Int32)), .val (.int ((0 : Int32) + (1 : Int32))), .val (.int z0)]) rfl ?_
    show Steps p.tables e below (s₁.setTop (mkF m 33 #[.val (.ref a0), .val (.long ((1 : Int64) * (z0.toInt64))), .second, .val (.ref a0), .val (.int (1 : Int32)), .val (.int ((0 : Int32) + (1 : Int32))), .val (.int z0)] [])) _
    refine XS.goto X0.here hx rfl (pc0 := 33) (pc' := 11) rfl (hb hby d2_33) (by decide) (by decide) ?_
    show Steps p.tables e below (s₁.setTop (mkF m 11 #[.val (.ref a0), .val (.long ((1 : Int64) * (z0.toInt64))), .second, .val (.ref a0), .val (.int (1 : Int32)), .val (.int ((0 : Int32) + (1 : Int32))), .val (.int z0)] [])) _
    refine XS.iload X0.here hx rfl (hb hby d2_11) rfl ?_
    show Steps p.tables e below (s₁.setTop (mkF m 13 #[.val (.ref a0), .val (.long ((1 : Int64) * (z0.toInt64))), .second, .val (.ref a0), .val (.int (1 : Int32)), .val (.int ((0 : Int32) + (1 : Int32))), .val (.int z0)] [(.int ((0 : Int32) + (1 : Int32)))])) _
    refine XS.iload X0.here hx rfl (hb hby d2_13) rfl ?_
    show Steps p.tables e below (s₁.setTop (mkF m 15 #[.val (.ref a0), .val (.long ((1 : Int64) * (z0.toInt64))), .second, .val (.ref a0), .val (.int (1 : Int32)), .val (.int ((0 : Int32) + (1 : Int32))), .val (.int z0)] [(.int (1 : Int32)), (.int ((0 : Int32) + (1 : Int32)))])) _
    refine XS.icmpYes X0.here hx rfl (pc0 := 15) (pc' := 36) rfl (hb hby d2_15) rfl (flt (by decide : ¬ (((0 : Int32) + (1 : Int32)) < (1 : Int32)))).2.1 (by decide) (by decide) ?_
    show Steps p.tables e below (s₁.setTop (mkF m 36 #[.val (.ref a0), .val (.long ((1 : Int64) * (z0.toInt64))), .second, .val (.ref a0), .val (.int (1 : Int32)), .val (.int ((0 : Int32) + (1 : Int32))), .val (.int z0)] [])) _
    refine XS.lloadN X0.here hx rfl (hb hby d2_36) rfl ?_
    show Steps p.tables e below (s₁.setTop (mkF m 37 #[.val (.ref a0), .val (.long ((1 : Int64) * (z0.toInt64))), .second, .val (.ref a0), .val (.int (1 : Int32)), .val (.int ((0 : Int32) + (1 : Int32))), .val (.int z0)] [(.long ((1 : Int64) * (z0.toInt64)))])) _
    exact own_retJ X0 hx Bd.returns (hb hby d2_37) hr
  · show Qrm2_1 Z a0 kk z0 h0 n0 _ s₁.heap _
    rw [e0]
    exact ⟨rfl, N0, rfl⟩
theorem ef_rm2_2 (m : MethodId) (a0 : Addr) : entryFrame m #[(.ref a0)] 7 = mkF m 0 #[.val (.ref a0), .unset, .unset, .unset, .unset, .unset, .unset] [] := by first | (simp [entryFrame, mkF, argsToLocals, Value.category]; done) | rfl
def Qrm2_2 (Z : State) (a0 : Addr) (kk : ClassId) (z0 : Int32) (z1 : Int32) (h0 : Heap) (n0 : Nat) (v : Option Value) (h : Heap) (L : List Loc) : Prop := v = some (.long (((1 : Int64) * (z0.toInt64)) * (z1.toInt64))) ∧ Fr n0 L ∧ h = h0
set_option maxRecDepth 65536 in
set_option maxHeartbeats 40000000 in
theorem rm2_2 (l : Launch) (Z : State) (A0 : Array Value) (hw : ∀ d ∈ tables_1, d.before A0 Z = true) (ws : List Jvm.Cond) (a0 : Addr) (kk : ClassId) (z0 : Int32) (z1 : Int32) (h0 : Heap) (n0 : Nat) (Z0 : n0 ≤ h0.size) (V_a0 : Arv Z h0 a0 kk .int (2 : Int32) [(.int z0), (.int z1)] (.int (0 : Int32))) :
    MetFree l (⟨"com/example/epitome/epitome/cube/CubeCells", "product", "([I)J"⟩ : MethodName) (head1 (Jvm.Cond.code (⟨"com/example/epitome/epitome/cube/CubeCells", "product", "([I)J"⟩ : MethodName) prog_14_method_19_code 7 (some .long) :: ws) ({ frames := 0, cells := 0, slots := 0, locals := 0 } : Room)) (fun a U => a = #[(.ref a0)] ∧ Z.Warmed39 U.vm ∧ U.heap = h0) (fun _ _ _ _ _ => True) (fun _ U o U' => ∃ v L, o = .returned v ∧ Qrm2_2 Z a0 kk z0 z1 h0 n0 v U'.heap L ∧ FrameEnd U o U' L ({ frames := 0, cells := 0, slots := 0, locals := 0 } : Room).cells ({ frames := 0, cells := 0, slots := 0, locals := 0 } : Room).slots) := by
  refine MetFree.of_bodySF (plainFor_of_name pn_2) hisR ?_
  intro p e s m args below meth c s₁ Bd hml0 hP hK
  obtain ⟨rfl, hZ, hh⟩ := hP
  have hx := Bd.exec
  have hby := Bd.bytes
  have hml : c.maxLocals = 7 := hml0
  have hown : s.vm.findClass "com/example/epitome/epitome/cube/CubeCells" = some m.cls := findClass_of_methodNamed Bd.named
  have hnm := (name_of_methodNamed Bd.named Bd.method).1
  have X0 : Stand p l e ({ frames := 0, cells := 0, slots := 0, locals := 0 } : Room) s m #[(.ref a0)] below meth c s₁ [] 0 0 := Stand.of_body Bd
  have e0 : s₁.heap = h0 := by rw [← hh, Bd.state]; rfl
  have N0 := Fr.nil n0
  have K0 : Keep h0 h0 [] := Keep.refl _ _
  have pre0 : ∀ t, Steps p.tables e below (s₁.setTop (mkF m 0 #[.val (.ref a0), .unset, .unset, .unset, .unset, .unset, .unset] [])) t → Steps p.tables e below (s₁.setTop (entryFrame m #[(.ref a0)] 7)) t := fun t k => castTop (ef_rm2_2 m a0) k
  obtain ⟨cl1, Ar1, -, SS1, MM1, -, -⟩ := id V_a0
  obtain ⟨cl2, Ar2, -, SS2, MM2, HH2, -⟩ := id V_a0
  have hin2 := inb_of SS2 (j := (0 : Int32)) ⟨by decide, by decide⟩
  have hat2 : cl2.slots[((0 : Int32)).toNatClampNeg]? = some (.int z0) := HH2.at hin2 rfl
  obtain ⟨cl3, Ar3, -, SS3, MM3, HH3, -⟩ := id V_a0
  have hin3 := inb_of SS3 (j := ((0 : Int32) + (1 : Int32))) ⟨by decide, by decide⟩
  have hat3 : cl3.slots[(((0 : Int32) + (1 : Int32))).toNatClampNeg]? = some (.int z1) := HH3.at hin3 rfl
  obtain ⟨fs, hr, hrun, hended, hW, hsame⟩ := X0.leave (v := some (.long (((1 : Int64) * (z0.toInt64)) * (z1.toInt64)))) (fun h => by rw [Bd.returns] at h; cases h)
  refine ⟨_, _, pre0 _ ?_, hrun, hended, _, _, rfl, ?_, ⟨_, rfl⟩, hW, hsame.mono (by decide) (by decide)⟩
  · show Steps p.tables e below (s₁.setTop (mkF m 0 #[.val (.ref a0), .unset, .unset, .unset, .unset, .unset, .unset] [])) _
    refine XS.lconst X0.here hx rfl (hb hby d2_0) ?_
    show Steps p.tables e below (s₁.setTop (mkF m 1 #[.val (.ref a0), .unset, .unset, .unset, .unset, .unset, .unset] [(.long (1 : Int64))])) _
    refine XS.lstoreN X0.here hx rfl (hb hby d2_1) rfl (l' := #[.val (.ref a0), .val (.long (1 : Int64)), .second, .unset, .unset, .unset, .unset]) rfl ?_
    show Steps p.tables e below (s₁.setTop (mkF m 2 #[.val (.ref a0), .val (.long (1 : Int64)), .second, .unset, .unset, .unset, .unset] [])) _
    refine XS.aloadN X0.here hx rfl (hb hby d2_2) rfl rfl ?_
    show Steps p.tables e below (s₁.setTop (mkF m 3 #[.val (.ref a0), .val (.long (1 : Int64)), .second, .unset, .unset, .unset, .unset] [(.ref a0)])) _
    refine XS.astoreN X0.here hx rfl (hb hby d2_3) rfl rfl (l' := #[.val (.ref a0), .val (.long (1 : Int64)), .second, .val (.ref a0), .unset, .unset, .unset]) rfl ?_
    show Steps p.tables e below (s₁.setTop (mkF m 4 #[.val (.ref a0), .val (.long (1 : Int64)), .second, .val (.ref a0), .unset, .unset, .unset] [])) _
    refine XS.aloadN X0.here hx rfl (hb hby d2_4) rfl rfl ?_
    show Steps p.tables e below (s₁.setTop (mkF m 5 #[.val (.ref a0), .val (.long (1 : Int64)), .second, .val (.ref a0), .unset, .unset, .unset] [(.ref a0)])) _
    refine X0.arraylength hx (by rw [e0]; exact Ar1.1) (State.isArrayOf_alike hZ.alike Ar1.2.1) (g := (mkF m 5 #[.val (.ref a0), .val (.long (1 : Int64)), .second, .val (.ref a0), .unset, .unset, .unset] [(.ref a0)])) rfl rfl (hb hby d2_5) _ ?_
    rw [len_of SS1 MM1]
    show Steps p.tables e below (s₁.setTop (mkF m 6 #[.val (.ref a0), .val (.long (1 : Int64)), .second, .val (.ref a0), .unset, .unset, .unset] [(.int (2 : Int32))])) _
    refine XS.istore X0.here hx rfl (hb hby d2_6) rfl (l' := #[.val (.ref a0), .val (.long (1 : Int64)), .second, .val (.ref a0), .val (.int (2 : Int32)), .unset, .unset]) rfl ?_
    show Steps p.tables e below (s₁.setTop (mkF m 8 #[.val (.ref a0), .val (.long (1 : Int64)), .second, .val (.ref a0), .val (.int (2 : Int32)), .unset, .unset] [])) _
    refine XS.iconst X0.here hx rfl (hb hby d2_8) ?_
    show Steps p.tables e below (s₁.setTop (mkF m 9 #[.val (.ref a0), .val (.long (1 : Int64)), .second, .val (.ref a0), .val (.int (2 : Int32)), .unset, .unset] [(.int (0 : Int32))])) _
    refine XS.istore X0.here hx rfl (hb hby d2_9) rfl (l' := #[.val (.ref a0), .val (.long (1 : Int64)), .second, .val (.ref a0), .val (.int (2 : Int32)), .val (.int (0 : Int32)), .unset]) rfl ?_
    show Steps p.tables e below (s₁.setTop (mkF m 11 #[.val (.ref a0), .val (.long (1 : Int64)), .second, .val (.ref a0), .val (.int (2 : Int32)), .val (.int (0 : Int32)), .unset] [])) _
    refine XS.iload X0.here hx rfl (hb hby d2_11) rfl ?_
    show Steps p.tables e below (s₁.setTop (mkF m 13 #[.val (.ref a0), .val (.long (1 : Int64)), .second, .val (.ref a0), .val (.int (2 : Int32)), .val (.int (0 : Int32)), .unset] [(.int (0 : Int32))])) _
    refine XS.iload X0.here hx rfl (hb hby d2_13) rfl ?_
    show Steps p.tables e below (s₁.setTop (mkF m 15 #[.val (.ref a0), .val (.long (1 : Int64)), .second, .val (.ref a0), .val (.int (2 : Int32)), .val (.int (0 : Int32)), .unset] [(.int (2 : Int32)), (.int (0 : Int32))])) _
    refine XS.icmpNo X0.here hx rfl (hb hby d2_15) rfl (tlt (by decide : (0 : Int32) < (2 : Int32))).2.1 ?_
    show Steps p.tables e below (s₁.setTop (mkF m 18 #[.val (.ref a0), .val (.long (1 : Int64)), .second, .val (.ref a0), .val (.int (2 : Int32)), .val (.int (0 : Int32)), .unset] [])) _
    refine XS.aloadN X0.here hx rfl (hb hby d2_18) rfl rfl ?_
    show Steps p.tables e below (s₁.setTop (mkF m 19 #[.val (.ref a0), .val (.long (1 : Int64)), .second, .val (.ref a0), .val (.int (2 : Int32)), .val (.int (0 : Int32)), .unset] [(.ref a0)])) _
    refine XS.iload X0.here hx rfl (hb hby d2_19) rfl ?_
    show Steps p.tables e below (s₁.setTop (mkF m 21 #[.val (.ref a0), .val (.long (1 : Int64)), .second, .val (.ref a0), .val (.int (2 : Int32)), .val (.int (0 : Int32)), .unset] [(.int (0 : Int32)), (.ref a0)])) _
    refine X0.iaload hx (j := (0 : Int32)) (v := (.int z0)) (by rw [e0]; exact Ar2.1) (State.isArrayOf_alike hZ.alike Ar2.2.1) Ar2.2.2 hin2 hat2 (g := (mkF m 21 #[.val (.ref a0), .val (.long (1 : Int64)), .second, .val (.ref a0), .val (.int (2 : Int32)), .val (.int (0 : Int32)), .unset] [(.int (0 : Int32)), (.ref a0)])) rfl rfl (hb hby d2_21) _ ?_
    show Steps p.tables e below (s₁.setTop (mkF m 22 #[.val (.ref a0), .val (.long (1 : Int64)), .second, .val (.ref a0), .val (.int (2 : Int32)), .val (.int (0 : Int32)), .unset] [(.int z0)])) _
    refine XS.istore X0.here hx rfl (hb hby d2_22) rfl (l' := #[.val (.ref a0), .val (.long (1 : Int64)), .second, .val (.ref a0), .val (.int (2 : Int32)), .val (.int (0 : Int32)), .val (.int z0)]) rfl ?_
    show Steps p.tables e below (s₁.setTop (mkF m 24 #[.val (.ref a0), .val (.long (1 : Int64)), .second, .val (.ref a0), .val (.int (2 : Int32)), .val (.int (0 : Int32)), .val (.int z0)] [])) _
    refine XS.lloadN X0.here hx rfl (hb hby d2_24) rfl ?_
    show Steps p.tables e below (s₁.setTop (mkF m 25 #[.val (.ref a0), .val (.long (1 : Int64)), .second, .val (.ref a0), .val (.int (2 : Int32)), .val (.int (0 : Int32)), .val (.int z0)] [(.long (1 : Int64))])) _
    refine XS.iload X0.here hx rfl (hb hby d2_25) rfl ?_
    show Steps p.tables e below (s₁.setTop (mkF m 27 #[.val (.ref a0), .val (.long (1 : Int64)), .second, .val (.ref a0), .val (.int (2 : Int32)), .val (.int (0 : Int32)), .val (.int z0)] [(.int z0), (.long (1 : Int64))])) _
    refine XS.i2l X0.here hx rfl (hb hby d2_27) rfl ?_
    show Steps p.tables e below (s₁.setTop (mkF m 28 #[.val (.ref a0), .val (.long (1 : Int64)), .second, .val (.ref a0), .val (.int (2 : Int32)), .val (.int (0 : Int32)), .val (.int z0)] [(.long (z0.toInt64)), (.long (1 : Int64))])) _
    refine XS.lmul X0.here hx rfl (hb hby d2_28) rfl ?_
    show Steps p.tables e below (s₁.setTop (mkF m 29 #[.val (.ref a0), .val (.long (1 : Int64)), .second, .val (.ref a0), .val (.int (2 : Int32)), .val (.int (0 : Int32)), .val (.int z0)] [(.long ((1 : Int64) * (z0.toInt64)))])) _
    refine XS.lstoreN X0.here hx rfl (hb hby d2_29) rfl (l' := #[.val (.ref a0), .val (.long ((1 : Int64) * (z0.toInt64))), .second, .val (.ref a0), .val (.int (2 : Int32)), .val (.int (0 : Int32)), .val (.int z0)]) rfl ?_
    show Steps p.tables e below (s₁.setTop (mkF m 30 #[.val (.ref a0), .val (.long ((1 : Int64) * (z0.toInt64))), .second, .val (.ref a0), .val (.int (2 : Int32)), .val (.int (0 : Int32)), .val (.int z0)] [])) _
    refine XS.iinc X0.here hx rfl (hb hby d2_30) rfl (l' := #[.val (.ref a0), .val (.long ((1 : Int64) * (z0.toInt64))), .second, .val (.ref a0), .val (.int (2 : Int32)), .val (.int ((0 : Int32) + (1 : Int32))), .val (.int z0)]) rfl ?_
    show Steps p.tables e below (s₁.setTop (mkF m 33 #[.val (.ref a0), .val (.long ((1 : Int64) * (z0.toInt64))), .second, .val (.ref a0), .val (.int (2 : Int32)), .val (.int ((0 : Int32) + (1 : Int32))), .val (.int z0)] [])) _
    refine XS.goto X0.here hx rfl (pc0 := 33) (pc' := 11) rfl (hb hby d2_33) (by decide) (by decide) ?_
    show Steps p.tables e below (s₁.setTop (mkF m 11 #[.val (.ref a0), .val (.long ((1 : Int64) * (z0.toInt64))), .second, .val (.ref a0), .val (.int (2 : Int32)), .val (.int ((0 : Int32) + (1 : Int32))), .val (.int z0)] [])) _
    refine XS.iload X0.here hx rfl (hb hby d2_11) rfl ?_
    show Steps p.tables e below (s₁.setTop (mkF m 13 #[.val (.ref a0), .val (.long ((1 : Int64) * (z0.toInt64))), .second, .val (.ref a0), .val (.int (2 : Int32)), .val (.int ((0 : Int32) + (1 : Int32))), .val (.int z0)] [(.int ((0 : Int32) + (1 : Int32)))])) _
    refine XS.iload X0.here hx rfl (hb hby d2_13) rfl ?_
    show Steps p.tables e below (s₁.setTop (mkF m 15 #[.val (.ref a0), .val (.long ((1 : Int64) * (z0.toInt64))), .second, .val (.ref a0), .val (.int (2 : Int32)), .val (.int ((0 : Int32) + (1 : Int32))), .val (.int z0)] [(.int (2 : Int32)), (.int ((0 : Int32) + (1 : Int32)))])) _
    refine XS.icmpNo X0.here hx rfl (hb hby d2_15) rfl (tlt (by decide : ((0 : Int32) + (1 : Int32)) < (2 : Int32))).2.1 ?_
    show Steps p.tables e below (s₁.setTop (mkF m 18 #[.val (.ref a0), .val (.long ((1 : Int64) * (z0.toInt64))), .second, .val (.ref a0), .val (.int (2 : Int32)), .val (.int ((0 : Int32) + (1 : Int32))), .val (.int z0)] [])) _
    refine XS.aloadN X0.here hx rfl (hb hby d2_18) rfl rfl ?_
    show Steps p.tables e below (s₁.setTop (mkF m 19 #[.val (.ref a0), .val (.long ((1 : Int64) * (z0.toInt64))), .second, .val (.ref a0), .val (.int (2 : Int32)), .val (.int ((0 : Int32) + (1 : Int32))), .val (.int z0)] [(.ref a0)])) _
    refine XS.iload X0.here hx rfl (hb hby d2_19) rfl ?_
    show Steps p.tables e below (s₁.setTop (mkF m 21 #[.val (.ref a0), .val (.long ((1 : Int64) * (z0.toInt64))), .second, .val (.ref a0), .val (.int (2 : Int32)), .val (.int ((0 : Int32) + (1 : Int32))), .val (.int z0)] [(.int ((0 : Int32) + (1 : Int32))), (.ref a0)])) _
    refine X0.iaload hx (j := ((0 : Int32) + (1 : Int32))) (v := (.int z1)) (by rw [e0]; exact Ar3.1) (State.isArrayOf_alike hZ.alike Ar3.2.1) Ar3.2.2 hin3 hat3 (g := (mkF m 21 #[.val (.ref a0), .val (.long ((1 : Int64) * (z0.toInt64))), .second, .val (.ref a0), .val (.int (2 : Int32)), .val (.int ((0 : Int32) + (1 : Int32))), .val (.int z0)] [(.int ((0 : Int32) + (1 : Int32))), (.ref a0)])) rfl rfl (hb hby d2_21) _ ?_
    show Steps p.tables e below (s₁.setTop (mkF m 22 #[.val (.ref a0), .val (.long ((1 : Int64) * (z0.toInt64))), .second, .val (.ref a0), .val (.int (2 : Int32)), .val (.int ((0 : Int32) + (1 : Int32))), .val (.int z0)] [(.int z1)])) _
    refine XS.istore X0.here hx rfl (hb hby d2_22) rfl (l' := #[.val (.ref a0), .val (.long ((1 : Int64) * (z0.toInt64))), .second, .val (.ref a0), .val (.int (2 : Int32)), .val (.int ((0 : Int32) + (1 : Int32))), .val (.int z1)]) rfl ?_
    show Steps p.tables e below (s₁.setTop (mkF m 24 #[.val (.ref a0), .val (.long ((1 : Int64) * (z0.toInt64))), .second, .val (.ref a0), .val (.int (2 : Int32)), .val (.int ((0 : Int32) + (1 : Int32))), .val (.int z1)] [])) _
    refine XS.lloadN X0.here hx rfl (hb hby d2_24) rfl ?_
    show Steps p.tables e below (s₁.setTop (mkF m 25 #[.val (.ref a0), .val (.long ((1 : Int64) * (z0.toInt64))), .second, .val (.ref a0), .val (.int (2 : Int32)), .val (.int ((0 : Int32) + (1 : Int32))), .val (.int z1)] [(.long ((1 : Int64) * (z0.toInt64)))])) _
    refine XS.iload X0.here hx rfl (hb hby d2_25) rfl ?_
    show Steps p.tables e below (s₁.setTop (mkF m 27 #[.val (.ref a0), .val (.long ((1 : Int64) * (z0.toInt64))), .second, .val (.ref a0), .val (.int (2 : Int32)), .val (.int ((0 : Int32) + (1 : Int32))), .val (.int z1)] [(.int z1), (.long ((1 : Int64) * (z0.toInt64)))])) _
    refine XS.i2l X0.here hx rfl (hb hby d2_27) rfl ?_
    show Steps p.tables e below (s₁.setTop (mkF m 28 #[.val (.ref a0), .val (.long ((1 : Int64) * (z0.toInt64))), .second, .val (.ref a0), .val (.int (2 : Int32)), .val (.int ((0 : Int32) + (1 : Int32))), .val (.int z1)] [(.long (z1.toInt64)), (.long ((1 : Int64) * (z0.toInt64)))])) _
    refine XS.lmul X0.here hx rfl (hb hby d2_28) rfl ?_
    show Steps p.tables e below (s₁.setTop (mkF m 29 #[.val (.ref a0), .val (.long ((1 : Int64) * (z0.toInt64))), .second, .val (.ref a0), .val (.int (2 : Int32)), .val (.int ((0 : Int32) + (1 : Int32))), .val (.int z1)] [(.long (((1 : Int64) * (z0.toInt64)) * (z1.toInt64)))])) _
    refine XS.lstoreN X0.here hx rfl (hb hby d2_29) rfl (l' := #[.val (.ref a0), .val (.long (((1 : Int64) * (z0.toInt64)) * (z1.toInt64))), .second, .val (.ref a0), .val (.int (2 : Int32)), .val (.int ((0 : Int32) + (1 : Int32))), .val (.int z1)]) rfl ?_
    show Steps p.tables e below (s₁.setTop (mkF m 30 #[.val (.ref a0), .val (.long (((1 : Int64) * (z0.toInt64)) * (z1.toInt64))), .second, .val (.ref a0), .val (.int (2 : Int32)), .val (.int ((0 : Int32) + (1 : Int32))), .val (.int z1)] [])) _
    refine XS.iinc X0.here hx rfl (hb hby d2_30) rfl (l' := #[.val (.ref a0), .val (.long (((1 : Int64) * (z0.toInt64)) * (z1.toInt64))), .second, .val (.ref a0), .val (.int (2 : Int32)), .val (.int (((0 : Int32) + (1 : Int32)) + (1 : Int32))), .val (.int z1)]) rfl ?_
    show Steps p.tables e below (s₁.setTop (mkF m 33 #[.val (.ref a0), .val (.long (((1 : Int64) * (z0.toInt64)) * (z1.toInt64))), .second, .val (.ref a0), .val (.int (2 : Int32)), .val (.int (((0 : Int32) + (1 : Int32)) + (1 : Int32))), .val (.int z1)] [])) _
    refine XS.goto X0.here hx rfl (pc0 := 33) (pc' := 11) rfl (hb hby d2_33) (by decide) (by decide) ?_
    show Steps p.tables e below (s₁.setTop (mkF m 11 #[.val (.ref a0), .val (.long (((1 : Int64) * (z0.toInt64)) * (z1.toInt64))), .second, .val (.ref a0), .val (.int (2 : Int32)), .val (.int (((0 : Int32) + (1 : Int32)) + (1 : Int32))), .val (.int z1)] [])) _
    refine XS.iload X0.here hx rfl (hb hby d2_11) rfl ?_
    show Steps p.tables e below (s₁.setTop (mkF m 13 #[.val (.ref a0), .val (.long (((1 : Int64) * (z0.toInt64)) * (z1.toInt64))), .second, .val (.ref a0), .val (.int (2 : Int32)), .val (.int (((0 : Int32) + (1 : Int32)) + (1 : Int32))), .val (.int z1)] [(.int (((0 : Int32) + (1 : Int32)) + (1 : Int32)))])) _
    refine XS.iload X0.here hx rfl (hb hby d2_13) rfl ?_
    show Steps p.tables e below (s₁.setTop (mkF m 15 #[.val (.ref a0), .val (.long (((1 : Int64) * (z0.toInt64)) * (z1.toInt64))), .second, .val (.ref a0), .val (.int (2 : Int32)), .val (.int (((0 : Int32) + (1 : Int32)) + (1 : Int32))), .val (.int z1)] [(.int (2 : Int32)), (.int (((0 : Int32) + (1 : Int32)) + (1 : Int32)))])) _
    refine XS.icmpYes X0.here hx rfl (pc0 := 15) (pc' := 36) rfl (hb hby d2_15) rfl (flt (by decide : ¬ ((((0 : Int32) + (1 : Int32)) + (1 : Int32)) < (2 : Int32)))).2.1 (by decide) (by decide) ?_
    show Steps p.tables e below (s₁.setTop (mkF m 36 #[.val (.ref a0), .val (.long (((1 : Int64) * (z0.toInt64)) * (z1.toInt64))), .second, .val (.ref a0), .val (.int (2 : Int32)), .val (.int (((0 : Int32) + (1 : Int32)) + (1 : Int32))), .val (.int z1)] [])) _
    refine XS.lloadN X0.here hx rfl (hb hby d2_36) rfl ?_
    show Steps p.tables e below (s₁.setTop (mkF m 37 #[.val (.ref a0), .val (.long (((1 : Int64) * (z0.toInt64)) * (z1.toInt64))), .second, .val (.ref a0), .val (.int (2 : Int32)), .val (.int (((0 : Int32) + (1 : Int32)) + (1 : Int32))), .val (.int z1)] [(.long (((1 : Int64) * (z0.toInt64)) * (z1.toInt64)))])) _
    exact own_retJ X0 hx Bd.returns (hb hby d2_37) hr
  · show Qrm2_2 Z a0 kk z0 z1 h0 n0 _ s₁.heap _
    rw [e0]
    exact ⟨rfl, N0, rfl⟩
theorem ef_rm2_3 (m : MethodId) (a0 : Addr) : entryFrame m #[(.ref a0)] 7 = mkF m 0 #[.val (.ref a0), .unset, .unset, .unset, .unset, .unset, .unset] [] := by first | (simp [entryFrame, mkF, argsToLocals, Value.category]; done) | rfl
def Qrm2_3 (Z : State) (a0 : Addr) (kk : ClassId) (z0 : Int32) (z1 : Int32) (z2 : Int32) (h0 : Heap) (n0 : Nat) (v : Option Value) (h : Heap) (L : List Loc) : Prop := v = some (.long ((((1 : Int64) * (z0.toInt64)) * (z1.toInt64)) * (z2.toInt64))) ∧ Fr n0 L ∧ h = h0
set_option maxRecDepth 65536 in
set_option maxHeartbeats 40000000 in
theorem rm2_3 (l : Launch) (Z : State) (A0 : Array Value) (hw : ∀ d ∈ tables_1, d.before A0 Z = true) (ws : List Jvm.Cond) (a0 : Addr) (kk : ClassId) (z0 : Int32) (z1 : Int32) (z2 : Int32) (h0 : Heap) (n0 : Nat) (Z0 : n0 ≤ h0.size) (V_a0 : Arv Z h0 a0 kk .int (3 : Int32) [(.int z0), (.int z1), (.int z2)] (.int (0 : Int32))) :
    MetFree l (⟨"com/example/epitome/epitome/cube/CubeCells", "product", "([I)J"⟩ : MethodName) (head1 (Jvm.Cond.code (⟨"com/example/epitome/epitome/cube/CubeCells", "product", "([I)J"⟩ : MethodName) prog_14_method_19_code 7 (some .long) :: ws) ({ frames := 0, cells := 0, slots := 0, locals := 0 } : Room)) (fun a U => a = #[(.ref a0)] ∧ Z.Warmed39 U.vm ∧ U.heap = h0) (fun _ _ _ _ _ => True) (fun _ U o U' => ∃ v L, o = .returned v ∧ Qrm2_3 Z a0 kk z0 z1 z2 h0 n0 v U'.heap L ∧ FrameEnd U o U' L ({ frames := 0, cells := 0, slots := 0, locals := 0 } : Room).cells ({ frames := 0, cells := 0, slots := 0, locals := 0 } : Room).slots) := by
  refine MetFree.of_bodySF (plainFor_of_name pn_2) hisR ?_
  intro p e s m args below meth c s₁ Bd hml0 hP hK
  obtain ⟨rfl, hZ, hh⟩ := hP
  have hx := Bd.exec
  have hby := Bd.bytes
  have hml : c.maxLocals = 7 := hml0
  have hown : s.vm.findClass "com/example/epitome/epitome/cube/CubeCells" = some m.cls := findClass_of_methodNamed Bd.named
  have hnm := (name_of_methodNamed Bd.named Bd.method).1
  have X0 : Stand p l e ({ frames := 0, cells := 0, slots := 0, locals := 0 } : Room) s m #[(.ref a0)] below meth c s₁ [] 0 0 := Stand.of_body Bd
  have e0 : s₁.heap = h0 := by rw [← hh, Bd.state]; rfl
  have N0 := Fr.nil n0
  have K0 : Keep h0 h0 [] := Keep.refl _ _
  have pre0 : ∀ t, Steps p.tables e below (s₁.setTop (mkF m 0 #[.val (.ref a0), .unset, .unset, .unset, .unset, .unset, .unset] [])) t → Steps p.tables e below (s₁.setTop (entryFrame m #[(.ref a0)] 7)) t := fun t k => castTop (ef_rm2_3 m a0) k
  obtain ⟨cl1, Ar1, -, SS1, MM1, -, -⟩ := id V_a0
  obtain ⟨cl2, Ar2, -, SS2, MM2, HH2, -⟩ := id V_a0
  have hin2 := inb_of SS2 (j := (0 : Int32)) ⟨by decide, by decide⟩
  have hat2 : cl2.slots[((0 : Int32)).toNatClampNeg]? = some (.int z0) := HH2.at hin2 rfl
  obtain ⟨cl3, Ar3, -, SS3, MM3, HH3, -⟩ := id V_a0
  have hin3 := inb_of SS3 (j := ((0 : Int32) + (1 : Int32))) ⟨by decide, by decide⟩
  have hat3 : cl3.slots[(((0 : Int32) + (1 : Int32))).toNatClampNeg]? = some (.int z1) := HH3.at hin3 rfl
  obtain ⟨cl4, Ar4, -, SS4, MM4, HH4, -⟩ := id V_a0
  have hin4 := inb_of SS4 (j := (((0 : Int32) + (1 : Int32)) + (1 : Int32))) ⟨by decide, by decide⟩
  have hat4 : cl4.slots[((((0 : Int32) + (1 : Int32)) + (1 : Int32))).toNatClampNeg]? = some (.int z2) := HH4.at hin4 rfl
  obtain ⟨fs, hr, hrun, hended, hW, hsame⟩ := X0.leave (v := some (.long ((((1 : Int64) * (z0.toInt64)) * (z1.toInt64)) * (z2.toInt64)))) (fun h => by rw [Bd.returns] at h; cases h)
  refine ⟨_, _, pre0 _ ?_, hrun, hended, _, _, rfl, ?_, ⟨_, rfl⟩, hW, hsame.mono (by decide) (by decide)⟩
  · show Steps p.tables e below (s₁.setTop (mkF m 0 #[.val (.ref a0), .unset, .unset, .unset, .unset, .unset, .unset] [])) _
    refine XS.lconst X0.here hx rfl (hb hby d2_0) ?_
    show Steps p.tables e below (s₁.setTop (mkF m 1 #[.val (.ref a0), .unset, .unset, .unset, .unset, .unset, .unset] [(.long (1 : Int64))])) _
    refine XS.lstoreN X0.here hx rfl (hb hby d2_1) rfl (l' := #[.val (.ref a0), .val (.long (1 : Int64)), .second, .unset, .unset, .unset, .unset]) rfl ?_
    show Steps p.tables e below (s₁.setTop (mkF m 2 #[.val (.ref a0), .val (.long (1 : Int64)), .second, .unset, .unset, .unset, .unset] [])) _
    refine XS.aloadN X0.here hx rfl (hb hby d2_2) rfl rfl ?_
    show Steps p.tables e below (s₁.setTop (mkF m 3 #[.val (.ref a0), .val (.long (1 : Int64)), .second, .unset, .unset, .unset, .unset] [(.ref a0)])) _
    refine XS.astoreN X0.here hx rfl (hb hby d2_3) rfl rfl (l' := #[.val (.ref a0), .val (.long (1 : Int64)), .second, .val (.ref a0), .unset, .unset, .unset]) rfl ?_
    show Steps p.tables e below (s₁.setTop (mkF m 4 #[.val (.ref a0), .val (.long (1 : Int64)), .second, .val (.ref a0), .unset, .unset, .unset] [])) _
    refine XS.aloadN X0.here hx rfl (hb hby d2_4) rfl rfl ?_
    show Steps p.tables e below (s₁.setTop (mkF m 5 #[.val (.ref a0), .val (.long (1 : Int64)), .second, .val (.ref a0), .unset, .unset, .unset] [(.ref a0)])) _
    refine X0.arraylength hx (by rw [e0]; exact Ar1.1) (State.isArrayOf_alike hZ.alike Ar1.2.1) (g := (mkF m 5 #[.val (.ref a0), .val (.long (1 : Int64)), .second, .val (.ref a0), .unset, .unset, .unset] [(.ref a0)])) rfl rfl (hb hby d2_5) _ ?_
    rw [len_of SS1 MM1]
    show Steps p.tables e below (s₁.setTop (mkF m 6 #[.val (.ref a0), .val (.long (1 : Int64)), .second, .val (.ref a0), .unset, .unset, .unset] [(.int (3 : Int32))])) _
    refine XS.istore X0.here hx rfl (hb hby d2_6) rfl (l' := #[.val (.ref a0), .val (.long (1 : Int64)), .second, .val (.ref a0), .val (.int (3 : Int32)), .unset, .unset]) rfl ?_
    show Steps p.tables e below (s₁.setTop (mkF m 8 #[.val (.ref a0), .val (.long (1 : Int64)), .second, .val (.ref a0), .val (.int (3 : Int32)), .unset, .unset] [])) _
    refine XS.iconst X0.here hx rfl (hb hby d2_8) ?_
    show Steps p.tables e below (s₁.setTop (mkF m 9 #[.val (.ref a0), .val (.long (1 : Int64)), .second, .val (.ref a0), .val (.int (3 : Int32)), .unset, .unset] [(.int (0 : Int32))])) _
    refine XS.istore X0.here hx rfl (hb hby d2_9) rfl (l' := #[.val (.ref a0), .val (.long (1 : Int64)), .second, .val (.ref a0), .val (.int (3 : Int32)), .val (.int (0 : Int32)), .unset]) rfl ?_
    show Steps p.tables e below (s₁.setTop (mkF m 11 #[.val (.ref a0), .val (.long (1 : Int64)), .second, .val (.ref a0), .val (.int (3 : Int32)), .val (.int (0 : Int32)), .unset] [])) _
    refine XS.iload X0.here hx rfl (hb hby d2_11) rfl ?_
    show Steps p.tables e below (s₁.setTop (mkF m 13 #[.val (.ref a0), .val (.long (1 : Int64)), .second, .val (.ref a0), .val (.int (3 : Int32)), .val (.int (0 : Int32)), .unset] [(.int (0 : Int32))])) _
    refine XS.iload X0.here hx rfl (hb hby d2_13) rfl ?_
    show Steps p.tables e below (s₁.setTop (mkF m 15 #[.val (.ref a0), .val (.long (1 : Int64)), .second, .val (.ref a0), .val (.int (3 : Int32)), .val (.int (0 : Int32)), .unset] [(.int (3 : Int32)), (.int (0 : Int32))])) _
    refine XS.icmpNo X0.here hx rfl (hb hby d2_15) rfl (tlt (by decide : (0 : Int32) < (3 : Int32))).2.1 ?_
    show Steps p.tables e below (s₁.setTop (mkF m 18 #[.val (.ref a0), .val (.long (1 : Int64)), .second, .val (.ref a0), .val (.int (3 : Int32)), .val (.int (0 : Int32)), .unset] [])) _
    refine XS.aloadN X0.here hx rfl (hb hby d2_18) rfl rfl ?_
    show Steps p.tables e below (s₁.setTop (mkF m 19 #[.val (.ref a0), .val (.long (1 : Int64)), .second, .val (.ref a0), .val (.int (3 : Int32)), .val (.int (0 : Int32)), .unset] [(.ref a0)])) _
    refine XS.iload X0.here hx rfl (hb hby d2_19) rfl ?_
    show Steps p.tables e below (s₁.setTop (mkF m 21 #[.val (.ref a0), .val (.long (1 : Int64)), .second, .val (.ref a0), .val (.int (3 : Int32)), .val (.int (0 : Int32)), .unset] [(.int (0 : Int32)), (.ref a0)])) _
    refine X0.iaload hx (j := (0 : Int32)) (v := (.int z0)) (by rw [e0]; exact Ar2.1) (State.isArrayOf_alike hZ.alike Ar2.2.1) Ar2.2.2 hin2 hat2 (g := (mkF m 21 #[.val (.ref a0), .val (.long (1 : Int64)), .second, .val (.ref a0), .val (.int (3 : Int32)), .val (.int (0 : Int32)), .unset] [(.int (0 : Int32)), (.ref a0)])) rfl rfl (hb hby d2_21) _ ?_
    show Steps p.tables e below (s₁.setTop (mkF m 22 #[.val (.ref a0), .val (.long (1 : Int64)), .second, .val (.ref a0), .val (.int (3 : Int32)), .val (.int (0 : Int32)), .unset] [(.int z0)])) _
    refine XS.istore X0.here hx rfl (hb hby d2_22) rfl (l' := #[.val (.ref a0), .val (.long (1 : Int64)), .second, .val (.ref a0), .val (.int (3 : Int32)), .val (.int (0 : Int32)), .val (.int z0)]) rfl ?_
    show Steps p.tables e below (s₁.setTop (mkF m 24 #[.val (.ref a0), .val (.long (1 : Int64)), .second, .val (.ref a0), .val (.int (3 : Int32)), .val (.int (0 : Int32)), .val (.int z0)] [])) _
    refine XS.lloadN X0.here hx rfl (hb hby d2_24) rfl ?_
    show Steps p.tables e below (s₁.setTop (mkF m 25 #[.val (.ref a0), .val (.long (1 : Int64)), .second, .val (.ref a0), .val (.int (3 : Int32)), .val (.int (0 : Int32)), .val (.int z0)] [(.long (1 : Int64))])) _
    refine XS.iload X0.here hx rfl (hb hby d2_25) rfl ?_
    show Steps p.tables e below (s₁.setTop (mkF m 27 #[.val (.ref a0), .val (.long (1 : Int64)), .second, .val (.ref a0), .val (.int (3 : Int32)), .val (.int (0 : Int32)), .val (.int z0)] [(.int z0), (.long (1 : Int64))])) _
    refine XS.i2l X0.here hx rfl (hb hby d2_27) rfl ?_
    show Steps p.tables e below (s₁.setTop (mkF m 28 #[.val (.ref a0), .val (.long (1 : Int64)), .second, .val (.ref a0), .val (.int (3 : Int32)), .val (.int (0 : Int32)), .val (.int z0)] [(.long (z0.toInt64)), (.long (1 : Int64))])) _
    refine XS.lmul X0.here hx rfl (hb hby d2_28) rfl ?_
    show Steps p.tables e below (s₁.setTop (mkF m 29 #[.val (.ref a0), .val (.long (1 : Int64)), .second, .val (.ref a0), .val (.int (3 : Int32)), .val (.int (0 : Int32)), .val (.int z0)] [(.long ((1 : Int64) * (z0.toInt64)))])) _
    refine XS.lstoreN X0.here hx rfl (hb hby d2_29) rfl (l' := #[.val (.ref a0), .val (.long ((1 : Int64) * (z0.toInt64))), .second, .val (.ref a0), .val (.int (3 : Int32)), .val (.int (0 : Int32)), .val (.int z0)]) rfl ?_
    show Steps p.tables e below (s₁.setTop (mkF m 30 #[.val (.ref a0), .val (.long ((1 : Int64) * (z0.toInt64))), .second, .val (.ref a0), .val (.int (3 : Int32)), .val (.int (0 : Int32)), .val (.int z0)] [])) _
    refine XS.iinc X0.here hx rfl (hb hby d2_30) rfl (l' := #[.val (.ref a0), .val (.long ((1 : Int64) * (z0.toInt64))), .second, .val (.ref a0), .val (.int (3 : Int32)), .val (.int ((0 : Int32) + (1 : Int32))), .val (.int z0)]) rfl ?_
    show Steps p.tables e below (s₁.setTop (mkF m 33 #[.val (.ref a0), .val (.long ((1 : Int64) * (z0.toInt64))), .second, .val (.ref a0), .val (.int (3 : Int32)), .val (.int ((0 : Int32) + (1 : Int32))), .val (.int z0)] [])) _
    refine XS.goto X0.here hx rfl (pc0 := 33) (pc' := 11) rfl (hb hby d2_33) (by decide) (by decide) ?_
    show Steps p.tables e below (s₁.setTop (mkF m 11 #[.val (.ref a0), .val (.long ((1 : Int64) * (z0.toInt64))), .second, .val (.ref a0), .val (.int (3 : Int32)), .val (.int ((0 : Int32) + (1 : Int32))), .val (.int z0)] [])) _
    refine XS.iload X0.here hx rfl (hb hby d2_11) rfl ?_
    show Steps p.tables e below (s₁.setTop (mkF m 13 #[.val (.ref a0), .val (.long ((1 : Int64) * (z0.toInt64))), .second, .val (.ref a0), .val (.int (3 : Int32)), .val (.int ((0 : Int32) + (1 : Int32))), .val (.int z0)] [(.int ((0 : Int32) + (1 : Int32)))])) _
    refine XS.iload X0.here hx rfl (hb hby d2_13) rfl ?_
    show Steps p.tables e below (s₁.setTop (mkF m 15 #[.val (.ref a0), .val (.long ((1 : Int64) * (z0.toInt64))), .second, .val (.ref a0), .val (.int (3 : Int32)), .val (.int ((0 : Int32) + (1 : Int32))), .val (.int z0)] [(.int (3 : Int32)), (.int ((0 : Int32) + (1 : Int32)))])) _
    refine XS.icmpNo X0.here hx rfl (hb hby d2_15) rfl (tlt (by decide : ((0 : Int32) + (1 : Int32)) < (3 : Int32))).2.1 ?_
    show Steps p.tables e below (s₁.setTop (mkF m 18 #[.val (.ref a0), .val (.long ((1 : Int64) * (z0.toInt64))), .second, .val (.ref a0), .val (.int (3 : Int32)), .val (.int ((0 : Int32) + (1 : Int32))), .val (.int z0)] [])) _
    refine XS.aloadN X0.here hx rfl (hb hby d2_18) rfl rfl ?_
    show Steps p.tables e below (s₁.setTop (mkF m 19 #[.val (.ref a0), .val (.long ((1 : Int64) * (z0.toInt64))), .second, .val (.ref a0), .val (.int (3 : Int32)), .val (.int ((0 : Int32) + (1 : Int32))), .val (.int z0)] [(.ref a0)])) _
    refine XS.iload X0.here hx rfl (hb hby d2_19) rfl ?_
    show Steps p.tables e below (s₁.setTop (mkF m 21 #[.val (.ref a0), .val (.long ((1 : Int64) * (z0.toInt64))), .second, .val (.ref a0), .val (.int (3 : Int32)), .val (.int ((0 : Int32) + (1 : Int32))), .val (.int z0)] [(.int ((0 : Int32) + (1 : Int32))), (.ref a0)])) _
    refine X0.iaload hx (j := ((0 : Int32) + (1 : Int32))) (v := (.int z1)) (by rw [e0]; exact Ar3.1) (State.isArrayOf_alike hZ.alike Ar3.2.1) Ar3.2.2 hin3 hat3 (g := (mkF m 21 #[.val (.ref a0), .val (.long ((1 : Int64) * (z0.toInt64))), .second, .val (.ref a0), .val (.int (3 : Int32)), .val (.int ((0 : Int32) + (1 : Int32))), .val (.int z0)] [(.int ((0 : Int32) + (1 : Int32))), (.ref a0)])) rfl rfl (hb hby d2_21) _ ?_
    show Steps p.tables e below (s₁.setTop (mkF m 22 #[.val (.ref a0), .val (.long ((1 : Int64) * (z0.toInt64))), .second, .val (.ref a0), .val (.int (3 : Int32)), .val (.int ((0 : Int32) + (1 : Int32))), .val (.int z0)] [(.int z1)])) _
    refine XS.istore X0.here hx rfl (hb hby d2_22) rfl (l' := #[.val (.ref a0), .val (.long ((1 : Int64) * (z0.toInt64))), .second, .val (.ref a0), .val (.int (3 : Int32)), .val (.int ((0 : Int32) + (1 : Int32))), .val (.int z1)]) rfl ?_
    show Steps p.tables e below (s₁.setTop (mkF m 24 #[.val (.ref a0), .val (.long ((1 : Int64) * (z0.toInt64))), .second, .val (.ref a0), .val (.int (3 : Int32)), .val (.int ((0 : Int32) + (1 : Int32))), .val (.int z1)] [])) _
    refine XS.lloadN X0.here hx rfl (hb hby d2_24) rfl ?_
    show Steps p.tables e below (s₁.setTop (mkF m 25 #[.val (.ref a0), .val (.long ((1 : Int64) * (z0.toInt64))), .second, .val (.ref a0), .val (.int (3 : Int32)), .val (.int ((0 : Int32) + (1 : Int32))), .val (.int z1)] [(.long ((1 : Int64) * (z0.toInt64)))])) _
    refine XS.iload X0.here hx rfl (hb hby d2_25) rfl ?_
    show Steps p.tables e below (s₁.setTop (mkF m 27 #[.val (.ref a0), .val (.long ((1 : Int64) * (z0.toInt64))), .second, .val (.ref a0), .val (.int (3 : Int32)), .val (.int ((0 : Int32) + (1 : Int32))), .val (.int z1)] [(.int z1), (.long ((1 : Int64) * (z0.toInt64)))])) _
    refine XS.i2l X0.here hx rfl (hb hby d2_27) rfl ?_
    show Steps p.tables e below (s₁.setTop (mkF m 28 #[.val (.ref a0), .val (.long ((1 : Int64) * (z0.toInt64))), .second, .val (.ref a0), .val (.int (3 : Int32)), .val (.int ((0 : Int32) + (1 : Int32))), .val (.int z1)] [(.long (z1.toInt64)), (.long ((1 : Int64) * (z0.toInt64)))])) _
    refine XS.lmul X0.here hx rfl (hb hby d2_28) rfl ?_
    show Steps p.tables e below (s₁.setTop (mkF m 29 #[.val (.ref a0), .val (.long ((1 : Int64) * (z0.toInt64))), .second, .val (.ref a0), .val (.int (3 : Int32)), .val (.int ((0 : Int32) + (1 : Int32))), .val (.int z1)] [(.long (((1 : Int64) * (z0.toInt64)) * (z1.toInt64)))])) _
    refine XS.lstoreN X0.here hx rfl (hb hby d2_29) rfl (l' := #[.val (.ref a0), .val (.long (((1 : Int64) * (z0.toInt64)) * (z1.toInt64))), .second, .val (.ref a0), .val (.int (3 : Int32)), .val (.int ((0 : Int32) + (1 : Int32))), .val (.int z1)]) rfl ?_
    show Steps p.tables e below (s₁.setTop (mkF m 30 #[.val (.ref a0), .val (.long (((1 : Int64) * (z0.toInt64)) * (z1.toInt64))), .second, .val (.ref a0), .val (.int (3 : Int32)), .val (.int ((0 : Int32) + (1 : Int32))), .val (.int z1)] [])) _
    refine XS.iinc X0.here hx rfl (hb hby d2_30) rfl (l' := #[.val (.ref a0), .val (.long (((1 : Int64) * (z0.toInt64)) * (z1.toInt64))), .second, .val (.ref a0), .val (.int (3 : Int32)), .val (.int (((0 : Int32) + (1 : Int32)) + (1 : Int32))), .val (.int z1)]) rfl ?_
    show Steps p.tables e below (s₁.setTop (mkF m 33 #[.val (.ref a0), .val (.long (((1 : Int64) * (z0.toInt64)) * (z1.toInt64))), .second, .val (.ref a0), .val (.int (3 : Int32)), .val (.int (((0 : Int32) + (1 : Int32)) + (1 : Int32))), .val (.int z1)] [])) _
    refine XS.goto X0.here hx rfl (pc0 := 33) (pc' := 11) rfl (hb hby d2_33) (by decide) (by decide) ?_
    show Steps p.tables e below (s₁.setTop (mkF m 11 #[.val (.ref a0), .val (.long (((1 : Int64) * (z0.toInt64)) * (z1.toInt64))), .second, .val (.ref a0), .val (.int (3 : Int32)), .val (.int (((0 : Int32) + (1 : Int32)) + (1 : Int32))), .val (.int z1)] [])) _
    refine XS.iload X0.here hx rfl (hb hby d2_11) rfl ?_
    show Steps p.tables e below (s₁.setTop (mkF m 13 #[.val (.ref a0), .val (.long (((1 : Int64) * (z0.toInt64)) * (z1.toInt64))), .second, .val (.ref a0), .val (.int (3 : Int32)), .val (.int (((0 : Int32) + (1 : Int32)) + (1 : Int32))), .val (.int z1)] [(.int (((0 : Int32) + (1 : Int32)) + (1 : Int32)))])) _
    refine XS.iload X0.here hx rfl (hb hby d2_13) rfl ?_
    show Steps p.tables e below (s₁.setTop (mkF m 15 #[.val (.ref a0), .val (.long (((1 : Int64) * (z0.toInt64)) * (z1.toInt64))), .second, .val (.ref a0), .val (.int (3 : Int32)), .val (.int (((0 : Int32) + (1 : Int32)) + (1 : Int32))), .val (.int z1)] [(.int (3 : Int32)), (.int (((0 : Int32) + (1 : Int32)) + (1 : Int32)))])) _
    refine XS.icmpNo X0.here hx rfl (hb hby d2_15) rfl (tlt (by decide : (((0 : Int32) + (1 : Int32)) + (1 : Int32)) < (3 : Int32))).2.1 ?_
    show Steps p.tables e below (s₁.setTop (mkF m 18 #[.val (.ref a0), .val (.long (((1 : Int64) * (z0.toInt64)) * (z1.toInt64))), .second, .val (.ref a0), .val (.int (3 : Int32)), .val (.int (((0 : Int32) + (1 : Int32)) + (1 : Int32))), .val (.int z1)] [])) _
    refine XS.aloadN X0.here hx rfl (hb hby d2_18) rfl rfl ?_
    show Steps p.tables e below (s₁.setTop (mkF m 19 #[.val (.ref a0), .val (.long (((1 : Int64) * (z0.toInt64)) * (z1.toInt64))), .second, .val (.ref a0), .val (.int (3 : Int32)), .val (.int (((0 : Int32) + (1 : Int32)) + (1 : Int32))), .val (.int z1)] [(.ref a0)])) _
    refine XS.iload X0.here hx rfl (hb hby d2_19) rfl ?_
    show Steps p.tables e below (s₁.setTop (mkF m 21 #[.val (.ref a0), .val (.long (((1 : Int64) * (z0.toInt64)) * (z1.toInt64))), .second, .val (.ref a0), .val (.int (3 : Int32)), .val (.int (((0 : Int32) + (1 : Int32)) + (1 : Int32))), .val (.int z1)] [(.int (((0 : Int32) + (1 : Int32)) + (1 : Int32))), (.ref a0)])) _
    refine X0.iaload hx (j := (((0 : Int32) + (1 : Int32)) + (1 : Int32))) (v := (.int z2)) (by rw [e0]; exact Ar4.1) (State.isArrayOf_alike hZ.alike Ar4.2.1) Ar4.2.2 hin4 hat4 (g := (mkF m 21 #[.val (.ref a0), .val (.long (((1 : Int64) * (z0.toInt64)) * (z1.toInt64))), .second, .val (.ref a0), .val (.int (3 : Int32)), .val (.int (((0 : Int32) + (1 : Int32)) + (1 : Int32))), .val (.int z1)] [(.int (((0 : Int32) + (1 : Int32)) + (1 : Int32))), (.ref a0)])) rfl rfl (hb hby d2_21) _ ?_
    show Steps p.tables e below (s₁.setTop (mkF m 22 #[.val (.ref a0), .val (.long (((1 : Int64) * (z0.toInt64)) * (z1.toInt64))), .second, .val (.ref a0), .val (.int (3 : Int32)), .val (.int (((0 : Int32) + (1 : Int32)) + (1 : Int32))), .val (.int z1)] [(.int z2)])) _
    refine XS.istore X0.here hx rfl (hb hby d2_22) rfl (l' := #[.val (.ref a0), .val (.long (((1 : Int64) * (z0.toInt64)) * (z1.toInt64))), .second, .val (.ref a0), .val (.int (3 : Int32)), .val (.int (((0 : Int32) + (1 : Int32)) + (1 : Int32))), .val (.int z2)]) rfl ?_
    show Steps p.tables e below (s₁.setTop (mkF m 24 #[.val (.ref a0), .val (.long (((1 : Int64) * (z0.toInt64)) * (z1.toInt64))), .second, .val (.ref a0), .val (.int (3 : Int32)), .val (.int (((0 : Int32) + (1 : Int32)) + (1 : Int32))), .val (.int z2)] [])) _
    refine XS.lloadN X0.here hx rfl (hb hby d2_24) rfl ?_
    show Steps p.tables e below (s₁.setTop (mkF m 25 #[.val (.ref a0), .val (.long (((1 : Int64) * (z0.toInt64)) * (z1.toInt64))), .second, .val (.ref a0), .val (.int (3 : Int32)), .val (.int (((0 : Int32) + (1 : Int32)) + (1 : Int32))), .val (.int z2)] [(.long (((1 : Int64) * (z0.toInt64)) * (z1.toInt64)))])) _
    refine XS.iload X0.here hx rfl (hb hby d2_25) rfl ?_
    show Steps p.tables e below (s₁.setTop (mkF m 27 #[.val (.ref a0), .val (.long (((1 : Int64) * (z0.toInt64)) * (z1.toInt64))), .second, .val (.ref a0), .val (.int (3 : Int32)), .val (.int (((0 : Int32) + (1 : Int32)) + (1 : Int32))), .val (.int z2)] [(.int z2), (.long (((1 : Int64) * (z0.toInt64)) * (z1.toInt64)))])) _
    refine XS.i2l X0.here hx rfl (hb hby d2_27) rfl ?_
    show Steps p.tables e below (s₁.setTop (mkF m 28 #[.val (.ref a0), .val (.long (((1 : Int64) * (z0.toInt64)) * (z1.toInt64))), .second, .val (.ref a0), .val (.int (3 : Int32)), .val (.int (((0 : Int32) + (1 : Int32)) + (1 : Int32))), .val (.int z2)] [(.long (z2.toInt64)), (.long (((1 : Int64) * (z0.toInt64)) * (z1.toInt64)))])) _
    refine XS.lmul X0.here hx rfl (hb hby d2_28) rfl ?_
    show Steps p.tables e below (s₁.setTop (mkF m 29 #[.val (.ref a0), .val (.long (((1 : Int64) * (z0.toInt64)) * (z1.toInt64))), .second, .val (.ref a0), .val (.int (3 : Int32)), .val (.int (((0 : Int32) + (1 : Int32)) + (1 : Int32))), .val (.int z2)] [(.long ((((1 : Int64) * (z0.toInt64)) * (z1.toInt64)) * (z2.toInt64)))])) _
    refine XS.lstoreN X0.here hx rfl (hb hby d2_29) rfl (l' := #[.val (.ref a0), .val (.long ((((1 : Int64) * (z0.toInt64)) * (z1.toInt64)) * (z2.toInt64))), .second, .val (.ref a0), .val (.int (3 : Int32)), .val (.int (((0 : Int32) + (1 : Int32)) + (1 : Int32))), .val (.int z2)]) rfl ?_
    show Steps p.tables e below (s₁.setTop (mkF m 30 #[.val (.ref a0), .val (.long ((((1 : Int64) * (z0.toInt64)) * (z1.toInt64)) * (z2.toInt64))), .second, .val (.ref a0), .val (.int (3 : Int32)), .val (.int (((0 : Int32) + (1 : Int32)) + (1 : Int32))), .val (.int z2)] [])) _
    refine XS.iinc X0.here hx rfl (hb hby d2_30) rfl (l' := #[.val (.ref a0), .val (.long ((((1 : Int64) * (z0.toInt64)) * (z1.toInt64)) * (z2.toInt64))), .second, .val (.ref a0), .val (.int (3 : Int32)), .val (.int ((((0 : Int32) + (1 : Int32)) + (1 : Int32)) + (1 : Int32))), .val (.int z2)]) rfl ?_
    show Steps p.tables e below (s₁.setTop (mkF m 33 #[.val (.ref a0), .val (.long ((((1 : Int64) * (z0.toInt64)) * (z1.toInt64)) * (z2.toInt64))), .second, .val (.ref a0), .val (.int (3 : Int32)), .val (.int ((((0 : Int32) + (1 : Int32)) + (1 : Int32)) + (1 : Int32))), .val (.int z2)] [])) _
    refine XS.goto X0.here hx rfl (pc0 := 33) (pc' := 11) rfl (hb hby d2_33) (by decide) (by decide) ?_
    show Steps p.tables e below (s₁.setTop (mkF m 11 #[.val (.ref a0), .val (.long ((((1 : Int64) * (z0.toInt64)) * (z1.toInt64)) * (z2.toInt64))), .second, .val (.ref a0), .val (.int (3 : Int32)), .val (.int ((((0 : Int32) + (1 : Int32)) + (1 : Int32)) + (1 : Int32))), .val (.int z2)] [])) _
    refine XS.iload X0.here hx rfl (hb hby d2_11) rfl ?_
    show Steps p.tables e below (s₁.setTop (mkF m 13 #[.val (.ref a0), .val (.long ((((1 : Int64) * (z0.toInt64)) * (z1.toInt64)) * (z2.toInt64))), .second, .val (.ref a0), .val (.int (3 : Int32)), .val (.int ((((0 : Int32) + (1 : Int32)) + (1 : Int32)) + (1 : Int32))), .val (.int z2)] [(.int ((((0 : Int32) + (1 : Int32)) + (1 : Int32)) + (1 : Int32)))])) _
    refine XS.iload X0.here hx rfl (hb hby d2_13) rfl ?_
    show Steps p.tables e below (s₁.setTop (mkF m 15 #[.val (.ref a0), .val (.long ((((1 : Int64) * (z0.toInt64)) * (z1.toInt64)) * (z2.toInt64))), .second, .val (.ref a0), .val (.int (3 : Int32)), .val (.int ((((0 : Int32) + (1 : Int32)) + (1 : Int32)) + (1 : Int32))), .val (.int z2)] [(.int (3 : Int32)), (.int ((((0 : Int32) + (1 : Int32)) + (1 : Int32)) + (1 : Int32)))])) _
    refine XS.icmpYes X0.here hx rfl (pc0 := 15) (pc' := 36) rfl (hb hby d2_15) rfl (flt (by decide : ¬ (((((0 : Int32) + (1 : Int32)) + (1 : Int32)) + (1 : Int32)) < (3 : Int32)))).2.1 (by decide) (by decide) ?_
    show Steps p.tables e below (s₁.setTop (mkF m 36 #[.val (.ref a0), .val (.long ((((1 : Int64) * (z0.toInt64)) * (z1.toInt64)) * (z2.toInt64))), .second, .val (.ref a0), .val (.int (3 : Int32)), .val (.int ((((0 : Int32) + (1 : Int32)) + (1 : Int32)) + (1 : Int32))), .val (.int z2)] [])) _
    refine XS.lloadN X0.here hx rfl (hb hby d2_36) rfl ?_
    show Steps p.tables e below (s₁.setTop (mkF m 37 #[.val (.ref a0), .val (.long ((((1 : Int64) * (z0.toInt64)) * (z1.toInt64)) * (z2.toInt64))), .second, .val (.ref a0), .val (.int (3 : Int32)), .val (.int ((((0 : Int32) + (1 : Int32)) + (1 : Int32)) + (1 : Int32))), .val (.int z2)] [(.long ((((1 : Int64) * (z0.toInt64)) * (z1.toInt64)) * (z2.toInt64)))])) _
    exact own_retJ X0 hx Bd.returns (hb hby d2_37) hr
  · show Qrm2_3 Z a0 kk z0 z1 z2 h0 n0 _ s₁.heap _
    rw [e0]
    exact ⟨rfl, N0, rfl⟩
theorem ef_rm2_4 (m : MethodId) (a0 : Addr) : entryFrame m #[(.ref a0)] 7 = mkF m 0 #[.val (.ref a0), .unset, .unset, .unset, .unset, .unset, .unset] [] := by first | (simp [entryFrame, mkF, argsToLocals, Value.category]; done) | rfl
def Qrm2_4 (Z : State) (a0 : Addr) (kk : ClassId) (z0 : Int32) (z1 : Int32) (z2 : Int32) (z3 : Int32) (h0 : Heap) (n0 : Nat) (v : Option Value) (h : Heap) (L : List Loc) : Prop := v = some (.long (((((1 : Int64) * (z0.toInt64)) * (z1.toInt64)) * (z2.toInt64)) * (z3.toInt64))) ∧ Fr n0 L ∧ h = h0
set_option maxRecDepth 65536 in
set_option maxHeartbeats 40000000 in
theorem rm2_4 (l : Launch) (Z : State) (A0 : Array Value) (hw : ∀ d ∈ tables_1, d.before A0 Z = true) (ws : List Jvm.Cond) (a0 : Addr) (kk : ClassId) (z0 : Int32) (z1 : Int32) (z2 : Int32) (z3 : Int32) (h0 : Heap) (n0 : Nat) (Z0 : n0 ≤ h0.size) (V_a0 : Arv Z h0 a0 kk .int (4 : Int32) [(.int z0), (.int z1), (.int z2), (.int z3)] (.int (0 : Int32))) :
    MetFree l (⟨"com/example/epitome/epitome/cube/CubeCells", "product", "([I)J"⟩ : MethodName) (head1 (Jvm.Cond.code (⟨"com/example/epitome/epitome/cube/CubeCells", "product", "([I)J"⟩ : MethodName) prog_14_method_19_code 7 (some .long) :: ws) ({ frames := 0, cells := 0, slots := 0, locals := 0 } : Room)) (fun a U => a = #[(.ref a0)] ∧ Z.Warmed39 U.vm ∧ U.heap = h0) (fun _ _ _ _ _ => True) (fun _ U o U' => ∃ v L, o = .returned v ∧ Qrm2_4 Z a0 kk z0 z1 z2 z3 h0 n0 v U'.heap L ∧ FrameEnd U o U' L ({ frames := 0, cells := 0, slots := 0, locals := 0 } : Room).cells ({ frames := 0, cells := 0, slots := 0, locals := 0 } : Room).slots) := by
  refine MetFree.of_bodySF (plainFor_of_name pn_2) hisR ?_
  intro p e s m args below meth c s₁ Bd hml0 hP hK
  obtain ⟨rfl, hZ, hh⟩ := hP
  have hx := Bd.exec
  have hby := Bd.bytes
  have hml : c.maxLocals = 7 := hml0
  have hown : s.vm.findClass "com/example/epitome/epitome/cube/CubeCells" = some m.cls := findClass_of_methodNamed Bd.named
  have hnm := (name_of_methodNamed Bd.named Bd.method).1
  have X0 : Stand p l e ({ frames := 0, cells := 0, slots := 0, locals := 0 } : Room) s m #[(.ref a0)] below meth c s₁ [] 0 0 := Stand.of_body Bd
  have e0 : s₁.heap = h0 := by rw [← hh, Bd.state]; rfl
  have N0 := Fr.nil n0
  have K0 : Keep h0 h0 [] := Keep.refl _ _
  have pre0 : ∀ t, Steps p.tables e below (s₁.setTop (mkF m 0 #[.val (.ref a0), .unset, .unset, .unset, .unset, .unset, .unset] [])) t → Steps p.tables e below (s₁.setTop (entryFrame m #[(.ref a0)] 7)) t := fun t k => castTop (ef_rm2_4 m a0) k
  obtain ⟨cl1, Ar1, -, SS1, MM1, -, -⟩ := id V_a0
  obtain ⟨cl2, Ar2, -, SS2, MM2, HH2, -⟩ := id V_a0
  have hin2 := inb_of SS2 (j := (0 : Int32)) ⟨by decide, by decide⟩
  have hat2 : cl2.slots[((0 : Int32)).toNatClampNeg]? = some (.int z0) := HH2.at hin2 rfl
  obtain ⟨cl3, Ar3, -, SS3, MM3, HH3, -⟩ := id V_a0
  have hin3 := inb_of SS3 (j := ((0 : Int32) + (1 : Int32))) ⟨by decide, by decide⟩
  have hat3 : cl3.slots[(((0 : Int32) + (1 : Int32))).toNatClampNeg]? = some (.int z1) := HH3.at hin3 rfl
  obtain ⟨cl4, Ar4, -, SS4, MM4, HH4, -⟩ := id V_a0
  have hin4 := inb_of SS4 (j := (((0 : Int32) + (1 : Int32)) + (1 : Int32))) ⟨by decide, by decide⟩
  have hat4 : cl4.slots[((((0 : Int32) + (1 : Int32)) + (1 : Int32))).toNatClampNeg]? = some (.int z2) := HH4.at hin4 rfl
  obtain ⟨cl5, Ar5, -, SS5, MM5, HH5, -⟩ := id V_a0
  have hin5 := inb_of SS5 (j := ((((0 : Int32) + (1 : Int32)) + (1 : Int32)) + (1 : Int32))) ⟨by decide, by decide⟩
  have hat5 : cl5.slots[(((((0 : Int32) + (1 : Int32)) + (1 : Int32)) + (1 : Int32))).toNatClampNeg]? = some (.int z3) := HH5.at hin5 rfl
  obtain ⟨fs, hr, hrun, hended, hW, hsame⟩ := X0.leave (v := some (.long (((((1 : Int64) * (z0.toInt64)) * (z1.toInt64)) * (z2.toInt64)) * (z3.toInt64)))) (fun h => by rw [Bd.returns] at h; cases h)
  refine ⟨_, _, pre0 _ ?_, hrun, hended, _, _, rfl, ?_, ⟨_, rfl⟩, hW, hsame.mono (by decide) (by decide)⟩
  · show Steps p.tables e below (s₁.setTop (mkF m 0 #[.val (.ref a0), .unset, .unset, .unset, .unset, .unset, .unset] [])) _
    refine XS.lconst X0.here hx rfl (hb hby d2_0) ?_
    show Steps p.tables e below (s₁.setTop (mkF m 1 #[.val (.ref a0), .unset, .unset, .unset, .unset, .unset, .unset] [(.long (1 : Int64))])) _
    refine XS.lstoreN X0.here hx rfl (hb hby d2_1) rfl (l' := #[.val (.ref a0), .val (.long (1 : Int64)), .second, .unset, .unset, .unset, .unset]) rfl ?_
    show Steps p.tables e below (s₁.setTop (mkF m 2 #[.val (.ref a0), .val (.long (1 : Int64)), .second, .unset, .unset, .unset, .unset] [])) _
    refine XS.aloadN X0.here hx rfl (hb hby d2_2) rfl rfl ?_
    show Steps p.tables e below (s₁.setTop (mkF m 3 #[.val (.ref a0), .val (.long (1 : Int64)), .second, .unset, .unset, .unset, .unset] [(.ref a0)])) _
    refine XS.astoreN X0.here hx rfl (hb hby d2_3) rfl rfl (l' := #[.val (.ref a0), .val (.long (1 : Int64)), .second, .val (.ref a0), .unset, .unset, .unset]) rfl ?_
    show Steps p.tables e below (s₁.setTop (mkF m 4 #[.val (.ref a0), .val (.long (1 : Int64)), .second, .val (.ref a0), .unset, .unset, .unset] [])) _
    refine XS.aloadN X0.here hx rfl (hb hby d2_4) rfl rfl ?_
    show Steps p.tables e below (s₁.setTop (mkF m 5 #[.val (.ref a0), .val (.long (1 : Int64)), .second, .val (.ref a0), .unset, .unset, .unset] [(.ref a0)])) _
    refine X0.arraylength hx (by rw [e0]; exact Ar1.1) (State.isArrayOf_alike hZ.alike Ar1.2.1) (g := (mkF m 5 #[.val (.ref a0), .val (.long (1 : Int64)), .second, .val (.ref a0), .unset, .unset, .unset] [(.ref a0)])) rfl rfl (hb hby d2_5) _ ?_
    rw [len_of SS1 MM1]
    show Steps p.tables e below (s₁.setTop (mkF m 6 #[.val (.ref a0), .val (.long (1 : Int64)), .second, .val (.ref a0), .unset, .unset, .unset] [(.int (4 : Int32))])) _
    refine XS.istore X0.here hx rfl (hb hby d2_6) rfl (l' := #[.val (.ref a0), .val (.long (1 : Int64)), .second, .val (.ref a0), .val (.int (4 : Int32)), .unset, .unset]) rfl ?_
    show Steps p.tables e below (s₁.setTop (mkF m 8 #[.val (.ref a0), .val (.long (1 : Int64)), .second, .val (.ref a0), .val (.int (4 : Int32)), .unset, .unset] [])) _
    refine XS.iconst X0.here hx rfl (hb hby d2_8) ?_
    show Steps p.tables e below (s₁.setTop (mkF m 9 #[.val (.ref a0), .val (.long (1 : Int64)), .second, .val (.ref a0), .val (.int (4 : Int32)), .unset, .unset] [(.int (0 : Int32))])) _
    refine XS.istore X0.here hx rfl (hb hby d2_9) rfl (l' := #[.val (.ref a0), .val (.long (1 : Int64)), .second, .val (.ref a0), .val (.int (4 : Int32)), .val (.int (0 : Int32)), .unset]) rfl ?_
    show Steps p.tables e below (s₁.setTop (mkF m 11 #[.val (.ref a0), .val (.long (1 : Int64)), .second, .val (.ref a0), .val (.int (4 : Int32)), .val (.int (0 : Int32)), .unset] [])) _
    refine XS.iload X0.here hx rfl (hb hby d2_11) rfl ?_
    show Steps p.tables e below (s₁.setTop (mkF m 13 #[.val (.ref a0), .val (.long (1 : Int64)), .second, .val (.ref a0), .val (.int (4 : Int32)), .val (.int (0 : Int32)), .unset] [(.int (0 : Int32))])) _
    refine XS.iload X0.here hx rfl (hb hby d2_13) rfl ?_
    show Steps p.tables e below (s₁.setTop (mkF m 15 #[.val (.ref a0), .val (.long (1 : Int64)), .second, .val (.ref a0), .val (.int (4 : Int32)), .val (.int (0 : Int32)), .unset] [(.int (4 : Int32)), (.int (0 : Int32))])) _
    refine XS.icmpNo X0.here hx rfl (hb hby d2_15) rfl (tlt (by decide : (0 : Int32) < (4 : Int32))).2.1 ?_
    show Steps p.tables e below (s₁.setTop (mkF m 18 #[.val (.ref a0), .val (.long (1 : Int64)), .second, .val (.ref a0), .val (.int (4 : Int32)), .val (.int (0 : Int32)), .unset] [])) _
    refine XS.aloadN X0.here hx rfl (hb hby d2_18) rfl rfl ?_
    show Steps p.tables e below (s₁.setTop (mkF m 19 #[.val (.ref a0), .val (.long (1 : Int64)), .second, .val (.ref a0), .val (.int (4 : Int32)), .val (.int (0 : Int32)), .unset] [(.ref a0)])) _
    refine XS.iload X0.here hx rfl (hb hby d2_19) rfl ?_
    show Steps p.tables e below (s₁.setTop (mkF m 21 #[.val (.ref a0), .val (.long (1 : Int64)), .second, .val (.ref a0), .val (.int (4 : Int32)), .val (.int (0 : Int32)), .unset] [(.int (0 : Int32)), (.ref a0)])) _
    refine X0.iaload hx (j := (0 : Int32)) (v := (.int z0)) (by rw [e0]; exact Ar2.1) (State.isArrayOf_alike hZ.alike Ar2.2.1) Ar2.2.2 hin2 hat2 (g := (mkF m 21 #[.val (.ref a0), .val (.long (1 : Int64)), .second, .val (.ref a0), .val (.int (4 : Int32)), .val (.int (0 : Int32)), .unset] [(.int (0 : Int32)), (.ref a0)])) rfl rfl (hb hby d2_21) _ ?_
    show Steps p.tables e below (s₁.setTop (mkF m 22 #[.val (.ref a0), .val (.long (1 : Int64)), .second, .val (.ref a0), .val (.int (4 : Int32)), .val (.int (0 : Int32)), .unset] [(.int z0)])) _
    refine XS.istore X0.here hx rfl (hb hby d2_22) rfl (l' := #[.val (.ref a0), .val (.long (1 : Int64)), .second, .val (.ref a0), .val (.int (4 : Int32)), .val (.int (0 : Int32)), .val (.int z0)]) rfl ?_
    show Steps p.tables e below (s₁.setTop (mkF m 24 #[.val (.ref a0), .val (.long (1 : Int64)), .second, .val (.ref a0), .val (.int (4 : Int32)), .val (.int (0 : Int32)), .val (.int z0)] [])) _
    refine XS.lloadN X0.here hx rfl (hb hby d2_24) rfl ?_
    show Steps p.tables e below (s₁.setTop (mkF m 25 #[.val (.ref a0), .val (.long (1 : Int64)), .second, .val (.ref a0), .val (.int (4 : Int32)), .val (.int (0 : Int32)), .val (.int z0)] [(.long (1 : Int64))])) _
    refine XS.iload X0.here hx rfl (hb hby d2_25) rfl ?_
    show Steps p.tables e below (s₁.setTop (mkF m 27 #[.val (.ref a0), .val (.long (1 : Int64)), .second, .val (.ref a0), .val (.int (4 : Int32)), .val (.int (0 : Int32)), .val (.int z0)] [(.int z0), (.long (1 : Int64))])) _
    refine XS.i2l X0.here hx rfl (hb hby d2_27) rfl ?_
    show Steps p.tables e below (s₁.setTop (mkF m 28 #[.val (.ref a0), .val (.long (1 : Int64)), .second, .val (.ref a0), .val (.int (4 : Int32)), .val (.int (0 : Int32)), .val (.int z0)] [(.long (z0.toInt64)), (.long (1 : Int64))])) _
    refine XS.lmul X0.here hx rfl (hb hby d2_28) rfl ?_
    show Steps p.tables e below (s₁.setTop (mkF m 29 #[.val (.ref a0), .val (.long (1 : Int64)), .second, .val (.ref a0), .val (.int (4 : Int32)), .val (.int (0 : Int32)), .val (.int z0)] [(.long ((1 : Int64) * (z0.toInt64)))])) _
    refine XS.lstoreN X0.here hx rfl (hb hby d2_29) rfl (l' := #[.val (.ref a0), .val (.long ((1 : Int64) * (z0.toInt64))), .second, .val (.ref a0), .val (.int (4 : Int32)), .val (.int (0 : Int32)), .val (.int z0)]) rfl ?_
    show Steps p.tables e below (s₁.setTop (mkF m 30 #[.val (.ref a0), .val (.long ((1 : Int64) * (z0.toInt64))), .second, .val (.ref a0), .val (.int (4 : Int32)), .val (.int (0 : Int32)), .val (.int z0)] [])) _
    refine XS.iinc X0.here hx rfl (hb hby d2_30) rfl (l' := #[.val (.ref a0), .val (.long ((1 : Int64) * (z0.toInt64))), .second, .val (.ref a0), .val (.int (4 : Int32)), .val (.int ((0 : Int32) + (1 : Int32))), .val (.int z0)]) rfl ?_
    show Steps p.tables e below (s₁.setTop (mkF m 33 #[.val (.ref a0), .val (.long ((1 : Int64) * (z0.toInt64))), .second, .val (.ref a0), .val (.int (4 : Int32)), .val (.int ((0 : Int32) + (1 : Int32))), .val (.int z0)] [])) _
    refine XS.goto X0.here hx rfl (pc0 := 33) (pc' := 11) rfl (hb hby d2_33) (by decide) (by decide) ?_
    show Steps p.tables e below (s₁.setTop (mkF m 11 #[.val (.ref a0), .val (.long ((1 : Int64) * (z0.toInt64))), .second, .val (.ref a0), .val (.int (4 : Int32)), .val (.int ((0 : Int32) + (1 : Int32))), .val (.int z0)] [])) _
    refine XS.iload X0.here hx rfl (hb hby d2_11) rfl ?_
    show Steps p.tables e below (s₁.setTop (mkF m 13 #[.val (.ref a0), .val (.long ((1 : Int64) * (z0.toInt64))), .second, .val (.ref a0), .val (.int (4 : Int32)), .val (.int ((0 : Int32) + (1 : Int32))), .val (.int z0)] [(.int ((0 : Int32) + (1 : Int32)))])) _
    refine XS.iload X0.here hx rfl (hb hby d2_13) rfl ?_
    show Steps p.tables e below (s₁.setTop (mkF m 15 #[.val (.ref a0), .val (.long ((1 : Int64) * (z0.toInt64))), .second, .val (.ref a0), .val (.int (4 : Int32)), .val (.int ((0 : Int32) + (1 : Int32))), .val (.int z0)] [(.int (4 : Int32)), (.int ((0 : Int32) + (1 : Int32)))])) _
    refine XS.icmpNo X0.here hx rfl (hb hby d2_15) rfl (tlt (by decide : ((0 : Int32) + (1 : Int32)) < (4 : Int32))).2.1 ?_
    show Steps p.tables e below (s₁.setTop (mkF m 18 #[.val (.ref a0), .val (.long ((1 : Int64) * (z0.toInt64))), .second, .val (.ref a0), .val (.int (4 : Int32)), .val (.int ((0 : Int32) + (1 : Int32))), .val (.int z0)] [])) _
    refine XS.aloadN X0.here hx rfl (hb hby d2_18) rfl rfl ?_
    show Steps p.tables e below (s₁.setTop (mkF m 19 #[.val (.ref a0), .val (.long ((1 : Int64) * (z0.toInt64))), .second, .val (.ref a0), .val (.int (4 : Int32)), .val (.int ((0 : Int32) + (1 : Int32))), .val (.int z0)] [(.ref a0)])) _
    refine XS.iload X0.here hx rfl (hb hby d2_19) rfl ?_
    show Steps p.tables e below (s₁.setTop (mkF m 21 #[.val (.ref a0), .val (.long ((1 : Int64) * (z0.toInt64))), .second, .val (.ref a0), .val (.int (4 : Int32)), .val (.int ((0 : Int32) + (1 : Int32))), .val (.int z0)] [(.int ((0 : Int32) + (1 : Int32))), (.ref a0)])) _
    refine X0.iaload hx (j := ((0 : Int32) + (1 : Int32))) (v := (.int z1)) (by rw [e0]; exact Ar3.1) (State.isArrayOf_alike hZ.alike Ar3.2.1) Ar3.2.2 hin3 hat3 (g := (mkF m 21 #[.val (.ref a0), .val (.long ((1 : Int64) * (z0.toInt64))), .second, .val (.ref a0), .val (.int (4 : Int32)), .val (.int ((0 : Int32) + (1 : Int32))), .val (.int z0)] [(.int ((0 : Int32) + (1 : Int32))), (.ref a0)])) rfl rfl (hb hby d2_21) _ ?_
    show Steps p.tables e below (s₁.setTop (mkF m 22 #[.val (.ref a0), .val (.long ((1 : Int64) * (z0.toInt64))), .second, .val (.ref a0), .val (.int (4 : Int32)), .val (.int ((0 : Int32) + (1 : Int32))), .val (.int z0)] [(.int z1)])) _
    refine XS.istore X0.here hx rfl (hb hby d2_22) rfl (l' := #[.val (.ref a0), .val (.long ((1 : Int64) * (z0.toInt64))), .second, .val (.ref a0), .val (.int (4 : Int32)), .val (.int ((0 : Int32) + (1 : Int32))), .val (.int z1)]) rfl ?_
    show Steps p.tables e below (s₁.setTop (mkF m 24 #[.val (.ref a0), .val (.long ((1 : Int64) * (z0.toInt64))), .second, .val (.ref a0), .val (.int (4 : Int32)), .val (.int ((0 : Int32) + (1 : Int32))), .val (.int z1)] [])) _
    refine XS.lloadN X0.here hx rfl (hb hby d2_24) rfl ?_
    show Steps p.tables e below (s₁.setTop (mkF m 25 #[.val (.ref a0), .val (.long ((1 : Int64) * (z0.toInt64))), .second, .val (.ref a0), .val (.int (4 : Int32)), .val (.int ((0 : Int32) + (1 : Int32))), .val (.int z1)] [(.long ((1 : Int64) * (z0.toInt64)))])) _
    refine XS.iload X0.here hx rfl (hb hby d2_25) rfl ?_
    show Steps p.tables e below (s₁.setTop (mkF m 27 #[.val (.ref a0), .val (.long ((1 : Int64) * (z0.toInt64))), .second, .val (.ref a0), .val (.int (4 : Int32)), .val (.int ((0 : Int32) + (1 : Int32))), .val (.int z1)] [(.int z1), (.long ((1 : Int64) * (z0.toInt64)))])) _
    refine XS.i2l X0.here hx rfl (hb hby d2_27) rfl ?_
    show Steps p.tables e below (s₁.setTop (mkF m 28 #[.val (.ref a0), .val (.long ((1 : Int64) * (z0.toInt64))), .second, .val (.ref a0), .val (.int (4 : Int32)), .val (.int ((0 : Int32) + (1 : Int32))), .val (.int z1)] [(.long (z1.toInt64)), (.long ((1 : Int64) * (z0.toInt64)))])) _
    refine XS.lmul X0.here hx rfl (hb hby d2_28) rfl ?_
    show Steps p.tables e below (s₁.setTop (mkF m 29 #[.val (.ref a0), .val (.long ((1 : Int64) * (z0.toInt64))), .second, .val (.ref a0), .val (.int (4 : Int32)), .val (.int ((0 : Int32) + (1 : Int32))), .val (.int z1)] [(.long (((1 : Int64) * (z0.toInt64)) * (z1.toInt64)))])) _
    refine XS.lstoreN X0.here hx rfl (hb hby d2_29) rfl (l' := #[.val (.ref a0), .val (.long (((1 : Int64) * (z0.toInt64)) * (z1.toInt64))), .second, .val (.ref a0), .val (.int (4 : Int32)), .val (.int ((0 : Int32) + (1 : Int32))), .val (.int z1)]) rfl ?_
    show Steps p.tables e below (s₁.setTop (mkF m 30 #[.val (.ref a0), .val (.long (((1 : Int64) * (z0.toInt64)) * (z1.toInt64))), .second, .val (.ref a0), .val (.int (4 : Int32)), .val (.int ((0 : Int32) + (1 : Int32))), .val (.int z1)] [])) _
    refine XS.iinc X0.here hx rfl (hb hby d2_30) rfl (l' := #[.val (.ref a0), .val (.long (((1 : Int64) * (z0.toInt64)) * (z1.toInt64))), .second, .val (.ref a0), .val (.int (4 : Int32)), .val (.int (((0 : Int32) + (1 : Int32)) + (1 : Int32))), .val (.int z1)]) rfl ?_
    show Steps p.tables e below (s₁.setTop (mkF m 33 #[.val (.ref a0), .val (.long (((1 : Int64) * (z0.toInt64)) * (z1.toInt64))), .second, .val (.ref a0), .val (.int (4 : Int32)), .val (.int (((0 : Int32) + (1 : Int32)) + (1 : Int32))), .val (.int z1)] [])) _
    refine XS.goto X0.here hx rfl (pc0 := 33) (pc' := 11) rfl (hb hby d2_33) (by decide) (by decide) ?_
    show Steps p.tables e below (s₁.setTop (mkF m 11 #[.val (.ref a0), .val (.long (((1 : Int64) * (z0.toInt64)) * (z1.toInt64))), .second, .val (.ref a0), .val (.int (4 : Int32)), .val (.int (((0 : Int32) + (1 : Int32)) + (1 : Int32))), .val (.int z1)] [])) _
    refine XS.iload X0.here hx rfl (hb hby d2_11) rfl ?_
    show Steps p.tables e below (s₁.setTop (mkF m 13 #[.val (.ref a0), .val (.long (((1 : Int64) * (z0.toInt64)) * (z1.toInt64))), .second, .val (.ref a0), .val (.int (4 : Int32)), .val (.int (((0 : Int32) + (1 : Int32)) + (1 : Int32))), .val (.int z1)] [(.int (((0 : Int32) + (1 : Int32)) + (1 : Int32)))])) _
    refine XS.iload X0.here hx rfl (hb hby d2_13) rfl ?_
    show Steps p.tables e below (s₁.setTop (mkF m 15 #[.val (.ref a0), .val (.long (((1 : Int64) * (z0.toInt64)) * (z1.toInt64))), .second, .val (.ref a0), .val (.int (4 : Int32)), .val (.int (((0 : Int32) + (1 : Int32)) + (1 : Int32))), .val (.int z1)] [(.int (4 : Int32)), (.int (((0 : Int32) + (1 : Int32)) + (1 : Int32)))])) _
    refine XS.icmpNo X0.here hx rfl (hb hby d2_15) rfl (tlt (by decide : (((0 : Int32) + (1 : Int32)) + (1 : Int32)) < (4 : Int32))).2.1 ?_
    show Steps p.tables e below (s₁.setTop (mkF m 18 #[.val (.ref a0), .val (.long (((1 : Int64) * (z0.toInt64)) * (z1.toInt64))), .second, .val (.ref a0), .val (.int (4 : Int32)), .val (.int (((0 : Int32) + (1 : Int32)) + (1 : Int32))), .val (.int z1)] [])) _
    refine XS.aloadN X0.here hx rfl (hb hby d2_18) rfl rfl ?_
    show Steps p.tables e below (s₁.setTop (mkF m 19 #[.val (.ref a0), .val (.long (((1 : Int64) * (z0.toInt64)) * (z1.toInt64))), .second, .val (.ref a0), .val (.int (4 : Int32)), .val (.int (((0 : Int32) + (1 : Int32)) + (1 : Int32))), .val (.int z1)] [(.ref a0)])) _
    refine XS.iload X0.here hx rfl (hb hby d2_19) rfl ?_
    show Steps p.tables e below (s₁.setTop (mkF m 21 #[.val (.ref a0), .val (.long (((1 : Int64) * (z0.toInt64)) * (z1.toInt64))), .second, .val (.ref a0), .val (.int (4 : Int32)), .val (.int (((0 : Int32) + (1 : Int32)) + (1 : Int32))), .val (.int z1)] [(.int (((0 : Int32) + (1 : Int32)) + (1 : Int32))), (.ref a0)])) _
    refine X0.iaload hx (j := (((0 : Int32) + (1 : Int32)) + (1 : Int32))) (v := (.int z2)) (by rw [e0]; exact Ar4.1) (State.isArrayOf_alike hZ.alike Ar4.2.1) Ar4.2.2 hin4 hat4 (g := (mkF m 21 #[.val (.ref a0), .val (.long (((1 : Int64) * (z0.toInt64)) * (z1.toInt64))), .second, .val (.ref a0), .val (.int (4 : Int32)), .val (.int (((0 : Int32) + (1 : Int32)) + (1 : Int32))), .val (.int z1)] [(.int (((0 : Int32) + (1 : Int32)) + (1 : Int32))), (.ref a0)])) rfl rfl (hb hby d2_21) _ ?_
    show Steps p.tables e below (s₁.setTop (mkF m 22 #[.val (.ref a0), .val (.long (((1 : Int64) * (z0.toInt64)) * (z1.toInt64))), .second, .val (.ref a0), .val (.int (4 : Int32)), .val (.int (((0 : Int32) + (1 : Int32)) + (1 : Int32))), .val (.int z1)] [(.int z2)])) _
    refine XS.istore X0.here hx rfl (hb hby d2_22) rfl (l' := #[.val (.ref a0), .val (.long (((1 : Int64) * (z0.toInt64)) * (z1.toInt64))), .second, .val (.ref a0), .val (.int (4 : Int32)), .val (.int (((0 : Int32) + (1 : Int32)) + (1 : Int32))), .val (.int z2)]) rfl ?_
    show Steps p.tables e below (s₁.setTop (mkF m 24 #[.val (.ref a0), .val (.long (((1 : Int64) * (z0.toInt64)) * (z1.toInt64))), .second, .val (.ref a0), .val (.int (4 : Int32)), .val (.int (((0 : Int32) + (1 : Int32)) + (1 : Int32))), .val (.int z2)] [])) _
    refine XS.lloadN X0.here hx rfl (hb hby d2_24) rfl ?_
    show Steps p.tables e below (s₁.setTop (mkF m 25 #[.val (.ref a0), .val (.long (((1 : Int64) * (z0.toInt64)) * (z1.toInt64))), .second, .val (.ref a0), .val (.int (4 : Int32)), .val (.int (((0 : Int32) + (1 : Int32)) + (1 : Int32))), .val (.int z2)] [(.long (((1 : Int64) * (z0.toInt64)) * (z1.toInt64)))])) _
    refine XS.iload X0.here hx rfl (hb hby d2_25) rfl ?_
    show Steps p.tables e below (s₁.setTop (mkF m 27 #[.val (.ref a0), .val (.long (((1 : Int64) * (z0.toInt64)) * (z1.toInt64))), .second, .val (.ref a0), .val (.int (4 : Int32)), .val (.int (((0 : Int32) + (1 : Int32)) + (1 : Int32))), .val (.int z2)] [(.int z2), (.long (((1 : Int64) * (z0.toInt64)) * (z1.toInt64)))])) _
    refine XS.i2l X0.here hx rfl (hb hby d2_27) rfl ?_
    show Steps p.tables e below (s₁.setTop (mkF m 28 #[.val (.ref a0), .val (.long (((1 : Int64) * (z0.toInt64)) * (z1.toInt64))), .second, .val (.ref a0), .val (.int (4 : Int32)), .val (.int (((0 : Int32) + (1 : Int32)) + (1 : Int32))), .val (.int z2)] [(.long (z2.toInt64)), (.long (((1 : Int64) * (z0.toInt64)) * (z1.toInt64)))])) _
    refine XS.lmul X0.here hx rfl (hb hby d2_28) rfl ?_
    show Steps p.tables e below (s₁.setTop (mkF m 29 #[.val (.ref a0), .val (.long (((1 : Int64) * (z0.toInt64)) * (z1.toInt64))), .second, .val (.ref a0), .val (.int (4 : Int32)), .val (.int (((0 : Int32) + (1 : Int32)) + (1 : Int32))), .val (.int z2)] [(.long ((((1 : Int64) * (z0.toInt64)) * (z1.toInt64)) * (z2.toInt64)))])) _
    refine XS.lstoreN X0.here hx rfl (hb hby d2_29) rfl (l' := #[.val (.ref a0), .val (.long ((((1 : Int64) * (z0.toInt64)) * (z1.toInt64)) * (z2.toInt64))), .second, .val (.ref a0), .val (.int (4 : Int32)), .val (.int (((0 : Int32) + (1 : Int32)) + (1 : Int32))), .val (.int z2)]) rfl ?_
    show Steps p.tables e below (s₁.setTop (mkF m 30 #[.val (.ref a0), .val (.long ((((1 : Int64) * (z0.toInt64)) * (z1.toInt64)) * (z2.toInt64))), .second, .val (.ref a0), .val (.int (4 : Int32)), .val (.int (((0 : Int32) + (1 : Int32)) + (1 : Int32))), .val (.int z2)] [])) _
    refine XS.iinc X0.here hx rfl (hb hby d2_30) rfl (l' := #[.val (.ref a0), .val (.long ((((1 : Int64) * (z0.toInt64)) * (z1.toInt64)) * (z2.toInt64))), .second, .val (.ref a0), .val (.int (4 : Int32)), .val (.int ((((0 : Int32) + (1 : Int32)) + (1 : Int32)) + (1 : Int32))), .val (.int z2)]) rfl ?_
    show Steps p.tables e below (s₁.setTop (mkF m 33 #[.val (.ref a0), .val (.long ((((1 : Int64) * (z0.toInt64)) * (z1.toInt64)) * (z2.toInt64))), .second, .val (.ref a0), .val (.int (4 : Int32)), .val (.int ((((0 : Int32) + (1 : Int32)) + (1 : Int32)) + (1 : Int32))), .val (.int z2)] [])) _
    refine XS.goto X0.here hx rfl (pc0 := 33) (pc' := 11) rfl (hb hby d2_33) (by decide) (by decide) ?_
    show Steps p.tables e below (s₁.setTop (mkF m 11 #[.val (.ref a0), .val (.long ((((1 : Int64) * (z0.toInt64)) * (z1.toInt64)) * (z2.toInt64))), .second, .val (.ref a0), .val (.int (4 : Int32)), .val (.int ((((0 : Int32) + (1 : Int32)) + (1 : Int32)) + (1 : Int32))), .val (.int z2)] [])) _
    refine XS.iload X0.here hx rfl (hb hby d2_11) rfl ?_
    show Steps p.tables e below (s₁.setTop (mkF m 13 #[.val (.ref a0), .val (.long ((((1 : Int64) * (z0.toInt64)) * (z1.toInt64)) * (z2.toInt64))), .second, .val (.ref a0), .val (.int (4 : Int32)), .val (.int ((((0 : Int32) + (1 : Int32)) + (1 : Int32)) + (1 : Int32))), .val (.int z2)] [(.int ((((0 : Int32) + (1 : Int32)) + (1 : Int32)) + (1 : Int32)))])) _
    refine XS.iload X0.here hx rfl (hb hby d2_13) rfl ?_
    show Steps p.tables e below (s₁.setTop (mkF m 15 #[.val (.ref a0), .val (.long ((((1 : Int64) * (z0.toInt64)) * (z1.toInt64)) * (z2.toInt64))), .second, .val (.ref a0), .val (.int (4 : Int32)), .val (.int ((((0 : Int32) + (1 : Int32)) + (1 : Int32)) + (1 : Int32))), .val (.int z2)] [(.int (4 : Int32)), (.int ((((0 : Int32) + (1 : Int32)) + (1 : Int32)) + (1 : Int32)))])) _
    refine XS.icmpNo X0.here hx rfl (hb hby d2_15) rfl (tlt (by decide : ((((0 : Int32) + (1 : Int32)) + (1 : Int32)) + (1 : Int32)) < (4 : Int32))).2.1 ?_
    show Steps p.tables e below (s₁.setTop (mkF m 18 #[.val (.ref a0), .val (.long ((((1 : Int64) * (z0.toInt64)) * (z1.toInt64)) * (z2.toInt64))), .second, .val (.ref a0), .val (.int (4 : Int32)), .val (.int ((((0 : Int32) + (1 : Int32)) + (1 : Int32)) + (1 : Int32))), .val (.int z2)] [])) _
    refine XS.aloadN X0.here hx rfl (hb hby d2_18) rfl rfl ?_
    show Steps p.tables e below (s₁.setTop (mkF m 19 #[.val (.ref a0), .val (.long ((((1 : Int64) * (z0.toInt64)) * (z1.toInt64)) * (z2.toInt64))), .second, .val (.ref a0), .val (.int (4 : Int32)), .val (.int ((((0 : Int32) + (1 : Int32)) + (1 : Int32)) + (1 : Int32))), .val (.int z2)] [(.ref a0)])) _
    refine XS.iload X0.here hx rfl (hb hby d2_19) rfl ?_
    show Steps p.tables e below (s₁.setTop (mkF m 21 #[.val (.ref a0), .val (.long ((((1 : Int64) * (z0.toInt64)) * (z1.toInt64)) * (z2.toInt64))), .second, .val (.ref a0), .val (.int (4 : Int32)), .val (.int ((((0 : Int32) + (1 : Int32)) + (1 : Int32)) + (1 : Int32))), .val (.int z2)] [(.int ((((0 : Int32) + (1 : Int32)) + (1 : Int32)) + (1 : Int32))), (.ref a0)])) _
    refine X0.iaload hx (j := ((((0 : Int32) + (1 : Int32)) + (1 : Int32)) + (1 : Int32))) (v := (.int z3)) (by rw [e0]; exact Ar5.1) (State.isArrayOf_alike hZ.alike Ar5.2.1) Ar5.2.2 hin5 hat5 (g := (mkF m 21 #[.val (.ref a0), .val (.long ((((1 : Int64) * (z0.toInt64)) * (z1.toInt64)) * (z2.toInt64))), .second, .val (.ref a0), .val (.int (4 : Int32)), .val (.int ((((0 : Int32) + (1 : Int32)) + (1 : Int32)) + (1 : Int32))), .val (.int z2)] [(.int ((((0 : Int32) + (1 : Int32)) + (1 : Int32)) + (1 : Int32))), (.ref a0)])) rfl rfl (hb hby d2_21) _ ?_
    show Steps p.tables e below (s₁.setTop (mkF m 22 #[.val (.ref a0), .val (.long ((((1 : Int64) * (z0.toInt64)) * (z1.toInt64)) * (z2.toInt64))), .second, .val (.ref a0), .val (.int (4 : Int32)), .val (.int ((((0 : Int32) + (1 : Int32)) + (1 : Int32)) + (1 : Int32))), .val (.int z2)] [(.int z3)])) _
    refine XS.istore X0.here hx rfl (hb hby d2_22) rfl (l' := #[.val (.ref a0), .val (.long ((((1 : Int64) * (z0.toInt64)) * (z1.toInt64)) * (z2.toInt64))), .second, .val (.ref a0), .val (.int (4 : Int32)), .val (.int ((((0 : Int32) + (1 : Int32)) + (1 : Int32)) + (1 : Int32))), .val (.int z3)]) rfl ?_
    show Steps p.tables e below (s₁.setTop (mkF m 24 #[.val (.ref a0), .val (.long ((((1 : Int64) * (z0.toInt64)) * (z1.toInt64)) * (z2.toInt64))), .second, .val (.ref a0), .val (.int (4 : Int32)), .val (.int ((((0 : Int32) + (1 : Int32)) + (1 : Int32)) + (1 : Int32))), .val (.int z3)] [])) _
    refine XS.lloadN X0.here hx rfl (hb hby d2_24) rfl ?_
    show Steps p.tables e below (s₁.setTop (mkF m 25 #[.val (.ref a0), .val (.long ((((1 : Int64) * (z0.toInt64)) * (z1.toInt64)) * (z2.toInt64))), .second, .val (.ref a0), .val (.int (4 : Int32)), .val (.int ((((0 : Int32) + (1 : Int32)) + (1 : Int32)) + (1 : Int32))), .val (.int z3)] [(.long ((((1 : Int64) * (z0.toInt64)) * (z1.toInt64)) * (z2.toInt64)))])) _
    refine XS.iload X0.here hx rfl (hb hby d2_25) rfl ?_
    show Steps p.tables e below (s₁.setTop (mkF m 27 #[.val (.ref a0), .val (.long ((((1 : Int64) * (z0.toInt64)) * (z1.toInt64)) * (z2.toInt64))), .second, .val (.ref a0), .val (.int (4 : Int32)), .val (.int ((((0 : Int32) + (1 : Int32)) + (1 : Int32)) + (1 : Int32))), .val (.int z3)] [(.int z3), (.long ((((1 : Int64) * (z0.toInt64)) * (z1.toInt64)) * (z2.toInt64)))])) _
    refine XS.i2l X0.here hx rfl (hb hby d2_27) rfl ?_
    show Steps p.tables e below (s₁.setTop (mkF m 28 #[.val (.ref a0), .val (.long ((((1 : Int64) * (z0.toInt64)) * (z1.toInt64)) * (z2.toInt64))), .second, .val (.ref a0), .val (.int (4 : Int32)), .val (.int ((((0 : Int32) + (1 : Int32)) + (1 : Int32)) + (1 : Int32))), .val (.int z3)] [(.long (z3.toInt64)), (.long ((((1 : Int64) * (z0.toInt64)) * (z1.toInt64)) * (z2.toInt64)))])) _
    refine XS.lmul X0.here hx rfl (hb hby d2_28) rfl ?_
    show Steps p.tables e below (s₁.setTop (mkF m 29 #[.val (.ref a0), .val (.long ((((1 : Int64) * (z0.toInt64)) * (z1.toInt64)) * (z2.toInt64))), .second, .val (.ref a0), .val (.int (4 : Int32)), .val (.int ((((0 : Int32) + (1 : Int32)) + (1 : Int32)) + (1 : Int32))), .val (.int z3)] [(.long (((((1 : Int64) * (z0.toInt64)) * (z1.toInt64)) * (z2.toInt64)) * (z3.toInt64)))])) _
    refine XS.lstoreN X0.here hx rfl (hb hby d2_29) rfl (l' := #[.val (.ref a0), .val (.long (((((1 : Int64) * (z0.toInt64)) * (z1.toInt64)) * (z2.toInt64)) * (z3.toInt64))), .second, .val (.ref a0), .val (.int (4 : Int32)), .val (.int ((((0 : Int32) + (1 : Int32)) + (1 : Int32)) + (1 : Int32))), .val (.int z3)]) rfl ?_
    show Steps p.tables e below (s₁.setTop (mkF m 30 #[.val (.ref a0), .val (.long (((((1 : Int64) * (z0.toInt64)) * (z1.toInt64)) * (z2.toInt64)) * (z3.toInt64))), .second, .val (.ref a0), .val (.int (4 : Int32)), .val (.int ((((0 : Int32) + (1 : Int32)) + (1 : Int32)) + (1 : Int32))), .val (.int z3)] [])) _
    refine XS.iinc X0.here hx rfl (hb hby d2_30) rfl (l' := #[.val (.ref a0), .val (.long (((((1 : Int64) * (z0.toInt64)) * (z1.toInt64)) * (z2.toInt64)) * (z3.toInt64))), .second, .val (.ref a0), .val (.int (4 : Int32)), .val (.int (((((0 : Int32) + (1 : Int32)) + (1 : Int32)) + (1 : Int32)) + (1 : Int32))), .val (.int z3)]) rfl ?_
    show Steps p.tables e below (s₁.setTop (mkF m 33 #[.val (.ref a0), .val (.long (((((1 : Int64) * (z0.toInt64)) * (z1.toInt64)) * (z2.toInt64)) * (z3.toInt64))), .second, .val (.ref a0), .val (.int (4 : Int32)), .val (.int (((((0 : Int32) + (1 : Int32)) + (1 : Int32)) + (1 : Int32)) + (1 : Int32))), .val (.int z3)] [])) _
    refine XS.goto X0.here hx rfl (pc0 := 33) (pc' := 11) rfl (hb hby d2_33) (by decide) (by decide) ?_
    show Steps p.tables e below (s₁.setTop (mkF m 11 #[.val (.ref a0), .val (.long (((((1 : Int64) * (z0.toInt64)) * (z1.toInt64)) * (z2.toInt64)) * (z3.toInt64))), .second, .val (.ref a0), .val (.int (4 : Int32)), .val (.int (((((0 : Int32) + (1 : Int32)) + (1 : Int32)) + (1 : Int32)) + (1 : Int32))), .val (.int z3)] [])) _
    refine XS.iload X0.here hx rfl (hb hby d2_11) rfl ?_
    show Steps p.tables e below (s₁.setTop (mkF m 13 #[.val (.ref a0), .val (.long (((((1 : Int64) * (z0.toInt64)) * (z1.toInt64)) * (z2.toInt64)) * (z3.toInt64))), .second, .val (.ref a0), .val (.int (4 : Int32)), .val (.int (((((0 : Int32) + (1 : Int32)) + (1 : Int32)) + (1 : Int32)) + (1 : Int32))), .val (.int z3)] [(.int (((((0 : Int32) + (1 : Int32)) + (1 : Int32)) + (1 : Int32)) + (1 : Int32)))])) _
    refine XS.iload X0.here hx rfl (hb hby d2_13) rfl ?_
    show Steps p.tables e below (s₁.setTop (mkF m 15 #[.val (.ref a0), .val (.long (((((1 : Int64) * (z0.toInt64)) * (z1.toInt64)) * (z2.toInt64)) * (z3.toInt64))), .second, .val (.ref a0), .val (.int (4 : Int32)), .val (.int (((((0 : Int32) + (1 : Int32)) + (1 : Int32)) + (1 : Int32)) + (1 : Int32))), .val (.int z3)] [(.int (4 : Int32)), (.int (((((0 : Int32) + (1 : Int32)) + (1 : Int32)) + (1 : Int32)) + (1 : Int32)))])) _
    refine XS.icmpYes X0.here hx rfl (pc0 := 15) (pc' := 36) rfl (hb hby d2_15) rfl (flt (by decide : ¬ ((((((0 : Int32) + (1 : Int32)) + (1 : Int32)) + (1 : Int32)) + (1 : Int32)) < (4 : Int32)))).2.1 (by decide) (by decide) ?_
    show Steps p.tables e below (s₁.setTop (mkF m 36 #[.val (.ref a0), .val (.long (((((1 : Int64) * (z0.toInt64)) * (z1.toInt64)) * (z2.toInt64)) * (z3.toInt64))), .second, .val (.ref a0), .val (.int (4 : Int32)), .val (.int (((((0 : Int32) + (1 : Int32)) + (1 : Int32)) + (1 : Int32)) + (1 : Int32))), .val (.int z3)] [])) _
    refine XS.lloadN X0.here hx rfl (hb hby d2_36) rfl ?_
    show Steps p.tables e below (s₁.setTop (mkF m 37 #[.val (.ref a0), .val (.long (((((1 : Int64) * (z0.toInt64)) * (z1.toInt64)) * (z2.toInt64)) * (z3.toInt64))), .second, .val (.ref a0), .val (.int (4 : Int32)), .val (.int (((((0 : Int32) + (1 : Int32)) + (1 : Int32)) + (1 : Int32)) + (1 : Int32))), .val (.int z3)] [(.long (((((1 : Int64) * (z0.toInt64)) * (z1.toInt64)) * (z2.toInt64)) * (z3.toInt64)))])) _
    exact own_retJ X0 hx Bd.returns (hb hby d2_37) hr
  · show Qrm2_4 Z a0 kk z0 z1 z2 z3 h0 n0 _ s₁.heap _
    rw [e0]
    exact ⟨rfl, N0, rfl⟩
theorem own_n (z : Int32) : ((z &&& (2147483647 : Int32)) % (5 : Int32)) = (0 : Int32) ∨ ((z &&& (2147483647 : Int32)) % (5 : Int32)) = (1 : Int32) ∨ ((z &&& (2147483647 : Int32)) % (5 : Int32)) = (2 : Int32) ∨ ((z &&& (2147483647 : Int32)) % (5 : Int32)) = (3 : Int32) ∨ ((z &&& (2147483647 : Int32)) % (5 : Int32)) = (4 : Int32) := by
  have a := c_and z 2147483647 (by decide)
  have b := (c_irem (z &&& (2147483647 : Int32)) 5 5 (by decide)).1 a.1
  have e0 : (0 : Int32).toInt = 0 := by decide
  have e1 : (1 : Int32).toInt = 1 := by decide
  have e2 : (2 : Int32).toInt = 2 := by decide
  have e3 : (3 : Int32).toInt = 3 := by decide
  have e4 : (4 : Int32).toInt = 4 := by decide
  simp only [← Int32.toInt_inj, e0, e1, e2, e3, e4]
  omega
theorem pd_0 : parseMethodDescriptor "(I)I" = some ⟨[.int], some .int⟩ := by decide +kernel
theorem pd_1 : parseMethodDescriptor "([I)J" = some ⟨[(.array .int)], some .long⟩ := by decide +kernel
theorem pn_0 : plainName "com/example/epitome/epitome/cube/CubeCellsProductPinLaw" = true := by first | (simp [plainName, overriddenIn]; done) | decide +kernel
theorem ef_rm0 (m : MethodId) (p0 : Int32) (p1 : Int32) (p2 : Int32) (p3 : Int32) (p4 : Int32) : entryFrame m #[(.int p0), (.int p1), (.int p2), (.int p3), (.int p4)] maxLocals = mkF m 0 #[.val (.int p0), .val (.int p1), .val (.int p2), .val (.int p3), .val (.int p4), .unset, .unset, .unset, .unset, .unset, .unset, .unset, .unset] [] := by first | (simp [entryFrame, mkF, argsToLocals, Value.category, maxLocals]; done) | rfl
def Qrm0 (Z : State) (p0 : Int32) (p1 : Int32) (p2 : Int32) (p3 : Int32) (p4 : Int32) (h0 : Heap) (n0 : Nat) (v : Option Value) (h : Heap) (L : List Loc) : Prop := v = some (.int (1 : Int32)) ∧ Fr n0 L
set_option maxRecDepth 65536 in
set_option maxHeartbeats 40000000 in
theorem rm0 (l : Launch) (Z : State) (A0 : Array Value) (hw : ∀ d ∈ tables_1, d.before A0 Z = true) (ws : List Jvm.Cond) (p0 : Int32) (p1 : Int32) (p2 : Int32) (p3 : Int32) (p4 : Int32) (h0 : Heap) (n0 : Nat) (Z0 : n0 ≤ h0.size) :
    MetFree l x (head1 (Jvm.Cond.code x code maxLocals ret :: ws) room_1) (fun a U => a = #[(.int p0), (.int p1), (.int p2), (.int p3), (.int p4)] ∧ Z.Warmed39 U.vm ∧ U.heap = h0) (fun _ _ _ _ _ => True) (fun _ U o U' => ∃ v L, o = .returned v ∧ Qrm0 Z p0 p1 p2 p3 p4 h0 n0 v U'.heap L ∧ FrameEnd U o U' L room_1.cells room_1.slots) := by
  refine MetFree.of_bodySF (plainFor_of_name pn_0) hisR ?_
  intro p e s m args below meth c s₁ Bd hml0 hP hK
  obtain ⟨rfl, hZ, hh⟩ := hP
  have hx := Bd.exec
  have hby := Bd.bytes
  have hml : c.maxLocals = 13 := hml0
  have hown : s.vm.findClass "com/example/epitome/epitome/cube/CubeCellsProductPinLaw" = some m.cls := findClass_of_methodNamed Bd.named
  have hnm := (name_of_methodNamed Bd.named Bd.method).1
  have X0 : Stand p l e room_1 s m #[(.int p0), (.int p1), (.int p2), (.int p3), (.int p4)] below meth c s₁ [] 0 0 := Stand.of_body Bd
  have e0 : s₁.heap = h0 := by rw [← hh, Bd.state]; rfl
  have N0 := Fr.nil n0
  have K0 : Keep h0 h0 [] := Keep.refl _ _
  have pre0 : ∀ t, Steps p.tables e below (s₁.setTop (mkF m 0 #[.val (.int p0), .val (.int p1), .val (.int p2), .val (.int p3), .val (.int p4), .unset, .unset, .unset, .unset, .unset, .unset, .unset, .unset] [])) t → Steps p.tables e below (s₁.setTop (entryFrame m #[(.int p0), (.int p1), (.int p2), (.int p3), (.int p4)] maxLocals)) t := fun t k => castTop (ef_rm0 m p0 p1 p2 p3 p4) k
  obtain ⟨nn, h_nn⟩ : ∃ z : Int32, z = ((p0 &&& (2147483647 : Int32)) % (5 : Int32)) := ⟨_, rfl⟩
  obtain ⟨_, _, ⟨T1, L1, k1, n1⟩, -, X1, ⟨Lc1, hQ1, l1, y1, z1⟩, st1⟩ := Jvm.LawKit.callS X0 hx (y := (⟨"com/example/epitome/epitome/cube/CubeCellsProductPinLaw", "size", "(I)I"⟩ : MethodName)) hown (mvT hZ (hw _ (List.mem_of_getElem? (i := 1) rfl))) (mvT hZ (hw _ (List.mem_of_getElem? (i := 2) rfl))) (mvT hZ (hw _ (List.mem_of_getElem? (i := 3) rfl))) (mvT hZ (hw _ (List.mem_of_getElem? (i := 4) rfl))) (by decide) (backOf (W := 0) (rm1 l Z A0 hw [] p1  h0 n0 Z0 ) hZ (hw _ (List.mem_of_getElem? (i := 4) rfl)) (hw _ (List.mem_of_getElem? (i := 3) rfl)) (by decide) (by decide)) (g := (mkF m 9 #[.val (.int p0), .val (.int p1), .val (.int p2), .val (.int p3), .val (.int p4), .val (.int nn), .unset, .unset, .unset, .unset, .unset, .unset, .unset] [(.int p1)])) rfl (by rw [hml]; rfl) (argsL := [(.int p1)]) (rest := []) (lenOf pd_0 rfl) rfl (by show 2 * 0 + _ ≤ _; exact Nat.le_of_eq rfl) (hb hby at_9) (fun _ _ => ⟨rfl, e0, (by decide : 0 + 0 ≤ _), (by decide : 0 + 0 ≤ _)⟩)
  dsimp only [Pt.U, Pt.locs, Pt.cells, Pt.slots] at X1 l1 y1 z1 st1 hQ1
  subst l1 y1 z1
  obtain ⟨rfl, N1q, eh1⟩ := hQ1
  have N1 := Fr.app N0 N1q
  obtain ⟨as, h_as⟩ : ∃ z : Int32, z = ((p1 &&& (2147483647 : Int32)) % (134217729 : Int32)) := ⟨_, rfl⟩
  obtain ⟨_, _, ⟨T2, L2, k2, n2⟩, -, X2, ⟨Lc2, hQ2, l2, y2, z2⟩, st2⟩ := Jvm.LawKit.callS X1 hx (y := (⟨"com/example/epitome/epitome/cube/CubeCellsProductPinLaw", "size", "(I)I"⟩ : MethodName)) hown (mvT hZ (hw _ (List.mem_of_getElem? (i := 1) rfl))) (mvT hZ (hw _ (List.mem_of_getElem? (i := 2) rfl))) (mvT hZ (hw _ (List.mem_of_getElem? (i := 3) rfl))) (mvT hZ (hw _ (List.mem_of_getElem? (i := 4) rfl))) (by decide) (backOf (W := 0) (rm1 l Z A0 hw [] p2  h0 n0 Z0 ) hZ (hw _ (List.mem_of_getElem? (i := 4) rfl)) (hw _ (List.mem_of_getElem? (i := 3) rfl)) (by decide) (by decide)) (g := (mkF m 15 #[.val (.int p0), .val (.int p1), .val (.int p2), .val (.int p3), .val (.int p4), .val (.int nn), .val (.int as), .unset, .unset, .unset, .unset, .unset, .unset] [(.int p2)])) rfl (by rw [hml]; rfl) (argsL := [(.int p2)]) (rest := []) (lenOf pd_0 rfl) rfl (by show 2 * 0 + _ ≤ _; exact Nat.le_of_eq rfl) (hb hby at_15) (fun _ _ => ⟨rfl, eh1, (by decide : 0 + 0 ≤ _), (by decide : 0 + 0 ≤ _)⟩)
  dsimp only [Pt.U, Pt.locs, Pt.cells, Pt.slots] at X2 l2 y2 z2 st2 hQ2
  subst l2 y2 z2
  obtain ⟨rfl, N2q, eh2⟩ := hQ2
  have N2 := Fr.app N1 N2q
  obtain ⟨bs, h_bs⟩ : ∃ z : Int32, z = ((p2 &&& (2147483647 : Int32)) % (134217729 : Int32)) := ⟨_, rfl⟩
  obtain ⟨_, _, ⟨T3, L3, k3, n3⟩, -, X3, ⟨Lc3, hQ3, l3, y3, z3⟩, st3⟩ := Jvm.LawKit.callS X2 hx (y := (⟨"com/example/epitome/epitome/cube/CubeCellsProductPinLaw", "size", "(I)I"⟩ : MethodName)) hown (mvT hZ (hw _ (List.mem_of_getElem? (i := 1) rfl))) (mvT hZ (hw _ (List.mem_of_getElem? (i := 2) rfl))) (mvT hZ (hw _ (List.mem_of_getElem? (i := 3) rfl))) (mvT hZ (hw _ (List.mem_of_getElem? (i := 4) rfl))) (by decide) (backOf (W := 0) (rm1 l Z A0 hw [] p3  h0 n0 Z0 ) hZ (hw _ (List.mem_of_getElem? (i := 4) rfl)) (hw _ (List.mem_of_getElem? (i := 3) rfl)) (by decide) (by decide)) (g := (mkF m 21 #[.val (.int p0), .val (.int p1), .val (.int p2), .val (.int p3), .val (.int p4), .val (.int nn), .val (.int as), .val (.int bs), .unset, .unset, .unset, .unset, .unset] [(.int p3)])) rfl (by rw [hml]; rfl) (argsL := [(.int p3)]) (rest := []) (lenOf pd_0 rfl) rfl (by show 2 * 0 + _ ≤ _; exact Nat.le_of_eq rfl) (hb hby at_21) (fun _ _ => ⟨rfl, eh2, (by decide : 0 + 0 ≤ _), (by decide : 0 + 0 ≤ _)⟩)
  dsimp only [Pt.U, Pt.locs, Pt.cells, Pt.slots] at X3 l3 y3 z3 st3 hQ3
  subst l3 y3 z3
  obtain ⟨rfl, N3q, eh3⟩ := hQ3
  have N3 := Fr.app N2 N3q
  obtain ⟨cs, h_cs⟩ : ∃ z : Int32, z = ((p3 &&& (2147483647 : Int32)) % (134217729 : Int32)) := ⟨_, rfl⟩
  obtain ⟨_, _, ⟨T4, L4, k4, n4⟩, -, X4, ⟨Lc4, hQ4, l4, y4, z4⟩, st4⟩ := Jvm.LawKit.callS X3 hx (y := (⟨"com/example/epitome/epitome/cube/CubeCellsProductPinLaw", "size", "(I)I"⟩ : MethodName)) hown (mvT hZ (hw _ (List.mem_of_getElem? (i := 1) rfl))) (mvT hZ (hw _ (List.mem_of_getElem? (i := 2) rfl))) (mvT hZ (hw _ (List.mem_of_getElem? (i := 3) rfl))) (mvT hZ (hw _ (List.mem_of_getElem? (i := 4) rfl))) (by decide) (backOf (W := 0) (rm1 l Z A0 hw [] p4  h0 n0 Z0 ) hZ (hw _ (List.mem_of_getElem? (i := 4) rfl)) (hw _ (List.mem_of_getElem? (i := 3) rfl)) (by decide) (by decide)) (g := (mkF m 28 #[.val (.int p0), .val (.int p1), .val (.int p2), .val (.int p3), .val (.int p4), .val (.int nn), .val (.int as), .val (.int bs), .val (.int cs), .unset, .unset, .unset, .unset] [(.int p4)])) rfl (by rw [hml]; rfl) (argsL := [(.int p4)]) (rest := []) (lenOf pd_0 rfl) rfl (by show 2 * 0 + _ ≤ _; exact Nat.le_of_eq rfl) (hb hby at_28) (fun _ _ => ⟨rfl, eh3, (by decide : 0 + 0 ≤ _), (by decide : 0 + 0 ≤ _)⟩)
  dsimp only [Pt.U, Pt.locs, Pt.cells, Pt.slots] at X4 l4 y4 z4 st4 hQ4
  subst l4 y4 z4
  obtain ⟨rfl, N4q, eh4⟩ := hQ4
  have N4 := Fr.app N3 N4q
  obtain ⟨ds, h_ds⟩ : ∃ z : Int32, z = ((p4 &&& (2147483647 : Int32)) % (134217729 : Int32)) := ⟨_, rfl⟩
  rcases (h_nn ▸ own_n p0 : nn = (0 : Int32) ∨ nn = (1 : Int32) ∨ nn = (2 : Int32) ∨ nn = (3 : Int32) ∨ nn = (4 : Int32)) with rfl | rfl | rfl | rfl | rfl
  · obtain ⟨T5, h5, k5, X5, e5, E5, A5, st5⟩ := newP X4 hx hZ (hw _ (List.mem_of_getElem? (i := 6) rfl)) eh4 (g := (mkF m 35 #[.val (.int p0), .val (.int p1), .val (.int p2), .val (.int p3), .val (.int p4), .val (.int (0 : Int32)), .val (.int as), .val (.int bs), .val (.int cs), .val (.int ds), .unset, .unset, .unset] [(.int (0 : Int32))])) rfl (hb hby at_35) rfl (by decide) (cap := 0) (by decide) (by decide) (by decide) (by decide)
    obtain ⟨ar, g5⟩ : ∃ z, z = h0.size := ⟨_, rfl⟩
    rw [← g5] at A5 st5
    have g_ar : n0 ≤ ar := Nat.le_trans Z0 (Nat.le_of_eq g5.symm)
    have sz_ar : h0.size ≤ ar := Nat.le_trans K0.1 (Nat.le_of_eq g5.symm)
    have Zh5 : n0 ≤ h5.size := Nat.le_trans Z0 E5.1
    have Kh5 : Keep h0 h5 [] := K0.ext E5
    have V_ar : Arv Z h5 ar k5 .int (0 : Int32) [] (.int (0 : Int32)) := (Arv.new A5 (by decide)).pad (pad_rep [] (.int (0 : Int32)) 0)
    obtain ⟨_, _, ⟨T6, L6, k6, n6⟩, -, X6, ⟨Lc6, hQ6, l6, y6, z6⟩, st6⟩ := Jvm.LawKit.callS X5 hx (y := (⟨"com/example/epitome/epitome/cube/CubeCells", "product", "([I)J"⟩ : MethodName)) hown (mvT hZ (hw _ (List.mem_of_getElem? (i := 7) rfl))) (mvT hZ (hw _ (List.mem_of_getElem? (i := 8) rfl))) (mvT hZ (hw _ (List.mem_of_getElem? (i := 9) rfl))) (mvT hZ (hw _ (List.mem_of_getElem? (i := 10) rfl))) (by decide) (backOf (W := 0) (rm2_0 l Z A0 hw [] ar k5 h5 n0 Zh5 V_ar) hZ (hw _ (List.mem_of_getElem? (i := 10) rfl)) (hw _ (List.mem_of_getElem? (i := 9) rfl)) (by decide) (by decide)) (g := (mkF m 170 #[.val (.int p0), .val (.int p1), .val (.int p2), .val (.int p3), .val (.int p4), .val (.int (0 : Int32)), .val (.int as), .val (.int bs), .val (.int cs), .val (.int ds), .val (.ref ar), .val (.long (1 : Int64)), .second] [(.ref ar)])) rfl (by rw [hml]; rfl) (argsL := [(.ref ar)]) (rest := []) (lenOf pd_1 rfl) rfl (by show 2 * 0 + _ ≤ _; exact Nat.le_of_eq rfl) (hb hby at_170) (fun _ _ => ⟨rfl, e5, (by decide : 1 + 0 ≤ _), (by decide : 0 + 0 ≤ _)⟩)
    dsimp only [Pt.U, Pt.locs, Pt.cells, Pt.slots] at X6 l6 y6 z6 st6 hQ6
    subst l6 y6 z6
    obtain ⟨rfl, N6q, eh6⟩ := hQ6
    have N6 := Fr.app N4 N6q
    obtain ⟨fs, hr, hrun, hended, hW, hsame⟩ := X6.leave (v := some (.int (1 : Int32))) (fun h => by rw [Bd.returns] at h; cases h)
    refine ⟨_, _, pre0 _ ?_, hrun, hended, _, _, rfl, ?_, ⟨_, rfl⟩, hW, hsame.mono (by decide) (by decide)⟩
    · show Steps p.tables e below (s₁.setTop (mkF m 0 #[.val (.int p0), .val (.int p1), .val (.int p2), .val (.int p3), .val (.int p4), .unset, .unset, .unset, .unset, .unset, .unset, .unset, .unset] [])) _
      refine XS.iloadN X0.here hx rfl (hb hby at_0) rfl ?_
      show Steps p.tables e below (s₁.setTop (mkF m 1 #[.val (.int p0), .val (.int p1), .val (.int p2), .val (.int p3), .val (.int p4), .unset, .unset, .unset, .unset, .unset, .unset, .unset, .unset] [(.int p0)])) _
      refine X0.ldcInt hx hown (mvT hZ (hw _ (List.mem_of_getElem? (i := 0) rfl))) (g := (mkF m 1 #[.val (.int p0), .val (.int p1), .val (.int p2), .val (.int p3), .val (.int p4), .unset, .unset, .unset, .unset, .unset, .unset, .unset, .unset] [(.int p0)])) rfl (hb hby at_1) _ ?_
      show Steps p.tables e below (s₁.setTop (mkF m 3 #[.val (.int p0), .val (.int p1), .val (.int p2), .val (.int p3), .val (.int p4), .unset, .unset, .unset, .unset, .unset, .unset, .unset, .unset] [(.int (2147483647 : Int32)), (.int p0)])) _
      refine XS.iand X0.here hx rfl (hb hby at_3) rfl ?_
      show Steps p.tables e below (s₁.setTop (mkF m 4 #[.val (.int p0), .val (.int p1), .val (.int p2), .val (.int p3), .val (.int p4), .unset, .unset, .unset, .unset, .unset, .unset, .unset, .unset] [(.int (p0 &&& (2147483647 : Int32)))])) _
      refine XS.iconst X0.here hx rfl (hb hby at_4) ?_
      show Steps p.tables e below (s₁.setTop (mkF m 5 #[.val (.int p0), .val (.int p1), .val (.int p2), .val (.int p3), .val (.int p4), .unset, .unset, .unset, .unset, .unset, .unset, .unset, .unset] [(.int (5 : Int32)), (.int (p0 &&& (2147483647 : Int32)))])) _
      refine iremM X0 hx rfl (hb hby at_5) rfl (by decide) ?_
      show Steps p.tables e below (s₁.setTop (mkF m 6 #[.val (.int p0), .val (.int p1), .val (.int p2), .val (.int p3), .val (.int p4), .unset, .unset, .unset, .unset, .unset, .unset, .unset, .unset] [(.int ((p0 &&& (2147483647 : Int32)) % (5 : Int32)))])) _
      rw [← h_nn]
      show Steps p.tables e below (s₁.setTop (mkF m 6 #[.val (.int p0), .val (.int p1), .val (.int p2), .val (.int p3), .val (.int p4), .unset, .unset, .unset, .unset, .unset, .unset, .unset, .unset] [(.int (0 : Int32))])) _
      refine XS.istore X0.here hx rfl (hb hby at_6) rfl (l' := #[.val (.int p0), .val (.int p1), .val (.int p2), .val (.int p3), .val (.int p4), .val (.int (0 : Int32)), .unset, .unset, .unset, .unset, .unset, .unset, .unset]) rfl ?_
      show Steps p.tables e below (s₁.setTop (mkF m 8 #[.val (.int p0), .val (.int p1), .val (.int p2), .val (.int p3), .val (.int p4), .val (.int (0 : Int32)), .unset, .unset, .unset, .unset, .unset, .unset, .unset] [])) _
      refine XS.iloadN X0.here hx rfl (hb hby at_8) rfl ?_
      show Steps p.tables e below (s₁.setTop (mkF m 9 #[.val (.int p0), .val (.int p1), .val (.int p2), .val (.int p3), .val (.int p4), .val (.int (0 : Int32)), .unset, .unset, .unset, .unset, .unset, .unset, .unset] [(.int p1)])) _
      refine st1 _ ?_
      show Steps p.tables e below (T1.setTop (mkF m 12 #[.val (.int p0), .val (.int p1), .val (.int p2), .val (.int p3), .val (.int p4), .val (.int (0 : Int32)), .unset, .unset, .unset, .unset, .unset, .unset, .unset] [(.int ((p1 &&& (2147483647 : Int32)) % (134217729 : Int32)))])) _
      rw [← h_as]
      show Steps p.tables e below (T1.setTop (mkF m 12 #[.val (.int p0), .val (.int p1), .val (.int p2), .val (.int p3), .val (.int p4), .val (.int (0 : Int32)), .unset, .unset, .unset, .unset, .unset, .unset, .unset] [(.int as)])) _
      refine XS.istore X1.here hx rfl (hb hby at_12) rfl (l' := #[.val (.int p0), .val (.int p1), .val (.int p2), .val (.int p3), .val (.int p4), .val (.int (0 : Int32)), .val (.int as), .unset, .unset, .unset, .unset, .unset, .unset]) rfl ?_
      show Steps p.tables e below (T1.setTop (mkF m 14 #[.val (.int p0), .val (.int p1), .val (.int p2), .val (.int p3), .val (.int p4), .val (.int (0 : Int32)), .val (.int as), .unset, .unset, .unset, .unset, .unset, .unset] [])) _
      refine XS.iloadN X1.here hx rfl (hb hby at_14) rfl ?_
      show Steps p.tables e below (T1.setTop (mkF m 15 #[.val (.int p0), .val (.int p1), .val (.int p2), .val (.int p3), .val (.int p4), .val (.int (0 : Int32)), .val (.int as), .unset, .unset, .unset, .unset, .unset, .unset] [(.int p2)])) _
      refine st2 _ ?_
      show Steps p.tables e below (T2.setTop (mkF m 18 #[.val (.int p0), .val (.int p1), .val (.int p2), .val (.int p3), .val (.int p4), .val (.int (0 : Int32)), .val (.int as), .unset, .unset, .unset, .unset, .unset, .unset] [(.int ((p2 &&& (2147483647 : Int32)) % (134217729 : Int32)))])) _
      rw [← h_bs]
      show Steps p.tables e below (T2.setTop (mkF m 18 #[.val (.int p0), .val (.int p1), .val (.int p2), .val (.int p3), .val (.int p4), .val (.int (0 : Int32)), .val (.int as), .unset, .unset, .unset, .unset, .unset, .unset] [(.int bs)])) _
      refine XS.istore X2.here hx rfl (hb hby at_18) rfl (l' := #[.val (.int p0), .val (.int p1), .val (.int p2), .val (.int p3), .val (.int p4), .val (.int (0 : Int32)), .val (.int as), .val (.int bs), .unset, .unset, .unset, .unset, .unset]) rfl ?_
      show Steps p.tables e below (T2.setTop (mkF m 20 #[.val (.int p0), .val (.int p1), .val (.int p2), .val (.int p3), .val (.int p4), .val (.int (0 : Int32)), .val (.int as), .val (.int bs), .unset, .unset, .unset, .unset, .unset] [])) _
      refine XS.iloadN X2.here hx rfl (hb hby at_20) rfl ?_
      show Steps p.tables e below (T2.setTop (mkF m 21 #[.val (.int p0), .val (.int p1), .val (.int p2), .val (.int p3), .val (.int p4), .val (.int (0 : Int32)), .val (.int as), .val (.int bs), .unset, .unset, .unset, .unset, .unset] [(.int p3)])) _
      refine st3 _ ?_
      show Steps p.tables e below (T3.setTop (mkF m 24 #[.val (.int p0), .val (.int p1), .val (.int p2), .val (.int p3), .val (.int p4), .val (.int (0 : Int32)), .val (.int as), .val (.int bs), .unset, .unset, .unset, .unset, .unset] [(.int ((p3 &&& (2147483647 : Int32)) % (134217729 : Int32)))])) _
      rw [← h_cs]
      show Steps p.tables e below (T3.setTop (mkF m 24 #[.val (.int p0), .val (.int p1), .val (.int p2), .val (.int p3), .val (.int p4), .val (.int (0 : Int32)), .val (.int as), .val (.int bs), .unset, .unset, .unset, .unset, .unset] [(.int cs)])) _
      refine XS.istore X3.here hx rfl (hb hby at_24) rfl (l' := #[.val (.int p0), .val (.int p1), .val (.int p2), .val (.int p3), .val (.int p4), .val (.int (0 : Int32)), .val (.int as), .val (.int bs), .val (.int cs), .unset, .unset, .unset, .unset]) rfl ?_
      show Steps p.tables e below (T3.setTop (mkF m 26 #[.val (.int p0), .val (.int p1), .val (.int p2), .val (.int p3), .val (.int p4), .val (.int (0 : Int32)), .val (.int as), .val (.int bs), .val (.int cs), .unset, .unset, .unset, .unset] [])) _
      refine XS.iload X3.here hx rfl (hb hby at_26) rfl ?_
      show Steps p.tables e below (T3.setTop (mkF m 28 #[.val (.int p0), .val (.int p1), .val (.int p2), .val (.int p3), .val (.int p4), .val (.int (0 : Int32)), .val (.int as), .val (.int bs), .val (.int cs), .unset, .unset, .unset, .unset] [(.int p4)])) _
      refine st4 _ ?_
      show Steps p.tables e below (T4.setTop (mkF m 31 #[.val (.int p0), .val (.int p1), .val (.int p2), .val (.int p3), .val (.int p4), .val (.int (0 : Int32)), .val (.int as), .val (.int bs), .val (.int cs), .unset, .unset, .unset, .unset] [(.int ((p4 &&& (2147483647 : Int32)) % (134217729 : Int32)))])) _
      rw [← h_ds]
      show Steps p.tables e below (T4.setTop (mkF m 31 #[.val (.int p0), .val (.int p1), .val (.int p2), .val (.int p3), .val (.int p4), .val (.int (0 : Int32)), .val (.int as), .val (.int bs), .val (.int cs), .unset, .unset, .unset, .unset] [(.int ds)])) _
      refine XS.istore X4.here hx rfl (hb hby at_31) rfl (l' := #[.val (.int p0), .val (.int p1), .val (.int p2), .val (.int p3), .val (.int p4), .val (.int (0 : Int32)), .val (.int as), .val (.int bs), .val (.int cs), .val (.int ds), .unset, .unset, .unset]) rfl ?_
      show Steps p.tables e below (T4.setTop (mkF m 33 #[.val (.int p0), .val (.int p1), .val (.int p2), .val (.int p3), .val (.int p4), .val (.int (0 : Int32)), .val (.int as), .val (.int bs), .val (.int cs), .val (.int ds), .unset, .unset, .unset] [])) _
      refine XS.iload X4.here hx rfl (hb hby at_33) rfl ?_
      show Steps p.tables e below (T4.setTop (mkF m 35 #[.val (.int p0), .val (.int p1), .val (.int p2), .val (.int p3), .val (.int p4), .val (.int (0 : Int32)), .val (.int as), .val (.int bs), .val (.int cs), .val (.int ds), .unset, .unset, .unset] [(.int (0 : Int32))])) _
      refine st5 _ ?_
      show Steps p.tables e below (T5.setTop (mkF m 37 #[.val (.int p0), .val (.int p1), .val (.int p2), .val (.int p3), .val (.int p4), .val (.int (0 : Int32)), .val (.int as), .val (.int bs), .val (.int cs), .val (.int ds), .unset, .unset, .unset] [(.ref ar)])) _
      refine XS.astore X5.here hx rfl (hb hby at_37) rfl rfl (l' := #[.val (.int p0), .val (.int p1), .val (.int p2), .val (.int p3), .val (.int p4), .val (.int (0 : Int32)), .val (.int as), .val (.int bs), .val (.int cs), .val (.int ds), .val (.ref ar), .unset, .unset]) rfl ?_
      show Steps p.tables e below (T5.setTop (mkF m 39 #[.val (.int p0), .val (.int p1), .val (.int p2), .val (.int p3), .val (.int p4), .val (.int (0 : Int32)), .val (.int as), .val (.int bs), .val (.int cs), .val (.int ds), .val (.ref ar), .unset, .unset] [])) _
      refine XS.iload X5.here hx rfl (hb hby at_39) rfl ?_
      show Steps p.tables e below (T5.setTop (mkF m 41 #[.val (.int p0), .val (.int p1), .val (.int p2), .val (.int p3), .val (.int p4), .val (.int (0 : Int32)), .val (.int as), .val (.int bs), .val (.int cs), .val (.int ds), .val (.ref ar), .unset, .unset] [(.int (0 : Int32))])) _
      refine XS.ifYes X5.here hx rfl (pc0 := 41) (pc' := 50) rfl (hb hby at_41) rfl ((if0 _ _).trans (flt (by decide : ¬ ((0 : Int32) < (0 : Int32)))).2.2.2) (by decide) (by decide) ?_
      show Steps p.tables e below (T5.setTop (mkF m 50 #[.val (.int p0), .val (.int p1), .val (.int p2), .val (.int p3), .val (.int p4), .val (.int (0 : Int32)), .val (.int as), .val (.int bs), .val (.int cs), .val (.int ds), .val (.ref ar), .unset, .unset] [])) _
      refine XS.iload X5.here hx rfl (hb hby at_50) rfl ?_
      show Steps p.tables e below (T5.setTop (mkF m 52 #[.val (.int p0), .val (.int p1), .val (.int p2), .val (.int p3), .val (.int p4), .val (.int (0 : Int32)), .val (.int as), .val (.int bs), .val (.int cs), .val (.int ds), .val (.ref ar), .unset, .unset] [(.int (0 : Int32))])) _
      refine XS.iconst X5.here hx rfl (hb hby at_52) ?_
      show Steps p.tables e below (T5.setTop (mkF m 53 #[.val (.int p0), .val (.int p1), .val (.int p2), .val (.int p3), .val (.int p4), .val (.int (0 : Int32)), .val (.int as), .val (.int bs), .val (.int cs), .val (.int ds), .val (.ref ar), .unset, .unset] [(.int (1 : Int32)), (.int (0 : Int32))])) _
      refine XS.icmpYes X5.here hx rfl (pc0 := 53) (pc' := 62) rfl (hb hby at_53) rfl (flt (by decide : ¬ ((1 : Int32) < (0 : Int32)))).2.2.2 (by decide) (by decide) ?_
      show Steps p.tables e below (T5.setTop (mkF m 62 #[.val (.int p0), .val (.int p1), .val (.int p2), .val (.int p3), .val (.int p4), .val (.int (0 : Int32)), .val (.int as), .val (.int bs), .val (.int cs), .val (.int ds), .val (.ref ar), .unset, .unset] [])) _
      refine XS.iload X5.here hx rfl (hb hby at_62) rfl ?_
      show Steps p.tables e below (T5.setTop (mkF m 64 #[.val (.int p0), .val (.int p1), .val (.int p2), .val (.int p3), .val (.int p4), .val (.int (0 : Int32)), .val (.int as), .val (.int bs), .val (.int cs), .val (.int ds), .val (.ref ar), .unset, .unset] [(.int (0 : Int32))])) _
      refine XS.iconst X5.here hx rfl (hb hby at_64) ?_
      show Steps p.tables e below (T5.setTop (mkF m 65 #[.val (.int p0), .val (.int p1), .val (.int p2), .val (.int p3), .val (.int p4), .val (.int (0 : Int32)), .val (.int as), .val (.int bs), .val (.int cs), .val (.int ds), .val (.ref ar), .unset, .unset] [(.int (2 : Int32)), (.int (0 : Int32))])) _
      refine XS.icmpYes X5.here hx rfl (pc0 := 65) (pc' := 74) rfl (hb hby at_65) rfl (flt (by decide : ¬ ((2 : Int32) < (0 : Int32)))).2.2.2 (by decide) (by decide) ?_
      show Steps p.tables e below (T5.setTop (mkF m 74 #[.val (.int p0), .val (.int p1), .val (.int p2), .val (.int p3), .val (.int p4), .val (.int (0 : Int32)), .val (.int as), .val (.int bs), .val (.int cs), .val (.int ds), .val (.ref ar), .unset, .unset] [])) _
      refine XS.iload X5.here hx rfl (hb hby at_74) rfl ?_
      show Steps p.tables e below (T5.setTop (mkF m 76 #[.val (.int p0), .val (.int p1), .val (.int p2), .val (.int p3), .val (.int p4), .val (.int (0 : Int32)), .val (.int as), .val (.int bs), .val (.int cs), .val (.int ds), .val (.ref ar), .unset, .unset] [(.int (0 : Int32))])) _
      refine XS.iconst X5.here hx rfl (hb hby at_76) ?_
      show Steps p.tables e below (T5.setTop (mkF m 77 #[.val (.int p0), .val (.int p1), .val (.int p2), .val (.int p3), .val (.int p4), .val (.int (0 : Int32)), .val (.int as), .val (.int bs), .val (.int cs), .val (.int ds), .val (.ref ar), .unset, .unset] [(.int (3 : Int32)), (.int (0 : Int32))])) _
      refine XS.icmpYes X5.here hx rfl (pc0 := 77) (pc' := 86) rfl (hb hby at_77) rfl (flt (by decide : ¬ ((3 : Int32) < (0 : Int32)))).2.2.2 (by decide) (by decide) ?_
      show Steps p.tables e below (T5.setTop (mkF m 86 #[.val (.int p0), .val (.int p1), .val (.int p2), .val (.int p3), .val (.int p4), .val (.int (0 : Int32)), .val (.int as), .val (.int bs), .val (.int cs), .val (.int ds), .val (.ref ar), .unset, .unset] [])) _
      refine XS.iload X5.here hx rfl (hb hby at_86) rfl ?_
      show Steps p.tables e below (T5.setTop (mkF m 88 #[.val (.int p0), .val (.int p1), .val (.int p2), .val (.int p3), .val (.int p4), .val (.int (0 : Int32)), .val (.int as), .val (.int bs), .val (.int cs), .val (.int ds), .val (.ref ar), .unset, .unset] [(.int (0 : Int32))])) _
      refine XS.ifNo X5.here hx rfl (hb hby at_88) rfl ((if0 _ _).trans (teq (by decide : (0 : Int32) = (0 : Int32))).2) ?_
      show Steps p.tables e below (T5.setTop (mkF m 91 #[.val (.int p0), .val (.int p1), .val (.int p2), .val (.int p3), .val (.int p4), .val (.int (0 : Int32)), .val (.int as), .val (.int bs), .val (.int cs), .val (.int ds), .val (.ref ar), .unset, .unset] [])) _
      refine XS.lconst X5.here hx rfl (hb hby at_91) ?_
      show Steps p.tables e below (T5.setTop (mkF m 92 #[.val (.int p0), .val (.int p1), .val (.int p2), .val (.int p3), .val (.int p4), .val (.int (0 : Int32)), .val (.int as), .val (.int bs), .val (.int cs), .val (.int ds), .val (.ref ar), .unset, .unset] [(.long (1 : Int64))])) _
      refine XS.lstore X5.here hx rfl (hb hby at_92) rfl (l' := #[.val (.int p0), .val (.int p1), .val (.int p2), .val (.int p3), .val (.int p4), .val (.int (0 : Int32)), .val (.int as), .val (.int bs), .val (.int cs), .val (.int ds), .val (.ref ar), .val (.long (1 : Int64)), .second]) rfl ?_
      show Steps p.tables e below (T5.setTop (mkF m 94 #[.val (.int p0), .val (.int p1), .val (.int p2), .val (.int p3), .val (.int p4), .val (.int (0 : Int32)), .val (.int as), .val (.int bs), .val (.int cs), .val (.int ds), .val (.ref ar), .val (.long (1 : Int64)), .second] [])) _
      refine XS.goto X5.here hx rfl (pc0 := 94) (pc' := 168) rfl (hb hby at_94) (by decide) (by decide) ?_
      show Steps p.tables e below (T5.setTop (mkF m 168 #[.val (.int p0), .val (.int p1), .val (.int p2), .val (.int p3), .val (.int p4), .val (.int (0 : Int32)), .val (.int as), .val (.int bs), .val (.int cs), .val (.int ds), .val (.ref ar), .val (.long (1 : Int64)), .second] [])) _
      refine XS.aload X5.here hx rfl (hb hby at_168) rfl rfl ?_
      show Steps p.tables e below (T5.setTop (mkF m 170 #[.val (.int p0), .val (.int p1), .val (.int p2), .val (.int p3), .val (.int p4), .val (.int (0 : Int32)), .val (.int as), .val (.int bs), .val (.int cs), .val (.int ds), .val (.ref ar), .val (.long (1 : Int64)), .second] [(.ref ar)])) _
      refine st6 _ ?_
      show Steps p.tables e below (T6.setTop (mkF m 173 #[.val (.int p0), .val (.int p1), .val (.int p2), .val (.int p3), .val (.int p4), .val (.int (0 : Int32)), .val (.int as), .val (.int bs), .val (.int cs), .val (.int ds), .val (.ref ar), .val (.long (1 : Int64)), .second] [(.long (1 : Int64))])) _
      refine XS.lload X6.here hx rfl (hb hby at_173) rfl ?_
      show Steps p.tables e below (T6.setTop (mkF m 175 #[.val (.int p0), .val (.int p1), .val (.int p2), .val (.int p3), .val (.int p4), .val (.int (0 : Int32)), .val (.int as), .val (.int bs), .val (.int cs), .val (.int ds), .val (.ref ar), .val (.long (1 : Int64)), .second] [(.long (1 : Int64)), (.long (1 : Int64))])) _
      refine XS.lcmp X6.here hx rfl (hb hby at_175) rfl ?_
      show Steps p.tables e below (T6.setTop (mkF m 176 #[.val (.int p0), .val (.int p1), .val (.int p2), .val (.int p3), .val (.int p4), .val (.int (0 : Int32)), .val (.int as), .val (.int bs), .val (.int cs), .val (.int ds), .val (.ref ar), .val (.long (1 : Int64)), .second] [(.int (lcmpW (1 : Int64) (1 : Int64)))])) _
      refine XS.ifNo X6.here hx rfl (hb hby at_176) rfl ((if0 _ _).trans (teq ((lw_eq _ _).mpr (by first | rfl | simp only [Int64.one_mul] : (1 : Int64) = (1 : Int64)))).2) ?_
      show Steps p.tables e below (T6.setTop (mkF m 179 #[.val (.int p0), .val (.int p1), .val (.int p2), .val (.int p3), .val (.int p4), .val (.int (0 : Int32)), .val (.int as), .val (.int bs), .val (.int cs), .val (.int ds), .val (.ref ar), .val (.long (1 : Int64)), .second] [])) _
      refine XS.iconst X6.here hx rfl (hb hby at_179) ?_
      show Steps p.tables e below (T6.setTop (mkF m 180 #[.val (.int p0), .val (.int p1), .val (.int p2), .val (.int p3), .val (.int p4), .val (.int (0 : Int32)), .val (.int as), .val (.int bs), .val (.int cs), .val (.int ds), .val (.ref ar), .val (.long (1 : Int64)), .second] [(.int (1 : Int32))])) _
      refine XS.goto X6.here hx rfl (pc0 := 180) (pc' := 184) rfl (hb hby at_180) (by decide) (by decide) ?_
      show Steps p.tables e below (T6.setTop (mkF m 184 #[.val (.int p0), .val (.int p1), .val (.int p2), .val (.int p3), .val (.int p4), .val (.int (0 : Int32)), .val (.int as), .val (.int bs), .val (.int cs), .val (.int ds), .val (.ref ar), .val (.long (1 : Int64)), .second] [(.int (1 : Int32))])) _
      exact retN X6 hx (t := .boolean) Bd.returns (by simp) (hb hby at_184) hr
    · show Qrm0 Z p0 p1 p2 p3 p4 h0 n0 _ T6.heap _
      rw [eh6]
      exact ⟨rfl, N6⟩
  · obtain ⟨T7, h7, k7, X7, e7, E7, A7, st7⟩ := newP X4 hx hZ (hw _ (List.mem_of_getElem? (i := 6) rfl)) eh4 (g := (mkF m 35 #[.val (.int p0), .val (.int p1), .val (.int p2), .val (.int p3), .val (.int p4), .val (.int (1 : Int32)), .val (.int as), .val (.int bs), .val (.int cs), .val (.int ds), .unset, .unset, .unset] [(.int (1 : Int32))])) rfl (hb hby at_35) rfl (by decide) (cap := 1) (by decide) (by decide) (by decide) (by decide)
    obtain ⟨ar, g7⟩ : ∃ z, z = h0.size := ⟨_, rfl⟩
    rw [← g7] at A7 st7
    have g_ar : n0 ≤ ar := Nat.le_trans Z0 (Nat.le_of_eq g7.symm)
    have sz_ar : h0.size ≤ ar := Nat.le_trans K0.1 (Nat.le_of_eq g7.symm)
    have Zh7 : n0 ≤ h7.size := Nat.le_trans Z0 E7.1
    have Kh7 : Keep h0 h7 [] := K0.ext E7
    have V_ar : Arv Z h7 ar k7 .int (1 : Int32) [(.int (0 : Int32))] (.int (0 : Int32)) := (Arv.new A7 (by decide)).pad (pad_rep [] (.int (0 : Int32)) 1)
    obtain ⟨cl8, Ar8, qq8, SS8, MM8, HH8, GG8⟩ := id V_ar
    have hin8 := inb_of SS8 (j := (0 : Int32)) ⟨by decide, by decide⟩
    obtain ⟨T8, h8, X8, e8, W8, st8⟩ := stI X7 hx hZ e7 Ar8 (j := (0 : Int32)) hin8 (g := (mkF m 49 #[.val (.int p0), .val (.int p1), .val (.int p2), .val (.int p3), .val (.int p4), .val (.int (1 : Int32)), .val (.int as), .val (.int bs), .val (.int cs), .val (.int ds), .val (.ref ar), .unset, .unset] [(.int as), (.int (0 : Int32)), (.ref ar)])) rfl rfl (hb hby at_49)
    have V_ar : Arv Z h8 ar k7 .int (1 : Int32) [(.int as)] (.int (0 : Int32)) := Arv.set Ar8 qq8 SS8 MM8 HH8 GG8 rfl W8 0 rfl (Nat.le_of_ble_eq_true rfl)
    have Zh8 : n0 ≤ h8.size := Nat.le_trans Zh7 (Keep.of_wr W8).1
    have Kh8 : Keep h0 h8 [] := Kh7.wr W8 (Or.inr sz_ar)
    have N8 := Fr.snoc X8 N4 g_ar
    obtain ⟨_, _, ⟨T9, L9, k9, n9⟩, -, X9, ⟨Lc9, hQ9, l9, y9, z9⟩, st9⟩ := Jvm.LawKit.callS X8 hx (y := (⟨"com/example/epitome/epitome/cube/CubeCells", "product", "([I)J"⟩ : MethodName)) hown (mvT hZ (hw _ (List.mem_of_getElem? (i := 7) rfl))) (mvT hZ (hw _ (List.mem_of_getElem? (i := 8) rfl))) (mvT hZ (hw _ (List.mem_of_getElem? (i := 9) rfl))) (mvT hZ (hw _ (List.mem_of_getElem? (i := 10) rfl))) (by decide) (backOf (W := 0) (rm2_1 l Z A0 hw [] ar k7 as h8 n0 Zh8 V_ar) hZ (hw _ (List.mem_of_getElem? (i := 10) rfl)) (hw _ (List.mem_of_getElem? (i := 9) rfl)) (by decide) (by decide)) (g := (mkF m 170 #[.val (.int p0), .val (.int p1), .val (.int p2), .val (.int p3), .val (.int p4), .val (.int (1 : Int32)), .val (.int as), .val (.int bs), .val (.int cs), .val (.int ds), .val (.ref ar), .val (.long (as.toInt64)), .second] [(.ref ar)])) rfl (by rw [hml]; rfl) (argsL := [(.ref ar)]) (rest := []) (lenOf pd_1 rfl) rfl (by show 2 * 0 + _ ≤ _; exact Nat.le_of_eq rfl) (hb hby at_170) (fun _ _ => ⟨rfl, e8, (by decide : 1 + 0 ≤ _), (by decide : 1 + 0 ≤ _)⟩)
    dsimp only [Pt.U, Pt.locs, Pt.cells, Pt.slots] at X9 l9 y9 z9 st9 hQ9
    subst l9 y9 z9
    obtain ⟨rfl, N9q, eh9⟩ := hQ9
    have N9 := Fr.app N8 N9q
    obtain ⟨fs, hr, hrun, hended, hW, hsame⟩ := X9.leave (v := some (.int (1 : Int32))) (fun h => by rw [Bd.returns] at h; cases h)
    refine ⟨_, _, pre0 _ ?_, hrun, hended, _, _, rfl, ?_, ⟨_, rfl⟩, hW, hsame.mono (by decide) (by decide)⟩
    · show Steps p.tables e below (s₁.setTop (mkF m 0 #[.val (.int p0), .val (.int p1), .val (.int p2), .val (.int p3), .val (.int p4), .unset, .unset, .unset, .unset, .unset, .unset, .unset, .unset] [])) _
      refine XS.iloadN X0.here hx rfl (hb hby at_0) rfl ?_
      show Steps p.tables e below (s₁.setTop (mkF m 1 #[.val (.int p0), .val (.int p1), .val (.int p2), .val (.int p3), .val (.int p4), .unset, .unset, .unset, .unset, .unset, .unset, .unset, .unset] [(.int p0)])) _
      refine X0.ldcInt hx hown (mvT hZ (hw _ (List.mem_of_getElem? (i := 0) rfl))) (g := (mkF m 1 #[.val (.int p0), .val (.int p1), .val (.int p2), .val (.int p3), .val (.int p4), .unset, .unset, .unset, .unset, .unset, .unset, .unset, .unset] [(.int p0)])) rfl (hb hby at_1) _ ?_
      show Steps p.tables e below (s₁.setTop (mkF m 3 #[.val (.int p0), .val (.int p1), .val (.int p2), .val (.int p3), .val (.int p4), .unset, .unset, .unset, .unset, .unset, .unset, .unset, .unset] [(.int (2147483647 : Int32)), (.int p0)])) _
      refine XS.iand X0.here hx rfl (hb hby at_3) rfl ?_
      show Steps p.tables e below (s₁.setTop (mkF m 4 #[.val (.int p0), .val (.int p1), .val (.int p2), .val (.int p3), .val (.int p4), .unset, .unset, .unset, .unset, .unset, .unset, .unset, .unset] [(.int (p0 &&& (2147483647 : Int32)))])) _
      refine XS.iconst X0.here hx rfl (hb hby at_4) ?_
      show Steps p.tables e below (s₁.setTop (mkF m 5 #[.val (.int p0), .val (.int p1), .val (.int p2), .val (.int p3), .val (.int p4), .unset, .unset, .unset, .unset, .unset, .unset, .unset, .unset] [(.int (5 : Int32)), (.int (p0 &&& (2147483647 : Int32)))])) _
      refine iremM X0 hx rfl (hb hby at_5) rfl (by decide) ?_
      show Steps p.tables e below (s₁.setTop (mkF m 6 #[.val (.int p0), .val (.int p1), .val (.int p2), .val (.int p3), .val (.int p4), .unset, .unset, .unset, .unset, .unset, .unset, .unset, .unset] [(.int ((p0 &&& (2147483647 : Int32)) % (5 : Int32)))])) _
      rw [← h_nn]
      show Steps p.tables e below (s₁.setTop (mkF m 6 #[.val (.int p0), .val (.int p1), .val (.int p2), .val (.int p3), .val (.int p4), .unset, .unset, .unset, .unset, .unset, .unset, .unset, .unset] [(.int (1 : Int32))])) _
      refine XS.istore X0.here hx rfl (hb hby at_6) rfl (l' := #[.val (.int p0), .val (.int p1), .val (.int p2), .val (.int p3), .val (.int p4), .val (.int (1 : Int32)), .unset, .unset, .unset, .unset, .unset, .unset, .unset]) rfl ?_
      show Steps p.tables e below (s₁.setTop (mkF m 8 #[.val (.int p0), .val (.int p1), .val (.int p2), .val (.int p3), .val (.int p4), .val (.int (1 : Int32)), .unset, .unset, .unset, .unset, .unset, .unset, .unset] [])) _
      refine XS.iloadN X0.here hx rfl (hb hby at_8) rfl ?_
      show Steps p.tables e below (s₁.setTop (mkF m 9 #[.val (.int p0), .val (.int p1), .val (.int p2), .val (.int p3), .val (.int p4), .val (.int (1 : Int32)), .unset, .unset, .unset, .unset, .unset, .unset, .unset] [(.int p1)])) _
      refine st1 _ ?_
      show Steps p.tables e below (T1.setTop (mkF m 12 #[.val (.int p0), .val (.int p1), .val (.int p2), .val (.int p3), .val (.int p4), .val (.int (1 : Int32)), .unset, .unset, .unset, .unset, .unset, .unset, .unset] [(.int ((p1 &&& (2147483647 : Int32)) % (134217729 : Int32)))])) _
      rw [← h_as]
      show Steps p.tables e below (T1.setTop (mkF m 12 #[.val (.int p0), .val (.int p1), .val (.int p2), .val (.int p3), .val (.int p4), .val (.int (1 : Int32)), .unset, .unset, .unset, .unset, .unset, .unset, .unset] [(.int as)])) _
      refine XS.istore X1.here hx rfl (hb hby at_12) rfl (l' := #[.val (.int p0), .val (.int p1), .val (.int p2), .val (.int p3), .val (.int p4), .val (.int (1 : Int32)), .val (.int as), .unset, .unset, .unset, .unset, .unset, .unset]) rfl ?_
      show Steps p.tables e below (T1.setTop (mkF m 14 #[.val (.int p0), .val (.int p1), .val (.int p2), .val (.int p3), .val (.int p4), .val (.int (1 : Int32)), .val (.int as), .unset, .unset, .unset, .unset, .unset, .unset] [])) _
      refine XS.iloadN X1.here hx rfl (hb hby at_14) rfl ?_
      show Steps p.tables e below (T1.setTop (mkF m 15 #[.val (.int p0), .val (.int p1), .val (.int p2), .val (.int p3), .val (.int p4), .val (.int (1 : Int32)), .val (.int as), .unset, .unset, .unset, .unset, .unset, .unset] [(.int p2)])) _
      refine st2 _ ?_
      show Steps p.tables e below (T2.setTop (mkF m 18 #[.val (.int p0), .val (.int p1), .val (.int p2), .val (.int p3), .val (.int p4), .val (.int (1 : Int32)), .val (.int as), .unset, .unset, .unset, .unset, .unset, .unset] [(.int ((p2 &&& (2147483647 : Int32)) % (134217729 : Int32)))])) _
      rw [← h_bs]
      show Steps p.tables e below (T2.setTop (mkF m 18 #[.val (.int p0), .val (.int p1), .val (.int p2), .val (.int p3), .val (.int p4), .val (.int (1 : Int32)), .val (.int as), .unset, .unset, .unset, .unset, .unset, .unset] [(.int bs)])) _
      refine XS.istore X2.here hx rfl (hb hby at_18) rfl (l' := #[.val (.int p0), .val (.int p1), .val (.int p2), .val (.int p3), .val (.int p4), .val (.int (1 : Int32)), .val (.int as), .val (.int bs), .unset, .unset, .unset, .unset, .unset]) rfl ?_
      show Steps p.tables e below (T2.setTop (mkF m 20 #[.val (.int p0), .val (.int p1), .val (.int p2), .val (.int p3), .val (.int p4), .val (.int (1 : Int32)), .val (.int as), .val (.int bs), .unset, .unset, .unset, .unset, .unset] [])) _
      refine XS.iloadN X2.here hx rfl (hb hby at_20) rfl ?_
      show Steps p.tables e below (T2.setTop (mkF m 21 #[.val (.int p0), .val (.int p1), .val (.int p2), .val (.int p3), .val (.int p4), .val (.int (1 : Int32)), .val (.int as), .val (.int bs), .unset, .unset, .unset, .unset, .unset] [(.int p3)])) _
      refine st3 _ ?_
      show Steps p.tables e below (T3.setTop (mkF m 24 #[.val (.int p0), .val (.int p1), .val (.int p2), .val (.int p3), .val (.int p4), .val (.int (1 : Int32)), .val (.int as), .val (.int bs), .unset, .unset, .unset, .unset, .unset] [(.int ((p3 &&& (2147483647 : Int32)) % (134217729 : Int32)))])) _
      rw [← h_cs]
      show Steps p.tables e below (T3.setTop (mkF m 24 #[.val (.int p0), .val (.int p1), .val (.int p2), .val (.int p3), .val (.int p4), .val (.int (1 : Int32)), .val (.int as), .val (.int bs), .unset, .unset, .unset, .unset, .unset] [(.int cs)])) _
      refine XS.istore X3.here hx rfl (hb hby at_24) rfl (l' := #[.val (.int p0), .val (.int p1), .val (.int p2), .val (.int p3), .val (.int p4), .val (.int (1 : Int32)), .val (.int as), .val (.int bs), .val (.int cs), .unset, .unset, .unset, .unset]) rfl ?_
      show Steps p.tables e below (T3.setTop (mkF m 26 #[.val (.int p0), .val (.int p1), .val (.int p2), .val (.int p3), .val (.int p4), .val (.int (1 : Int32)), .val (.int as), .val (.int bs), .val (.int cs), .unset, .unset, .unset, .unset] [])) _
      refine XS.iload X3.here hx rfl (hb hby at_26) rfl ?_
      show Steps p.tables e below (T3.setTop (mkF m 28 #[.val (.int p0), .val (.int p1), .val (.int p2), .val (.int p3), .val (.int p4), .val (.int (1 : Int32)), .val (.int as), .val (.int bs), .val (.int cs), .unset, .unset, .unset, .unset] [(.int p4)])) _
      refine st4 _ ?_
      show Steps p.tables e below (T4.setTop (mkF m 31 #[.val (.int p0), .val (.int p1), .val (.int p2), .val (.int p3), .val (.int p4), .val (.int (1 : Int32)), .val (.int as), .val (.int bs), .val (.int cs), .unset, .unset, .unset, .unset] [(.int ((p4 &&& (2147483647 : Int32)) % (134217729 : Int32)))])) _
      rw [← h_ds]
      show Steps p.tables e below (T4.setTop (mkF m 31 #[.val (.int p0), .val (.int p1), .val (.int p2), .val (.int p3), .val (.int p4), .val (.int (1 : Int32)), .val (.int as), .val (.int bs), .val (.int cs), .unset, .unset, .unset, .unset] [(.int ds)])) _
      refine XS.istore X4.here hx rfl (hb hby at_31) rfl (l' := #[.val (.int p0), .val (.int p1), .val (.int p2), .val (.int p3), .val (.int p4), .val (.int (1 : Int32)), .val (.int as), .val (.int bs), .val (.int cs), .val (.int ds), .unset, .unset, .unset]) rfl ?_
      show Steps p.tables e below (T4.setTop (mkF m 33 #[.val (.int p0), .val (.int p1), .val (.int p2), .val (.int p3), .val (.int p4), .val (.int (1 : Int32)), .val (.int as), .val (.int bs), .val (.int cs), .val (.int ds), .unset, .unset, .unset] [])) _
      refine XS.iload X4.here hx rfl (hb hby at_33) rfl ?_
      show Steps p.tables e below (T4.setTop (mkF m 35 #[.val (.int p0), .val (.int p1), .val (.int p2), .val (.int p3), .val (.int p4), .val (.int (1 : Int32)), .val (.int as), .val (.int bs), .val (.int cs), .val (.int ds), .unset, .unset, .unset] [(.int (1 : Int32))])) _
      refine st7 _ ?_
      show Steps p.tables e below (T7.setTop (mkF m 37 #[.val (.int p0), .val (.int p1), .val (.int p2), .val (.int p3), .val (.int p4), .val (.int (1 : Int32)), .val (.int as), .val (.int bs), .val (.int cs), .val (.int ds), .unset, .unset, .unset] [(.ref ar)])) _
      refine XS.astore X7.here hx rfl (hb hby at_37) rfl rfl (l' := #[.val (.int p0), .val (.int p1), .val (.int p2), .val (.int p3), .val (.int p4), .val (.int (1 : Int32)), .val (.int as), .val (.int bs), .val (.int cs), .val (.int ds), .val (.ref ar), .unset, .unset]) rfl ?_
      show Steps p.tables e below (T7.setTop (mkF m 39 #[.val (.int p0), .val (.int p1), .val (.int p2), .val (.int p3), .val (.int p4), .val (.int (1 : Int32)), .val (.int as), .val (.int bs), .val (.int cs), .val (.int ds), .val (.ref ar), .unset, .unset] [])) _
      refine XS.iload X7.here hx rfl (hb hby at_39) rfl ?_
      show Steps p.tables e below (T7.setTop (mkF m 41 #[.val (.int p0), .val (.int p1), .val (.int p2), .val (.int p3), .val (.int p4), .val (.int (1 : Int32)), .val (.int as), .val (.int bs), .val (.int cs), .val (.int ds), .val (.ref ar), .unset, .unset] [(.int (1 : Int32))])) _
      refine XS.ifNo X7.here hx rfl (hb hby at_41) rfl ((if0 _ _).trans (tlt (by decide : (0 : Int32) < (1 : Int32))).2.2.2) ?_
      show Steps p.tables e below (T7.setTop (mkF m 44 #[.val (.int p0), .val (.int p1), .val (.int p2), .val (.int p3), .val (.int p4), .val (.int (1 : Int32)), .val (.int as), .val (.int bs), .val (.int cs), .val (.int ds), .val (.ref ar), .unset, .unset] [])) _
      refine XS.aload X7.here hx rfl (hb hby at_44) rfl rfl ?_
      show Steps p.tables e below (T7.setTop (mkF m 46 #[.val (.int p0), .val (.int p1), .val (.int p2), .val (.int p3), .val (.int p4), .val (.int (1 : Int32)), .val (.int as), .val (.int bs), .val (.int cs), .val (.int ds), .val (.ref ar), .unset, .unset] [(.ref ar)])) _
      refine XS.iconst X7.here hx rfl (hb hby at_46) ?_
      show Steps p.tables e below (T7.setTop (mkF m 47 #[.val (.int p0), .val (.int p1), .val (.int p2), .val (.int p3), .val (.int p4), .val (.int (1 : Int32)), .val (.int as), .val (.int bs), .val (.int cs), .val (.int ds), .val (.ref ar), .unset, .unset] [(.int (0 : Int32)), (.ref ar)])) _
      refine XS.iload X7.here hx rfl (hb hby at_47) rfl ?_
      show Steps p.tables e below (T7.setTop (mkF m 49 #[.val (.int p0), .val (.int p1), .val (.int p2), .val (.int p3), .val (.int p4), .val (.int (1 : Int32)), .val (.int as), .val (.int bs), .val (.int cs), .val (.int ds), .val (.ref ar), .unset, .unset] [(.int as), (.int (0 : Int32)), (.ref ar)])) _
      refine st8 _ ?_
      show Steps p.tables e below (T8.setTop (mkF m 50 #[.val (.int p0), .val (.int p1), .val (.int p2), .val (.int p3), .val (.int p4), .val (.int (1 : Int32)), .val (.int as), .val (.int bs), .val (.int cs), .val (.int ds), .val (.ref ar), .unset, .unset] [])) _
      refine XS.iload X8.here hx rfl (hb hby at_50) rfl ?_
      show Steps p.tables e below (T8.setTop (mkF m 52 #[.val (.int p0), .val (.int p1), .val (.int p2), .val (.int p3), .val (.int p4), .val (.int (1 : Int32)), .val (.int as), .val (.int bs), .val (.int cs), .val (.int ds), .val (.ref ar), .unset, .unset] [(.int (1 : Int32))])) _
      refine XS.iconst X8.here hx rfl (hb hby at_52) ?_
      show Steps p.tables e below (T8.setTop (mkF m 53 #[.val (.int p0), .val (.int p1), .val (.int p2), .val (.int p3), .val (.int p4), .val (.int (1 : Int32)), .val (.int as), .val (.int bs), .val (.int cs), .val (.int ds), .val (.ref ar), .unset, .unset] [(.int (1 : Int32)), (.int (1 : Int32))])) _
      refine XS.icmpYes X8.here hx rfl (pc0 := 53) (pc' := 62) rfl (hb hby at_53) rfl (flt (by decide : ¬ ((1 : Int32) < (1 : Int32)))).2.2.2 (by decide) (by decide) ?_
      show Steps p.tables e below (T8.setTop (mkF m 62 #[.val (.int p0), .val (.int p1), .val (.int p2), .val (.int p3), .val (.int p4), .val (.int (1 : Int32)), .val (.int as), .val (.int bs), .val (.int cs), .val (.int ds), .val (.ref ar), .unset, .unset] [])) _
      refine XS.iload X8.here hx rfl (hb hby at_62) rfl ?_
      show Steps p.tables e below (T8.setTop (mkF m 64 #[.val (.int p0), .val (.int p1), .val (.int p2), .val (.int p3), .val (.int p4), .val (.int (1 : Int32)), .val (.int as), .val (.int bs), .val (.int cs), .val (.int ds), .val (.ref ar), .unset, .unset] [(.int (1 : Int32))])) _
      refine XS.iconst X8.here hx rfl (hb hby at_64) ?_
      show Steps p.tables e below (T8.setTop (mkF m 65 #[.val (.int p0), .val (.int p1), .val (.int p2), .val (.int p3), .val (.int p4), .val (.int (1 : Int32)), .val (.int as), .val (.int bs), .val (.int cs), .val (.int ds), .val (.ref ar), .unset, .unset] [(.int (2 : Int32)), (.int (1 : Int32))])) _
      refine XS.icmpYes X8.here hx rfl (pc0 := 65) (pc' := 74) rfl (hb hby at_65) rfl (flt (by decide : ¬ ((2 : Int32) < (1 : Int32)))).2.2.2 (by decide) (by decide) ?_
      show Steps p.tables e below (T8.setTop (mkF m 74 #[.val (.int p0), .val (.int p1), .val (.int p2), .val (.int p3), .val (.int p4), .val (.int (1 : Int32)), .val (.int as), .val (.int bs), .val (.int cs), .val (.int ds), .val (.ref ar), .unset, .unset] [])) _
      refine XS.iload X8.here hx rfl (hb hby at_74) rfl ?_
      show Steps p.tables e below (T8.setTop (mkF m 76 #[.val (.int p0), .val (.int p1), .val (.int p2), .val (.int p3), .val (.int p4), .val (.int (1 : Int32)), .val (.int as), .val (.int bs), .val (.int cs), .val (.int ds), .val (.ref ar), .unset, .unset] [(.int (1 : Int32))])) _
      refine XS.iconst X8.here hx rfl (hb hby at_76) ?_
      show Steps p.tables e below (T8.setTop (mkF m 77 #[.val (.int p0), .val (.int p1), .val (.int p2), .val (.int p3), .val (.int p4), .val (.int (1 : Int32)), .val (.int as), .val (.int bs), .val (.int cs), .val (.int ds), .val (.ref ar), .unset, .unset] [(.int (3 : Int32)), (.int (1 : Int32))])) _
      refine XS.icmpYes X8.here hx rfl (pc0 := 77) (pc' := 86) rfl (hb hby at_77) rfl (flt (by decide : ¬ ((3 : Int32) < (1 : Int32)))).2.2.2 (by decide) (by decide) ?_
      show Steps p.tables e below (T8.setTop (mkF m 86 #[.val (.int p0), .val (.int p1), .val (.int p2), .val (.int p3), .val (.int p4), .val (.int (1 : Int32)), .val (.int as), .val (.int bs), .val (.int cs), .val (.int ds), .val (.ref ar), .unset, .unset] [])) _
      refine XS.iload X8.here hx rfl (hb hby at_86) rfl ?_
      show Steps p.tables e below (T8.setTop (mkF m 88 #[.val (.int p0), .val (.int p1), .val (.int p2), .val (.int p3), .val (.int p4), .val (.int (1 : Int32)), .val (.int as), .val (.int bs), .val (.int cs), .val (.int ds), .val (.ref ar), .unset, .unset] [(.int (1 : Int32))])) _
      refine XS.ifYes X8.here hx rfl (pc0 := 88) (pc' := 97) rfl (hb hby at_88) rfl ((if0 _ _).trans (feq (by decide : ¬ ((1 : Int32) = (0 : Int32)))).2) (by decide) (by decide) ?_
      show Steps p.tables e below (T8.setTop (mkF m 97 #[.val (.int p0), .val (.int p1), .val (.int p2), .val (.int p3), .val (.int p4), .val (.int (1 : Int32)), .val (.int as), .val (.int bs), .val (.int cs), .val (.int ds), .val (.ref ar), .unset, .unset] [])) _
      refine XS.iload X8.here hx rfl (hb hby at_97) rfl ?_
      show Steps p.tables e below (T8.setTop (mkF m 99 #[.val (.int p0), .val (.int p1), .val (.int p2), .val (.int p3), .val (.int p4), .val (.int (1 : Int32)), .val (.int as), .val (.int bs), .val (.int cs), .val (.int ds), .val (.ref ar), .unset, .unset] [(.int (1 : Int32))])) _
      refine XS.iconst X8.here hx rfl (hb hby at_99) ?_
      show Steps p.tables e below (T8.setTop (mkF m 100 #[.val (.int p0), .val (.int p1), .val (.int p2), .val (.int p3), .val (.int p4), .val (.int (1 : Int32)), .val (.int as), .val (.int bs), .val (.int cs), .val (.int ds), .val (.ref ar), .unset, .unset] [(.int (1 : Int32)), (.int (1 : Int32))])) _
      refine XS.icmpNo X8.here hx rfl (hb hby at_100) rfl (teq (by decide : (1 : Int32) = (1 : Int32))).2 ?_
      show Steps p.tables e below (T8.setTop (mkF m 103 #[.val (.int p0), .val (.int p1), .val (.int p2), .val (.int p3), .val (.int p4), .val (.int (1 : Int32)), .val (.int as), .val (.int bs), .val (.int cs), .val (.int ds), .val (.ref ar), .unset, .unset] [])) _
      refine XS.iload X8.here hx rfl (hb hby at_103) rfl ?_
      show Steps p.tables e below (T8.setTop (mkF m 105 #[.val (.int p0), .val (.int p1), .val (.int p2), .val (.int p3), .val (.int p4), .val (.int (1 : Int32)), .val (.int as), .val (.int bs), .val (.int cs), .val (.int ds), .val (.ref ar), .unset, .unset] [(.int as)])) _
      refine XS.i2l X8.here hx rfl (hb hby at_105) rfl ?_
      show Steps p.tables e below (T8.setTop (mkF m 106 #[.val (.int p0), .val (.int p1), .val (.int p2), .val (.int p3), .val (.int p4), .val (.int (1 : Int32)), .val (.int as), .val (.int bs), .val (.int cs), .val (.int ds), .val (.ref ar), .unset, .unset] [(.long (as.toInt64))])) _
      refine XS.lstore X8.here hx rfl (hb hby at_106) rfl (l' := #[.val (.int p0), .val (.int p1), .val (.int p2), .val (.int p3), .val (.int p4), .val (.int (1 : Int32)), .val (.int as), .val (.int bs), .val (.int cs), .val (.int ds), .val (.ref ar), .val (.long (as.toInt64)), .second]) rfl ?_
      show Steps p.tables e below (T8.setTop (mkF m 108 #[.val (.int p0), .val (.int p1), .val (.int p2), .val (.int p3), .val (.int p4), .val (.int (1 : Int32)), .val (.int as), .val (.int bs), .val (.int cs), .val (.int ds), .val (.ref ar), .val (.long (as.toInt64)), .second] [])) _
      refine XS.goto X8.here hx rfl (pc0 := 108) (pc' := 168) rfl (hb hby at_108) (by decide) (by decide) ?_
      show Steps p.tables e below (T8.setTop (mkF m 168 #[.val (.int p0), .val (.int p1), .val (.int p2), .val (.int p3), .val (.int p4), .val (.int (1 : Int32)), .val (.int as), .val (.int bs), .val (.int cs), .val (.int ds), .val (.ref ar), .val (.long (as.toInt64)), .second] [])) _
      refine XS.aload X8.here hx rfl (hb hby at_168) rfl rfl ?_
      show Steps p.tables e below (T8.setTop (mkF m 170 #[.val (.int p0), .val (.int p1), .val (.int p2), .val (.int p3), .val (.int p4), .val (.int (1 : Int32)), .val (.int as), .val (.int bs), .val (.int cs), .val (.int ds), .val (.ref ar), .val (.long (as.toInt64)), .second] [(.ref ar)])) _
      refine st9 _ ?_
      show Steps p.tables e below (T9.setTop (mkF m 173 #[.val (.int p0), .val (.int p1), .val (.int p2), .val (.int p3), .val (.int p4), .val (.int (1 : Int32)), .val (.int as), .val (.int bs), .val (.int cs), .val (.int ds), .val (.ref ar), .val (.long (as.toInt64)), .second] [(.long ((1 : Int64) * (as.toInt64)))])) _
      refine XS.lload X9.here hx rfl (hb hby at_173) rfl ?_
      show Steps p.tables e below (T9.setTop (mkF m 175 #[.val (.int p0), .val (.int p1), .val (.int p2), .val (.int p3), .val (.int p4), .val (.int (1 : Int32)), .val (.int as), .val (.int bs), .val (.int cs), .val (.int ds), .val (.ref ar), .val (.long (as.toInt64)), .second] [(.long (as.toInt64)), (.long ((1 : Int64) * (as.toInt64)))])) _
      refine XS.lcmp X9.here hx rfl (hb hby at_175) rfl ?_
      show Steps p.tables e below (T9.setTop (mkF m 176 #[.val (.int p0), .val (.int p1), .val (.int p2), .val (.int p3), .val (.int p4), .val (.int (1 : Int32)), .val (.int as), .val (.int bs), .val (.int cs), .val (.int ds), .val (.ref ar), .val (.long (as.toInt64)), .second] [(.int (lcmpW ((1 : Int64) * (as.toInt64)) (as.toInt64)))])) _
      refine XS.ifNo X9.here hx rfl (hb hby at_176) rfl ((if0 _ _).trans (teq ((lw_eq _ _).mpr (by first | rfl | simp only [Int64.one_mul] : ((1 : Int64) * (as.toInt64)) = (as.toInt64)))).2) ?_
      show Steps p.tables e below (T9.setTop (mkF m 179 #[.val (.int p0), .val (.int p1), .val (.int p2), .val (.int p3), .val (.int p4), .val (.int (1 : Int32)), .val (.int as), .val (.int bs), .val (.int cs), .val (.int ds), .val (.ref ar), .val (.long (as.toInt64)), .second] [])) _
      refine XS.iconst X9.here hx rfl (hb hby at_179) ?_
      show Steps p.tables e below (T9.setTop (mkF m 180 #[.val (.int p0), .val (.int p1), .val (.int p2), .val (.int p3), .val (.int p4), .val (.int (1 : Int32)), .val (.int as), .val (.int bs), .val (.int cs), .val (.int ds), .val (.ref ar), .val (.long (as.toInt64)), .second] [(.int (1 : Int32))])) _
      refine XS.goto X9.here hx rfl (pc0 := 180) (pc' := 184) rfl (hb hby at_180) (by decide) (by decide) ?_
      show Steps p.tables e below (T9.setTop (mkF m 184 #[.val (.int p0), .val (.int p1), .val (.int p2), .val (.int p3), .val (.int p4), .val (.int (1 : Int32)), .val (.int as), .val (.int bs), .val (.int cs), .val (.int ds), .val (.ref ar), .val (.long (as.toInt64)), .second] [(.int (1 : Int32))])) _
      exact retN X9 hx (t := .boolean) Bd.returns (by simp) (hb hby at_184) hr
    · show Qrm0 Z p0 p1 p2 p3 p4 h0 n0 _ T9.heap _
      rw [eh9]
      exact ⟨rfl, N9⟩
  · obtain ⟨T10, h10, k10, X10, e10, E10, A10, st10⟩ := newP X4 hx hZ (hw _ (List.mem_of_getElem? (i := 6) rfl)) eh4 (g := (mkF m 35 #[.val (.int p0), .val (.int p1), .val (.int p2), .val (.int p3), .val (.int p4), .val (.int (2 : Int32)), .val (.int as), .val (.int bs), .val (.int cs), .val (.int ds), .unset, .unset, .unset] [(.int (2 : Int32))])) rfl (hb hby at_35) rfl (by decide) (cap := 2) (by decide) (by decide) (by decide) (by decide)
    obtain ⟨ar, g10⟩ : ∃ z, z = h0.size := ⟨_, rfl⟩
    rw [← g10] at A10 st10
    have g_ar : n0 ≤ ar := Nat.le_trans Z0 (Nat.le_of_eq g10.symm)
    have sz_ar : h0.size ≤ ar := Nat.le_trans K0.1 (Nat.le_of_eq g10.symm)
    have Zh10 : n0 ≤ h10.size := Nat.le_trans Z0 E10.1
    have Kh10 : Keep h0 h10 [] := K0.ext E10
    have V_ar : Arv Z h10 ar k10 .int (2 : Int32) [(.int (0 : Int32)), (.int (0 : Int32))] (.int (0 : Int32)) := (Arv.new A10 (by decide)).pad (pad_rep [] (.int (0 : Int32)) 2)
    obtain ⟨cl11, Ar11, qq11, SS11, MM11, HH11, GG11⟩ := id V_ar
    have hin11 := inb_of SS11 (j := (0 : Int32)) ⟨by decide, by decide⟩
    obtain ⟨T11, h11, X11, e11, W11, st11⟩ := stI X10 hx hZ e10 Ar11 (j := (0 : Int32)) hin11 (g := (mkF m 49 #[.val (.int p0), .val (.int p1), .val (.int p2), .val (.int p3), .val (.int p4), .val (.int (2 : Int32)), .val (.int as), .val (.int bs), .val (.int cs), .val (.int ds), .val (.ref ar), .unset, .unset] [(.int as), (.int (0 : Int32)), (.ref ar)])) rfl rfl (hb hby at_49)
    have V_ar : Arv Z h11 ar k10 .int (2 : Int32) [(.int as), (.int (0 : Int32))] (.int (0 : Int32)) := Arv.set Ar11 qq11 SS11 MM11 HH11 GG11 rfl W11 0 rfl (Nat.le_of_ble_eq_true rfl)
    have Zh11 : n0 ≤ h11.size := Nat.le_trans Zh10 (Keep.of_wr W11).1
    have Kh11 : Keep h0 h11 [] := Kh10.wr W11 (Or.inr sz_ar)
    have N11 := Fr.snoc X11 N4 g_ar
    obtain ⟨cl12, Ar12, qq12, SS12, MM12, HH12, GG12⟩ := id V_ar
    have hin12 := inb_of SS12 (j := (1 : Int32)) ⟨by decide, by decide⟩
    obtain ⟨T12, h12, X12, e12, W12, st12⟩ := stI X11 hx hZ e11 Ar12 (j := (1 : Int32)) hin12 (g := (mkF m 61 #[.val (.int p0), .val (.int p1), .val (.int p2), .val (.int p3), .val (.int p4), .val (.int (2 : Int32)), .val (.int as), .val (.int bs), .val (.int cs), .val (.int ds), .val (.ref ar), .unset, .unset] [(.int bs), (.int (1 : Int32)), (.ref ar)])) rfl rfl (hb hby at_61)
    have V_ar : Arv Z h12 ar k10 .int (2 : Int32) [(.int as), (.int bs)] (.int (0 : Int32)) := Arv.set Ar12 qq12 SS12 MM12 HH12 GG12 rfl W12 1 rfl (Nat.le_of_ble_eq_true rfl)
    have Zh12 : n0 ≤ h12.size := Nat.le_trans Zh11 (Keep.of_wr W12).1
    have Kh12 : Keep h0 h12 [] := Kh11.wr W12 (Or.inr sz_ar)
    have N12 := Fr.snoc X12 N11 g_ar
    obtain ⟨_, _, ⟨T13, L13, k13, n13⟩, -, X13, ⟨Lc13, hQ13, l13, y13, z13⟩, st13⟩ := Jvm.LawKit.callS X12 hx (y := (⟨"com/example/epitome/epitome/cube/CubeCells", "product", "([I)J"⟩ : MethodName)) hown (mvT hZ (hw _ (List.mem_of_getElem? (i := 7) rfl))) (mvT hZ (hw _ (List.mem_of_getElem? (i := 8) rfl))) (mvT hZ (hw _ (List.mem_of_getElem? (i := 9) rfl))) (mvT hZ (hw _ (List.mem_of_getElem? (i := 10) rfl))) (by decide) (backOf (W := 0) (rm2_2 l Z A0 hw [] ar k10 as bs h12 n0 Zh12 V_ar) hZ (hw _ (List.mem_of_getElem? (i := 10) rfl)) (hw _ (List.mem_of_getElem? (i := 9) rfl)) (by decide) (by decide)) (g := (mkF m 170 #[.val (.int p0), .val (.int p1), .val (.int p2), .val (.int p3), .val (.int p4), .val (.int (2 : Int32)), .val (.int as), .val (.int bs), .val (.int cs), .val (.int ds), .val (.ref ar), .val (.long ((as.toInt64) * (bs.toInt64))), .second] [(.ref ar)])) rfl (by rw [hml]; rfl) (argsL := [(.ref ar)]) (rest := []) (lenOf pd_1 rfl) rfl (by show 2 * 0 + _ ≤ _; exact Nat.le_of_eq rfl) (hb hby at_170) (fun _ _ => ⟨rfl, e12, (by decide : 1 + 0 ≤ _), (by decide : 2 + 0 ≤ _)⟩)
    dsimp only [Pt.U, Pt.locs, Pt.cells, Pt.slots] at X13 l13 y13 z13 st13 hQ13
    subst l13 y13 z13
    obtain ⟨rfl, N13q, eh13⟩ := hQ13
    have N13 := Fr.app N12 N13q
    obtain ⟨fs, hr, hrun, hended, hW, hsame⟩ := X13.leave (v := some (.int (1 : Int32))) (fun h => by rw [Bd.returns] at h; cases h)
    refine ⟨_, _, pre0 _ ?_, hrun, hended, _, _, rfl, ?_, ⟨_, rfl⟩, hW, hsame.mono (by decide) (by decide)⟩
    · show Steps p.tables e below (s₁.setTop (mkF m 0 #[.val (.int p0), .val (.int p1), .val (.int p2), .val (.int p3), .val (.int p4), .unset, .unset, .unset, .unset, .unset, .unset, .unset, .unset] [])) _
      refine XS.iloadN X0.here hx rfl (hb hby at_0) rfl ?_
      show Steps p.tables e below (s₁.setTop (mkF m 1 #[.val (.int p0), .val (.int p1), .val (.int p2), .val (.int p3), .val (.int p4), .unset, .unset, .unset, .unset, .unset, .unset, .unset, .unset] [(.int p0)])) _
      refine X0.ldcInt hx hown (mvT hZ (hw _ (List.mem_of_getElem? (i := 0) rfl))) (g := (mkF m 1 #[.val (.int p0), .val (.int p1), .val (.int p2), .val (.int p3), .val (.int p4), .unset, .unset, .unset, .unset, .unset, .unset, .unset, .unset] [(.int p0)])) rfl (hb hby at_1) _ ?_
      show Steps p.tables e below (s₁.setTop (mkF m 3 #[.val (.int p0), .val (.int p1), .val (.int p2), .val (.int p3), .val (.int p4), .unset, .unset, .unset, .unset, .unset, .unset, .unset, .unset] [(.int (2147483647 : Int32)), (.int p0)])) _
      refine XS.iand X0.here hx rfl (hb hby at_3) rfl ?_
      show Steps p.tables e below (s₁.setTop (mkF m 4 #[.val (.int p0), .val (.int p1), .val (.int p2), .val (.int p3), .val (.int p4), .unset, .unset, .unset, .unset, .unset, .unset, .unset, .unset] [(.int (p0 &&& (2147483647 : Int32)))])) _
      refine XS.iconst X0.here hx rfl (hb hby at_4) ?_
      show Steps p.tables e below (s₁.setTop (mkF m 5 #[.val (.int p0), .val (.int p1), .val (.int p2), .val (.int p3), .val (.int p4), .unset, .unset, .unset, .unset, .unset, .unset, .unset, .unset] [(.int (5 : Int32)), (.int (p0 &&& (2147483647 : Int32)))])) _
      refine iremM X0 hx rfl (hb hby at_5) rfl (by decide) ?_
      show Steps p.tables e below (s₁.setTop (mkF m 6 #[.val (.int p0), .val (.int p1), .val (.int p2), .val (.int p3), .val (.int p4), .unset, .unset, .unset, .unset, .unset, .unset, .unset, .unset] [(.int ((p0 &&& (2147483647 : Int32)) % (5 : Int32)))])) _
      rw [← h_nn]
      show Steps p.tables e below (s₁.setTop (mkF m 6 #[.val (.int p0), .val (.int p1), .val (.int p2), .val (.int p3), .val (.int p4), .unset, .unset, .unset, .unset, .unset, .unset, .unset, .unset] [(.int (2 : Int32))])) _
      refine XS.istore X0.here hx rfl (hb hby at_6) rfl (l' := #[.val (.int p0), .val (.int p1), .val (.int p2), .val (.int p3), .val (.int p4), .val (.int (2 : Int32)), .unset, .unset, .unset, .unset, .unset, .unset, .unset]) rfl ?_
      show Steps p.tables e below (s₁.setTop (mkF m 8 #[.val (.int p0), .val (.int p1), .val (.int p2), .val (.int p3), .val (.int p4), .val (.int (2 : Int32)), .unset, .unset, .unset, .unset, .unset, .unset, .unset] [])) _
      refine XS.iloadN X0.here hx rfl (hb hby at_8) rfl ?_
      show Steps p.tables e below (s₁.setTop (mkF m 9 #[.val (.int p0), .val (.int p1), .val (.int p2), .val (.int p3), .val (.int p4), .val (.int (2 : Int32)), .unset, .unset, .unset, .unset, .unset, .unset, .unset] [(.int p1)])) _
      refine st1 _ ?_
      show Steps p.tables e below (T1.setTop (mkF m 12 #[.val (.int p0), .val (.int p1), .val (.int p2), .val (.int p3), .val (.int p4), .val (.int (2 : Int32)), .unset, .unset, .unset, .unset, .unset, .unset, .unset] [(.int ((p1 &&& (2147483647 : Int32)) % (134217729 : Int32)))])) _
      rw [← h_as]
      show Steps p.tables e below (T1.setTop (mkF m 12 #[.val (.int p0), .val (.int p1), .val (.int p2), .val (.int p3), .val (.int p4), .val (.int (2 : Int32)), .unset, .unset, .unset, .unset, .unset, .unset, .unset] [(.int as)])) _
      refine XS.istore X1.here hx rfl (hb hby at_12) rfl (l' := #[.val (.int p0), .val (.int p1), .val (.int p2), .val (.int p3), .val (.int p4), .val (.int (2 : Int32)), .val (.int as), .unset, .unset, .unset, .unset, .unset, .unset]) rfl ?_
      show Steps p.tables e below (T1.setTop (mkF m 14 #[.val (.int p0), .val (.int p1), .val (.int p2), .val (.int p3), .val (.int p4), .val (.int (2 : Int32)), .val (.int as), .unset, .unset, .unset, .unset, .unset, .unset] [])) _
      refine XS.iloadN X1.here hx rfl (hb hby at_14) rfl ?_
      show Steps p.tables e below (T1.setTop (mkF m 15 #[.val (.int p0), .val (.int p1), .val (.int p2), .val (.int p3), .val (.int p4), .val (.int (2 : Int32)), .val (.int as), .unset, .unset, .unset, .unset, .unset, .unset] [(.int p2)])) _
      refine st2 _ ?_
      show Steps p.tables e below (T2.setTop (mkF m 18 #[.val (.int p0), .val (.int p1), .val (.int p2), .val (.int p3), .val (.int p4), .val (.int (2 : Int32)), .val (.int as), .unset, .unset, .unset, .unset, .unset, .unset] [(.int ((p2 &&& (2147483647 : Int32)) % (134217729 : Int32)))])) _
      rw [← h_bs]
      show Steps p.tables e below (T2.setTop (mkF m 18 #[.val (.int p0), .val (.int p1), .val (.int p2), .val (.int p3), .val (.int p4), .val (.int (2 : Int32)), .val (.int as), .unset, .unset, .unset, .unset, .unset, .unset] [(.int bs)])) _
      refine XS.istore X2.here hx rfl (hb hby at_18) rfl (l' := #[.val (.int p0), .val (.int p1), .val (.int p2), .val (.int p3), .val (.int p4), .val (.int (2 : Int32)), .val (.int as), .val (.int bs), .unset, .unset, .unset, .unset, .unset]) rfl ?_
      show Steps p.tables e below (T2.setTop (mkF m 20 #[.val (.int p0), .val (.int p1), .val (.int p2), .val (.int p3), .val (.int p4), .val (.int (2 : Int32)), .val (.int as), .val (.int bs), .unset, .unset, .unset, .unset, .unset] [])) _
      refine XS.iloadN X2.here hx rfl (hb hby at_20) rfl ?_
      show Steps p.tables e below (T2.setTop (mkF m 21 #[.val (.int p0), .val (.int p1), .val (.int p2), .val (.int p3), .val (.int p4), .val (.int (2 : Int32)), .val (.int as), .val (.int bs), .unset, .unset, .unset, .unset, .unset] [(.int p3)])) _
      refine st3 _ ?_
      show Steps p.tables e below (T3.setTop (mkF m 24 #[.val (.int p0), .val (.int p1), .val (.int p2), .val (.int p3), .val (.int p4), .val (.int (2 : Int32)), .val (.int as), .val (.int bs), .unset, .unset, .unset, .unset, .unset] [(.int ((p3 &&& (2147483647 : Int32)) % (134217729 : Int32)))])) _
      rw [← h_cs]
      show Steps p.tables e below (T3.setTop (mkF m 24 #[.val (.int p0), .val (.int p1), .val (.int p2), .val (.int p3), .val (.int p4), .val (.int (2 : Int32)), .val (.int as), .val (.int bs), .unset, .unset, .unset, .unset, .unset] [(.int cs)])) _
      refine XS.istore X3.here hx rfl (hb hby at_24) rfl (l' := #[.val (.int p0), .val (.int p1), .val (.int p2), .val (.int p3), .val (.int p4), .val (.int (2 : Int32)), .val (.int as), .val (.int bs), .val (.int cs), .unset, .unset, .unset, .unset]) rfl ?_
      show Steps p.tables e below (T3.setTop (mkF m 26 #[.val (.int p0), .val (.int p1), .val (.int p2), .val (.int p3), .val (.int p4), .val (.int (2 : Int32)), .val (.int as), .val (.int bs), .val (.int cs), .unset, .unset, .unset, .unset] [])) _
      refine XS.iload X3.here hx rfl (hb hby at_26) rfl ?_
      show Steps p.tables e below (T3.setTop (mkF m 28 #[.val (.int p0), .val (.int p1), .val (.int p2), .val (.int p3), .val (.int p4), .val (.int (2 : Int32)), .val (.int as), .val (.int bs), .val (.int cs), .unset, .unset, .unset, .unset] [(.int p4)])) _
      refine st4 _ ?_
      show Steps p.tables e below (T4.setTop (mkF m 31 #[.val (.int p0), .val (.int p1), .val (.int p2), .val (.int p3), .val (.int p4), .val (.int (2 : Int32)), .val (.int as), .val (.int bs), .val (.int cs), .unset, .unset, .unset, .unset] [(.int ((p4 &&& (2147483647 : Int32)) % (134217729 : Int32)))])) _
      rw [← h_ds]
      show Steps p.tables e below (T4.setTop (mkF m 31 #[.val (.int p0), .val (.int p1), .val (.int p2), .val (.int p3), .val (.int p4), .val (.int (2 : Int32)), .val (.int as), .val (.int bs), .val (.int cs), .unset, .unset, .unset, .unset] [(.int ds)])) _
      refine XS.istore X4.here hx rfl (hb hby at_31) rfl (l' := #[.val (.int p0), .val (.int p1), .val (.int p2), .val (.int p3), .val (.int p4), .val (.int (2 : Int32)), .val (.int as), .val (.int bs), .val (.int cs), .val (.int ds), .unset, .unset, .unset]) rfl ?_
      show Steps p.tables e below (T4.setTop (mkF m 33 #[.val (.int p0), .val (.int p1), .val (.int p2), .val (.int p3), .val (.int p4), .val (.int (2 : Int32)), .val (.int as), .val (.int bs), .val (.int cs), .val (.int ds), .unset, .unset, .unset] [])) _
      refine XS.iload X4.here hx rfl (hb hby at_33) rfl ?_
      show Steps p.tables e below (T4.setTop (mkF m 35 #[.val (.int p0), .val (.int p1), .val (.int p2), .val (.int p3), .val (.int p4), .val (.int (2 : Int32)), .val (.int as), .val (.int bs), .val (.int cs), .val (.int ds), .unset, .unset, .unset] [(.int (2 : Int32))])) _
      refine st10 _ ?_
      show Steps p.tables e below (T10.setTop (mkF m 37 #[.val (.int p0), .val (.int p1), .val (.int p2), .val (.int p3), .val (.int p4), .val (.int (2 : Int32)), .val (.int as), .val (.int bs), .val (.int cs), .val (.int ds), .unset, .unset, .unset] [(.ref ar)])) _
      refine XS.astore X10.here hx rfl (hb hby at_37) rfl rfl (l' := #[.val (.int p0), .val (.int p1), .val (.int p2), .val (.int p3), .val (.int p4), .val (.int (2 : Int32)), .val (.int as), .val (.int bs), .val (.int cs), .val (.int ds), .val (.ref ar), .unset, .unset]) rfl ?_
      show Steps p.tables e below (T10.setTop (mkF m 39 #[.val (.int p0), .val (.int p1), .val (.int p2), .val (.int p3), .val (.int p4), .val (.int (2 : Int32)), .val (.int as), .val (.int bs), .val (.int cs), .val (.int ds), .val (.ref ar), .unset, .unset] [])) _
      refine XS.iload X10.here hx rfl (hb hby at_39) rfl ?_
      show Steps p.tables e below (T10.setTop (mkF m 41 #[.val (.int p0), .val (.int p1), .val (.int p2), .val (.int p3), .val (.int p4), .val (.int (2 : Int32)), .val (.int as), .val (.int bs), .val (.int cs), .val (.int ds), .val (.ref ar), .unset, .unset] [(.int (2 : Int32))])) _
      refine XS.ifNo X10.here hx rfl (hb hby at_41) rfl ((if0 _ _).trans (tlt (by decide : (0 : Int32) < (2 : Int32))).2.2.2) ?_
      show Steps p.tables e below (T10.setTop (mkF m 44 #[.val (.int p0), .val (.int p1), .val (.int p2), .val (.int p3), .val (.int p4), .val (.int (2 : Int32)), .val (.int as), .val (.int bs), .val (.int cs), .val (.int ds), .val (.ref ar), .unset, .unset] [])) _
      refine XS.aload X10.here hx rfl (hb hby at_44) rfl rfl ?_
      show Steps p.tables e below (T10.setTop (mkF m 46 #[.val (.int p0), .val (.int p1), .val (.int p2), .val (.int p3), .val (.int p4), .val (.int (2 : Int32)), .val (.int as), .val (.int bs), .val (.int cs), .val (.int ds), .val (.ref ar), .unset, .unset] [(.ref ar)])) _
      refine XS.iconst X10.here hx rfl (hb hby at_46) ?_
      show Steps p.tables e below (T10.setTop (mkF m 47 #[.val (.int p0), .val (.int p1), .val (.int p2), .val (.int p3), .val (.int p4), .val (.int (2 : Int32)), .val (.int as), .val (.int bs), .val (.int cs), .val (.int ds), .val (.ref ar), .unset, .unset] [(.int (0 : Int32)), (.ref ar)])) _
      refine XS.iload X10.here hx rfl (hb hby at_47) rfl ?_
      show Steps p.tables e below (T10.setTop (mkF m 49 #[.val (.int p0), .val (.int p1), .val (.int p2), .val (.int p3), .val (.int p4), .val (.int (2 : Int32)), .val (.int as), .val (.int bs), .val (.int cs), .val (.int ds), .val (.ref ar), .unset, .unset] [(.int as), (.int (0 : Int32)), (.ref ar)])) _
      refine st11 _ ?_
      show Steps p.tables e below (T11.setTop (mkF m 50 #[.val (.int p0), .val (.int p1), .val (.int p2), .val (.int p3), .val (.int p4), .val (.int (2 : Int32)), .val (.int as), .val (.int bs), .val (.int cs), .val (.int ds), .val (.ref ar), .unset, .unset] [])) _
      refine XS.iload X11.here hx rfl (hb hby at_50) rfl ?_
      show Steps p.tables e below (T11.setTop (mkF m 52 #[.val (.int p0), .val (.int p1), .val (.int p2), .val (.int p3), .val (.int p4), .val (.int (2 : Int32)), .val (.int as), .val (.int bs), .val (.int cs), .val (.int ds), .val (.ref ar), .unset, .unset] [(.int (2 : Int32))])) _
      refine XS.iconst X11.here hx rfl (hb hby at_52) ?_
      show Steps p.tables e below (T11.setTop (mkF m 53 #[.val (.int p0), .val (.int p1), .val (.int p2), .val (.int p3), .val (.int p4), .val (.int (2 : Int32)), .val (.int as), .val (.int bs), .val (.int cs), .val (.int ds), .val (.ref ar), .unset, .unset] [(.int (1 : Int32)), (.int (2 : Int32))])) _
      refine XS.icmpNo X11.here hx rfl (hb hby at_53) rfl (tlt (by decide : (1 : Int32) < (2 : Int32))).2.2.2 ?_
      show Steps p.tables e below (T11.setTop (mkF m 56 #[.val (.int p0), .val (.int p1), .val (.int p2), .val (.int p3), .val (.int p4), .val (.int (2 : Int32)), .val (.int as), .val (.int bs), .val (.int cs), .val (.int ds), .val (.ref ar), .unset, .unset] [])) _
      refine XS.aload X11.here hx rfl (hb hby at_56) rfl rfl ?_
      show Steps p.tables e below (T11.setTop (mkF m 58 #[.val (.int p0), .val (.int p1), .val (.int p2), .val (.int p3), .val (.int p4), .val (.int (2 : Int32)), .val (.int as), .val (.int bs), .val (.int cs), .val (.int ds), .val (.ref ar), .unset, .unset] [(.ref ar)])) _
      refine XS.iconst X11.here hx rfl (hb hby at_58) ?_
      show Steps p.tables e below (T11.setTop (mkF m 59 #[.val (.int p0), .val (.int p1), .val (.int p2), .val (.int p3), .val (.int p4), .val (.int (2 : Int32)), .val (.int as), .val (.int bs), .val (.int cs), .val (.int ds), .val (.ref ar), .unset, .unset] [(.int (1 : Int32)), (.ref ar)])) _
      refine XS.iload X11.here hx rfl (hb hby at_59) rfl ?_
      show Steps p.tables e below (T11.setTop (mkF m 61 #[.val (.int p0), .val (.int p1), .val (.int p2), .val (.int p3), .val (.int p4), .val (.int (2 : Int32)), .val (.int as), .val (.int bs), .val (.int cs), .val (.int ds), .val (.ref ar), .unset, .unset] [(.int bs), (.int (1 : Int32)), (.ref ar)])) _
      refine st12 _ ?_
      show Steps p.tables e below (T12.setTop (mkF m 62 #[.val (.int p0), .val (.int p1), .val (.int p2), .val (.int p3), .val (.int p4), .val (.int (2 : Int32)), .val (.int as), .val (.int bs), .val (.int cs), .val (.int ds), .val (.ref ar), .unset, .unset] [])) _
      refine XS.iload X12.here hx rfl (hb hby at_62) rfl ?_
      show Steps p.tables e below (T12.setTop (mkF m 64 #[.val (.int p0), .val (.int p1), .val (.int p2), .val (.int p3), .val (.int p4), .val (.int (2 : Int32)), .val (.int as), .val (.int bs), .val (.int cs), .val (.int ds), .val (.ref ar), .unset, .unset] [(.int (2 : Int32))])) _
      refine XS.iconst X12.here hx rfl (hb hby at_64) ?_
      show Steps p.tables e below (T12.setTop (mkF m 65 #[.val (.int p0), .val (.int p1), .val (.int p2), .val (.int p3), .val (.int p4), .val (.int (2 : Int32)), .val (.int as), .val (.int bs), .val (.int cs), .val (.int ds), .val (.ref ar), .unset, .unset] [(.int (2 : Int32)), (.int (2 : Int32))])) _
      refine XS.icmpYes X12.here hx rfl (pc0 := 65) (pc' := 74) rfl (hb hby at_65) rfl (flt (by decide : ¬ ((2 : Int32) < (2 : Int32)))).2.2.2 (by decide) (by decide) ?_
      show Steps p.tables e below (T12.setTop (mkF m 74 #[.val (.int p0), .val (.int p1), .val (.int p2), .val (.int p3), .val (.int p4), .val (.int (2 : Int32)), .val (.int as), .val (.int bs), .val (.int cs), .val (.int ds), .val (.ref ar), .unset, .unset] [])) _
      refine XS.iload X12.here hx rfl (hb hby at_74) rfl ?_
      show Steps p.tables e below (T12.setTop (mkF m 76 #[.val (.int p0), .val (.int p1), .val (.int p2), .val (.int p3), .val (.int p4), .val (.int (2 : Int32)), .val (.int as), .val (.int bs), .val (.int cs), .val (.int ds), .val (.ref ar), .unset, .unset] [(.int (2 : Int32))])) _
      refine XS.iconst X12.here hx rfl (hb hby at_76) ?_
      show Steps p.tables e below (T12.setTop (mkF m 77 #[.val (.int p0), .val (.int p1), .val (.int p2), .val (.int p3), .val (.int p4), .val (.int (2 : Int32)), .val (.int as), .val (.int bs), .val (.int cs), .val (.int ds), .val (.ref ar), .unset, .unset] [(.int (3 : Int32)), (.int (2 : Int32))])) _
      refine XS.icmpYes X12.here hx rfl (pc0 := 77) (pc' := 86) rfl (hb hby at_77) rfl (flt (by decide : ¬ ((3 : Int32) < (2 : Int32)))).2.2.2 (by decide) (by decide) ?_
      show Steps p.tables e below (T12.setTop (mkF m 86 #[.val (.int p0), .val (.int p1), .val (.int p2), .val (.int p3), .val (.int p4), .val (.int (2 : Int32)), .val (.int as), .val (.int bs), .val (.int cs), .val (.int ds), .val (.ref ar), .unset, .unset] [])) _
      refine XS.iload X12.here hx rfl (hb hby at_86) rfl ?_
      show Steps p.tables e below (T12.setTop (mkF m 88 #[.val (.int p0), .val (.int p1), .val (.int p2), .val (.int p3), .val (.int p4), .val (.int (2 : Int32)), .val (.int as), .val (.int bs), .val (.int cs), .val (.int ds), .val (.ref ar), .unset, .unset] [(.int (2 : Int32))])) _
      refine XS.ifYes X12.here hx rfl (pc0 := 88) (pc' := 97) rfl (hb hby at_88) rfl ((if0 _ _).trans (feq (by decide : ¬ ((2 : Int32) = (0 : Int32)))).2) (by decide) (by decide) ?_
      show Steps p.tables e below (T12.setTop (mkF m 97 #[.val (.int p0), .val (.int p1), .val (.int p2), .val (.int p3), .val (.int p4), .val (.int (2 : Int32)), .val (.int as), .val (.int bs), .val (.int cs), .val (.int ds), .val (.ref ar), .unset, .unset] [])) _
      refine XS.iload X12.here hx rfl (hb hby at_97) rfl ?_
      show Steps p.tables e below (T12.setTop (mkF m 99 #[.val (.int p0), .val (.int p1), .val (.int p2), .val (.int p3), .val (.int p4), .val (.int (2 : Int32)), .val (.int as), .val (.int bs), .val (.int cs), .val (.int ds), .val (.ref ar), .unset, .unset] [(.int (2 : Int32))])) _
      refine XS.iconst X12.here hx rfl (hb hby at_99) ?_
      show Steps p.tables e below (T12.setTop (mkF m 100 #[.val (.int p0), .val (.int p1), .val (.int p2), .val (.int p3), .val (.int p4), .val (.int (2 : Int32)), .val (.int as), .val (.int bs), .val (.int cs), .val (.int ds), .val (.ref ar), .unset, .unset] [(.int (1 : Int32)), (.int (2 : Int32))])) _
      refine XS.icmpYes X12.here hx rfl (pc0 := 100) (pc' := 111) rfl (hb hby at_100) rfl (feq (by decide : ¬ ((2 : Int32) = (1 : Int32)))).2 (by decide) (by decide) ?_
      show Steps p.tables e below (T12.setTop (mkF m 111 #[.val (.int p0), .val (.int p1), .val (.int p2), .val (.int p3), .val (.int p4), .val (.int (2 : Int32)), .val (.int as), .val (.int bs), .val (.int cs), .val (.int ds), .val (.ref ar), .unset, .unset] [])) _
      refine XS.iload X12.here hx rfl (hb hby at_111) rfl ?_
      show Steps p.tables e below (T12.setTop (mkF m 113 #[.val (.int p0), .val (.int p1), .val (.int p2), .val (.int p3), .val (.int p4), .val (.int (2 : Int32)), .val (.int as), .val (.int bs), .val (.int cs), .val (.int ds), .val (.ref ar), .unset, .unset] [(.int (2 : Int32))])) _
      refine XS.iconst X12.here hx rfl (hb hby at_113) ?_
      show Steps p.tables e below (T12.setTop (mkF m 114 #[.val (.int p0), .val (.int p1), .val (.int p2), .val (.int p3), .val (.int p4), .val (.int (2 : Int32)), .val (.int as), .val (.int bs), .val (.int cs), .val (.int ds), .val (.ref ar), .unset, .unset] [(.int (2 : Int32)), (.int (2 : Int32))])) _
      refine XS.icmpNo X12.here hx rfl (hb hby at_114) rfl (teq (by decide : (2 : Int32) = (2 : Int32))).2 ?_
      show Steps p.tables e below (T12.setTop (mkF m 117 #[.val (.int p0), .val (.int p1), .val (.int p2), .val (.int p3), .val (.int p4), .val (.int (2 : Int32)), .val (.int as), .val (.int bs), .val (.int cs), .val (.int ds), .val (.ref ar), .unset, .unset] [])) _
      refine XS.iload X12.here hx rfl (hb hby at_117) rfl ?_
      show Steps p.tables e below (T12.setTop (mkF m 119 #[.val (.int p0), .val (.int p1), .val (.int p2), .val (.int p3), .val (.int p4), .val (.int (2 : Int32)), .val (.int as), .val (.int bs), .val (.int cs), .val (.int ds), .val (.ref ar), .unset, .unset] [(.int as)])) _
      refine XS.i2l X12.here hx rfl (hb hby at_119) rfl ?_
      show Steps p.tables e below (T12.setTop (mkF m 120 #[.val (.int p0), .val (.int p1), .val (.int p2), .val (.int p3), .val (.int p4), .val (.int (2 : Int32)), .val (.int as), .val (.int bs), .val (.int cs), .val (.int ds), .val (.ref ar), .unset, .unset] [(.long (as.toInt64))])) _
      refine XS.iload X12.here hx rfl (hb hby at_120) rfl ?_
      show Steps p.tables e below (T12.setTop (mkF m 122 #[.val (.int p0), .val (.int p1), .val (.int p2), .val (.int p3), .val (.int p4), .val (.int (2 : Int32)), .val (.int as), .val (.int bs), .val (.int cs), .val (.int ds), .val (.ref ar), .unset, .unset] [(.int bs), (.long (as.toInt64))])) _
      refine XS.i2l X12.here hx rfl (hb hby at_122) rfl ?_
      show Steps p.tables e below (T12.setTop (mkF m 123 #[.val (.int p0), .val (.int p1), .val (.int p2), .val (.int p3), .val (.int p4), .val (.int (2 : Int32)), .val (.int as), .val (.int bs), .val (.int cs), .val (.int ds), .val (.ref ar), .unset, .unset] [(.long (bs.toInt64)), (.long (as.toInt64))])) _
      refine XS.lmul X12.here hx rfl (hb hby at_123) rfl ?_
      show Steps p.tables e below (T12.setTop (mkF m 124 #[.val (.int p0), .val (.int p1), .val (.int p2), .val (.int p3), .val (.int p4), .val (.int (2 : Int32)), .val (.int as), .val (.int bs), .val (.int cs), .val (.int ds), .val (.ref ar), .unset, .unset] [(.long ((as.toInt64) * (bs.toInt64)))])) _
      refine XS.lstore X12.here hx rfl (hb hby at_124) rfl (l' := #[.val (.int p0), .val (.int p1), .val (.int p2), .val (.int p3), .val (.int p4), .val (.int (2 : Int32)), .val (.int as), .val (.int bs), .val (.int cs), .val (.int ds), .val (.ref ar), .val (.long ((as.toInt64) * (bs.toInt64))), .second]) rfl ?_
      show Steps p.tables e below (T12.setTop (mkF m 126 #[.val (.int p0), .val (.int p1), .val (.int p2), .val (.int p3), .val (.int p4), .val (.int (2 : Int32)), .val (.int as), .val (.int bs), .val (.int cs), .val (.int ds), .val (.ref ar), .val (.long ((as.toInt64) * (bs.toInt64))), .second] [])) _
      refine XS.goto X12.here hx rfl (pc0 := 126) (pc' := 168) rfl (hb hby at_126) (by decide) (by decide) ?_
      show Steps p.tables e below (T12.setTop (mkF m 168 #[.val (.int p0), .val (.int p1), .val (.int p2), .val (.int p3), .val (.int p4), .val (.int (2 : Int32)), .val (.int as), .val (.int bs), .val (.int cs), .val (.int ds), .val (.ref ar), .val (.long ((as.toInt64) * (bs.toInt64))), .second] [])) _
      refine XS.aload X12.here hx rfl (hb hby at_168) rfl rfl ?_
      show Steps p.tables e below (T12.setTop (mkF m 170 #[.val (.int p0), .val (.int p1), .val (.int p2), .val (.int p3), .val (.int p4), .val (.int (2 : Int32)), .val (.int as), .val (.int bs), .val (.int cs), .val (.int ds), .val (.ref ar), .val (.long ((as.toInt64) * (bs.toInt64))), .second] [(.ref ar)])) _
      refine st13 _ ?_
      show Steps p.tables e below (T13.setTop (mkF m 173 #[.val (.int p0), .val (.int p1), .val (.int p2), .val (.int p3), .val (.int p4), .val (.int (2 : Int32)), .val (.int as), .val (.int bs), .val (.int cs), .val (.int ds), .val (.ref ar), .val (.long ((as.toInt64) * (bs.toInt64))), .second] [(.long (((1 : Int64) * (as.toInt64)) * (bs.toInt64)))])) _
      refine XS.lload X13.here hx rfl (hb hby at_173) rfl ?_
      show Steps p.tables e below (T13.setTop (mkF m 175 #[.val (.int p0), .val (.int p1), .val (.int p2), .val (.int p3), .val (.int p4), .val (.int (2 : Int32)), .val (.int as), .val (.int bs), .val (.int cs), .val (.int ds), .val (.ref ar), .val (.long ((as.toInt64) * (bs.toInt64))), .second] [(.long ((as.toInt64) * (bs.toInt64))), (.long (((1 : Int64) * (as.toInt64)) * (bs.toInt64)))])) _
      refine XS.lcmp X13.here hx rfl (hb hby at_175) rfl ?_
      show Steps p.tables e below (T13.setTop (mkF m 176 #[.val (.int p0), .val (.int p1), .val (.int p2), .val (.int p3), .val (.int p4), .val (.int (2 : Int32)), .val (.int as), .val (.int bs), .val (.int cs), .val (.int ds), .val (.ref ar), .val (.long ((as.toInt64) * (bs.toInt64))), .second] [(.int (lcmpW (((1 : Int64) * (as.toInt64)) * (bs.toInt64)) ((as.toInt64) * (bs.toInt64))))])) _
      refine XS.ifNo X13.here hx rfl (hb hby at_176) rfl ((if0 _ _).trans (teq ((lw_eq _ _).mpr (by first | rfl | simp only [Int64.one_mul] : (((1 : Int64) * (as.toInt64)) * (bs.toInt64)) = ((as.toInt64) * (bs.toInt64))))).2) ?_
      show Steps p.tables e below (T13.setTop (mkF m 179 #[.val (.int p0), .val (.int p1), .val (.int p2), .val (.int p3), .val (.int p4), .val (.int (2 : Int32)), .val (.int as), .val (.int bs), .val (.int cs), .val (.int ds), .val (.ref ar), .val (.long ((as.toInt64) * (bs.toInt64))), .second] [])) _
      refine XS.iconst X13.here hx rfl (hb hby at_179) ?_
      show Steps p.tables e below (T13.setTop (mkF m 180 #[.val (.int p0), .val (.int p1), .val (.int p2), .val (.int p3), .val (.int p4), .val (.int (2 : Int32)), .val (.int as), .val (.int bs), .val (.int cs), .val (.int ds), .val (.ref ar), .val (.long ((as.toInt64) * (bs.toInt64))), .second] [(.int (1 : Int32))])) _
      refine XS.goto X13.here hx rfl (pc0 := 180) (pc' := 184) rfl (hb hby at_180) (by decide) (by decide) ?_
      show Steps p.tables e below (T13.setTop (mkF m 184 #[.val (.int p0), .val (.int p1), .val (.int p2), .val (.int p3), .val (.int p4), .val (.int (2 : Int32)), .val (.int as), .val (.int bs), .val (.int cs), .val (.int ds), .val (.ref ar), .val (.long ((as.toInt64) * (bs.toInt64))), .second] [(.int (1 : Int32))])) _
      exact retN X13 hx (t := .boolean) Bd.returns (by simp) (hb hby at_184) hr
    · show Qrm0 Z p0 p1 p2 p3 p4 h0 n0 _ T13.heap _
      rw [eh13]
      exact ⟨rfl, N13⟩
  · obtain ⟨T14, h14, k14, X14, e14, E14, A14, st14⟩ := newP X4 hx hZ (hw _ (List.mem_of_getElem? (i := 6) rfl)) eh4 (g := (mkF m 35 #[.val (.int p0), .val (.int p1), .val (.int p2), .val (.int p3), .val (.int p4), .val (.int (3 : Int32)), .val (.int as), .val (.int bs), .val (.int cs), .val (.int ds), .unset, .unset, .unset] [(.int (3 : Int32))])) rfl (hb hby at_35) rfl (by decide) (cap := 3) (by decide) (by decide) (by decide) (by decide)
    obtain ⟨ar, g14⟩ : ∃ z, z = h0.size := ⟨_, rfl⟩
    rw [← g14] at A14 st14
    have g_ar : n0 ≤ ar := Nat.le_trans Z0 (Nat.le_of_eq g14.symm)
    have sz_ar : h0.size ≤ ar := Nat.le_trans K0.1 (Nat.le_of_eq g14.symm)
    have Zh14 : n0 ≤ h14.size := Nat.le_trans Z0 E14.1
    have Kh14 : Keep h0 h14 [] := K0.ext E14
    have V_ar : Arv Z h14 ar k14 .int (3 : Int32) [(.int (0 : Int32)), (.int (0 : Int32)), (.int (0 : Int32))] (.int (0 : Int32)) := (Arv.new A14 (by decide)).pad (pad_rep [] (.int (0 : Int32)) 3)
    obtain ⟨cl15, Ar15, qq15, SS15, MM15, HH15, GG15⟩ := id V_ar
    have hin15 := inb_of SS15 (j := (0 : Int32)) ⟨by decide, by decide⟩
    obtain ⟨T15, h15, X15, e15, W15, st15⟩ := stI X14 hx hZ e14 Ar15 (j := (0 : Int32)) hin15 (g := (mkF m 49 #[.val (.int p0), .val (.int p1), .val (.int p2), .val (.int p3), .val (.int p4), .val (.int (3 : Int32)), .val (.int as), .val (.int bs), .val (.int cs), .val (.int ds), .val (.ref ar), .unset, .unset] [(.int as), (.int (0 : Int32)), (.ref ar)])) rfl rfl (hb hby at_49)
    have V_ar : Arv Z h15 ar k14 .int (3 : Int32) [(.int as), (.int (0 : Int32)), (.int (0 : Int32))] (.int (0 : Int32)) := Arv.set Ar15 qq15 SS15 MM15 HH15 GG15 rfl W15 0 rfl (Nat.le_of_ble_eq_true rfl)
    have Zh15 : n0 ≤ h15.size := Nat.le_trans Zh14 (Keep.of_wr W15).1
    have Kh15 : Keep h0 h15 [] := Kh14.wr W15 (Or.inr sz_ar)
    have N15 := Fr.snoc X15 N4 g_ar
    obtain ⟨cl16, Ar16, qq16, SS16, MM16, HH16, GG16⟩ := id V_ar
    have hin16 := inb_of SS16 (j := (1 : Int32)) ⟨by decide, by decide⟩
    obtain ⟨T16, h16, X16, e16, W16, st16⟩ := stI X15 hx hZ e15 Ar16 (j := (1 : Int32)) hin16 (g := (mkF m 61 #[.val (.int p0), .val (.int p1), .val (.int p2), .val (.int p3), .val (.int p4), .val (.int (3 : Int32)), .val (.int as), .val (.int bs), .val (.int cs), .val (.int ds), .val (.ref ar), .unset, .unset] [(.int bs), (.int (1 : Int32)), (.ref ar)])) rfl rfl (hb hby at_61)
    have V_ar : Arv Z h16 ar k14 .int (3 : Int32) [(.int as), (.int bs), (.int (0 : Int32))] (.int (0 : Int32)) := Arv.set Ar16 qq16 SS16 MM16 HH16 GG16 rfl W16 1 rfl (Nat.le_of_ble_eq_true rfl)
    have Zh16 : n0 ≤ h16.size := Nat.le_trans Zh15 (Keep.of_wr W16).1
    have Kh16 : Keep h0 h16 [] := Kh15.wr W16 (Or.inr sz_ar)
    have N16 := Fr.snoc X16 N15 g_ar
    obtain ⟨cl17, Ar17, qq17, SS17, MM17, HH17, GG17⟩ := id V_ar
    have hin17 := inb_of SS17 (j := (2 : Int32)) ⟨by decide, by decide⟩
    obtain ⟨T17, h17, X17, e17, W17, st17⟩ := stI X16 hx hZ e16 Ar17 (j := (2 : Int32)) hin17 (g := (mkF m 73 #[.val (.int p0), .val (.int p1), .val (.int p2), .val (.int p3), .val (.int p4), .val (.int (3 : Int32)), .val (.int as), .val (.int bs), .val (.int cs), .val (.int ds), .val (.ref ar), .unset, .unset] [(.int cs), (.int (2 : Int32)), (.ref ar)])) rfl rfl (hb hby at_73)
    have V_ar : Arv Z h17 ar k14 .int (3 : Int32) [(.int as), (.int bs), (.int cs)] (.int (0 : Int32)) := Arv.set Ar17 qq17 SS17 MM17 HH17 GG17 rfl W17 2 rfl (Nat.le_of_ble_eq_true rfl)
    have Zh17 : n0 ≤ h17.size := Nat.le_trans Zh16 (Keep.of_wr W17).1
    have Kh17 : Keep h0 h17 [] := Kh16.wr W17 (Or.inr sz_ar)
    have N17 := Fr.snoc X17 N16 g_ar
    obtain ⟨_, _, ⟨T18, L18, k18, n18⟩, -, X18, ⟨Lc18, hQ18, l18, y18, z18⟩, st18⟩ := Jvm.LawKit.callS X17 hx (y := (⟨"com/example/epitome/epitome/cube/CubeCells", "product", "([I)J"⟩ : MethodName)) hown (mvT hZ (hw _ (List.mem_of_getElem? (i := 7) rfl))) (mvT hZ (hw _ (List.mem_of_getElem? (i := 8) rfl))) (mvT hZ (hw _ (List.mem_of_getElem? (i := 9) rfl))) (mvT hZ (hw _ (List.mem_of_getElem? (i := 10) rfl))) (by decide) (backOf (W := 0) (rm2_3 l Z A0 hw [] ar k14 as bs cs h17 n0 Zh17 V_ar) hZ (hw _ (List.mem_of_getElem? (i := 10) rfl)) (hw _ (List.mem_of_getElem? (i := 9) rfl)) (by decide) (by decide)) (g := (mkF m 170 #[.val (.int p0), .val (.int p1), .val (.int p2), .val (.int p3), .val (.int p4), .val (.int (3 : Int32)), .val (.int as), .val (.int bs), .val (.int cs), .val (.int ds), .val (.ref ar), .val (.long (((as.toInt64) * (bs.toInt64)) * (cs.toInt64))), .second] [(.ref ar)])) rfl (by rw [hml]; rfl) (argsL := [(.ref ar)]) (rest := []) (lenOf pd_1 rfl) rfl (by show 2 * 0 + _ ≤ _; exact Nat.le_of_eq rfl) (hb hby at_170) (fun _ _ => ⟨rfl, e17, (by decide : 1 + 0 ≤ _), (by decide : 3 + 0 ≤ _)⟩)
    dsimp only [Pt.U, Pt.locs, Pt.cells, Pt.slots] at X18 l18 y18 z18 st18 hQ18
    subst l18 y18 z18
    obtain ⟨rfl, N18q, eh18⟩ := hQ18
    have N18 := Fr.app N17 N18q
    obtain ⟨fs, hr, hrun, hended, hW, hsame⟩ := X18.leave (v := some (.int (1 : Int32))) (fun h => by rw [Bd.returns] at h; cases h)
    refine ⟨_, _, pre0 _ ?_, hrun, hended, _, _, rfl, ?_, ⟨_, rfl⟩, hW, hsame.mono (by decide) (by decide)⟩
    · show Steps p.tables e below (s₁.setTop (mkF m 0 #[.val (.int p0), .val (.int p1), .val (.int p2), .val (.int p3), .val (.int p4), .unset, .unset, .unset, .unset, .unset, .unset, .unset, .unset] [])) _
      refine XS.iloadN X0.here hx rfl (hb hby at_0) rfl ?_
      show Steps p.tables e below (s₁.setTop (mkF m 1 #[.val (.int p0), .val (.int p1), .val (.int p2), .val (.int p3), .val (.int p4), .unset, .unset, .unset, .unset, .unset, .unset, .unset, .unset] [(.int p0)])) _
      refine X0.ldcInt hx hown (mvT hZ (hw _ (List.mem_of_getElem? (i := 0) rfl))) (g := (mkF m 1 #[.val (.int p0), .val (.int p1), .val (.int p2), .val (.int p3), .val (.int p4), .unset, .unset, .unset, .unset, .unset, .unset, .unset, .unset] [(.int p0)])) rfl (hb hby at_1) _ ?_
      show Steps p.tables e below (s₁.setTop (mkF m 3 #[.val (.int p0), .val (.int p1), .val (.int p2), .val (.int p3), .val (.int p4), .unset, .unset, .unset, .unset, .unset, .unset, .unset, .unset] [(.int (2147483647 : Int32)), (.int p0)])) _
      refine XS.iand X0.here hx rfl (hb hby at_3) rfl ?_
      show Steps p.tables e below (s₁.setTop (mkF m 4 #[.val (.int p0), .val (.int p1), .val (.int p2), .val (.int p3), .val (.int p4), .unset, .unset, .unset, .unset, .unset, .unset, .unset, .unset] [(.int (p0 &&& (2147483647 : Int32)))])) _
      refine XS.iconst X0.here hx rfl (hb hby at_4) ?_
      show Steps p.tables e below (s₁.setTop (mkF m 5 #[.val (.int p0), .val (.int p1), .val (.int p2), .val (.int p3), .val (.int p4), .unset, .unset, .unset, .unset, .unset, .unset, .unset, .unset] [(.int (5 : Int32)), (.int (p0 &&& (2147483647 : Int32)))])) _
      refine iremM X0 hx rfl (hb hby at_5) rfl (by decide) ?_
      show Steps p.tables e below (s₁.setTop (mkF m 6 #[.val (.int p0), .val (.int p1), .val (.int p2), .val (.int p3), .val (.int p4), .unset, .unset, .unset, .unset, .unset, .unset, .unset, .unset] [(.int ((p0 &&& (2147483647 : Int32)) % (5 : Int32)))])) _
      rw [← h_nn]
      show Steps p.tables e below (s₁.setTop (mkF m 6 #[.val (.int p0), .val (.int p1), .val (.int p2), .val (.int p3), .val (.int p4), .unset, .unset, .unset, .unset, .unset, .unset, .unset, .unset] [(.int (3 : Int32))])) _
      refine XS.istore X0.here hx rfl (hb hby at_6) rfl (l' := #[.val (.int p0), .val (.int p1), .val (.int p2), .val (.int p3), .val (.int p4), .val (.int (3 : Int32)), .unset, .unset, .unset, .unset, .unset, .unset, .unset]) rfl ?_
      show Steps p.tables e below (s₁.setTop (mkF m 8 #[.val (.int p0), .val (.int p1), .val (.int p2), .val (.int p3), .val (.int p4), .val (.int (3 : Int32)), .unset, .unset, .unset, .unset, .unset, .unset, .unset] [])) _
      refine XS.iloadN X0.here hx rfl (hb hby at_8) rfl ?_
      show Steps p.tables e below (s₁.setTop (mkF m 9 #[.val (.int p0), .val (.int p1), .val (.int p2), .val (.int p3), .val (.int p4), .val (.int (3 : Int32)), .unset, .unset, .unset, .unset, .unset, .unset, .unset] [(.int p1)])) _
      refine st1 _ ?_
      show Steps p.tables e below (T1.setTop (mkF m 12 #[.val (.int p0), .val (.int p1), .val (.int p2), .val (.int p3), .val (.int p4), .val (.int (3 : Int32)), .unset, .unset, .unset, .unset, .unset, .unset, .unset] [(.int ((p1 &&& (2147483647 : Int32)) % (134217729 : Int32)))])) _
      rw [← h_as]
      show Steps p.tables e below (T1.setTop (mkF m 12 #[.val (.int p0), .val (.int p1), .val (.int p2), .val (.int p3), .val (.int p4), .val (.int (3 : Int32)), .unset, .unset, .unset, .unset, .unset, .unset, .unset] [(.int as)])) _
      refine XS.istore X1.here hx rfl (hb hby at_12) rfl (l' := #[.val (.int p0), .val (.int p1), .val (.int p2), .val (.int p3), .val (.int p4), .val (.int (3 : Int32)), .val (.int as), .unset, .unset, .unset, .unset, .unset, .unset]) rfl ?_
      show Steps p.tables e below (T1.setTop (mkF m 14 #[.val (.int p0), .val (.int p1), .val (.int p2), .val (.int p3), .val (.int p4), .val (.int (3 : Int32)), .val (.int as), .unset, .unset, .unset, .unset, .unset, .unset] [])) _
      refine XS.iloadN X1.here hx rfl (hb hby at_14) rfl ?_
      show Steps p.tables e below (T1.setTop (mkF m 15 #[.val (.int p0), .val (.int p1), .val (.int p2), .val (.int p3), .val (.int p4), .val (.int (3 : Int32)), .val (.int as), .unset, .unset, .unset, .unset, .unset, .unset] [(.int p2)])) _
      refine st2 _ ?_
      show Steps p.tables e below (T2.setTop (mkF m 18 #[.val (.int p0), .val (.int p1), .val (.int p2), .val (.int p3), .val (.int p4), .val (.int (3 : Int32)), .val (.int as), .unset, .unset, .unset, .unset, .unset, .unset] [(.int ((p2 &&& (2147483647 : Int32)) % (134217729 : Int32)))])) _
      rw [← h_bs]
      show Steps p.tables e below (T2.setTop (mkF m 18 #[.val (.int p0), .val (.int p1), .val (.int p2), .val (.int p3), .val (.int p4), .val (.int (3 : Int32)), .val (.int as), .unset, .unset, .unset, .unset, .unset, .unset] [(.int bs)])) _
      refine XS.istore X2.here hx rfl (hb hby at_18) rfl (l' := #[.val (.int p0), .val (.int p1), .val (.int p2), .val (.int p3), .val (.int p4), .val (.int (3 : Int32)), .val (.int as), .val (.int bs), .unset, .unset, .unset, .unset, .unset]) rfl ?_
      show Steps p.tables e below (T2.setTop (mkF m 20 #[.val (.int p0), .val (.int p1), .val (.int p2), .val (.int p3), .val (.int p4), .val (.int (3 : Int32)), .val (.int as), .val (.int bs), .unset, .unset, .unset, .unset, .unset] [])) _
      refine XS.iloadN X2.here hx rfl (hb hby at_20) rfl ?_
      show Steps p.tables e below (T2.setTop (mkF m 21 #[.val (.int p0), .val (.int p1), .val (.int p2), .val (.int p3), .val (.int p4), .val (.int (3 : Int32)), .val (.int as), .val (.int bs), .unset, .unset, .unset, .unset, .unset] [(.int p3)])) _
      refine st3 _ ?_
      show Steps p.tables e below (T3.setTop (mkF m 24 #[.val (.int p0), .val (.int p1), .val (.int p2), .val (.int p3), .val (.int p4), .val (.int (3 : Int32)), .val (.int as), .val (.int bs), .unset, .unset, .unset, .unset, .unset] [(.int ((p3 &&& (2147483647 : Int32)) % (134217729 : Int32)))])) _
      rw [← h_cs]
      show Steps p.tables e below (T3.setTop (mkF m 24 #[.val (.int p0), .val (.int p1), .val (.int p2), .val (.int p3), .val (.int p4), .val (.int (3 : Int32)), .val (.int as), .val (.int bs), .unset, .unset, .unset, .unset, .unset] [(.int cs)])) _
      refine XS.istore X3.here hx rfl (hb hby at_24) rfl (l' := #[.val (.int p0), .val (.int p1), .val (.int p2), .val (.int p3), .val (.int p4), .val (.int (3 : Int32)), .val (.int as), .val (.int bs), .val (.int cs), .unset, .unset, .unset, .unset]) rfl ?_
      show Steps p.tables e below (T3.setTop (mkF m 26 #[.val (.int p0), .val (.int p1), .val (.int p2), .val (.int p3), .val (.int p4), .val (.int (3 : Int32)), .val (.int as), .val (.int bs), .val (.int cs), .unset, .unset, .unset, .unset] [])) _
      refine XS.iload X3.here hx rfl (hb hby at_26) rfl ?_
      show Steps p.tables e below (T3.setTop (mkF m 28 #[.val (.int p0), .val (.int p1), .val (.int p2), .val (.int p3), .val (.int p4), .val (.int (3 : Int32)), .val (.int as), .val (.int bs), .val (.int cs), .unset, .unset, .unset, .unset] [(.int p4)])) _
      refine st4 _ ?_
      show Steps p.tables e below (T4.setTop (mkF m 31 #[.val (.int p0), .val (.int p1), .val (.int p2), .val (.int p3), .val (.int p4), .val (.int (3 : Int32)), .val (.int as), .val (.int bs), .val (.int cs), .unset, .unset, .unset, .unset] [(.int ((p4 &&& (2147483647 : Int32)) % (134217729 : Int32)))])) _
      rw [← h_ds]
      show Steps p.tables e below (T4.setTop (mkF m 31 #[.val (.int p0), .val (.int p1), .val (.int p2), .val (.int p3), .val (.int p4), .val (.int (3 : Int32)), .val (.int as), .val (.int bs), .val (.int cs), .unset, .unset, .unset, .unset] [(.int ds)])) _
      refine XS.istore X4.here hx rfl (hb hby at_31) rfl (l' := #[.val (.int p0), .val (.int p1), .val (.int p2), .val (.int p3), .val (.int p4), .val (.int (3 : Int32)), .val (.int as), .val (.int bs), .val (.int cs), .val (.int ds), .unset, .unset, .unset]) rfl ?_
      show Steps p.tables e below (T4.setTop (mkF m 33 #[.val (.int p0), .val (.int p1), .val (.int p2), .val (.int p3), .val (.int p4), .val (.int (3 : Int32)), .val (.int as), .val (.int bs), .val (.int cs), .val (.int ds), .unset, .unset, .unset] [])) _
      refine XS.iload X4.here hx rfl (hb hby at_33) rfl ?_
      show Steps p.tables e below (T4.setTop (mkF m 35 #[.val (.int p0), .val (.int p1), .val (.int p2), .val (.int p3), .val (.int p4), .val (.int (3 : Int32)), .val (.int as), .val (.int bs), .val (.int cs), .val (.int ds), .unset, .unset, .unset] [(.int (3 : Int32))])) _
      refine st14 _ ?_
      show Steps p.tables e below (T14.setTop (mkF m 37 #[.val (.int p0), .val (.int p1), .val (.int p2), .val (.int p3), .val (.int p4), .val (.int (3 : Int32)), .val (.int as), .val (.int bs), .val (.int cs), .val (.int ds), .unset, .unset, .unset] [(.ref ar)])) _
      refine XS.astore X14.here hx rfl (hb hby at_37) rfl rfl (l' := #[.val (.int p0), .val (.int p1), .val (.int p2), .val (.int p3), .val (.int p4), .val (.int (3 : Int32)), .val (.int as), .val (.int bs), .val (.int cs), .val (.int ds), .val (.ref ar), .unset, .unset]) rfl ?_
      show Steps p.tables e below (T14.setTop (mkF m 39 #[.val (.int p0), .val (.int p1), .val (.int p2), .val (.int p3), .val (.int p4), .val (.int (3 : Int32)), .val (.int as), .val (.int bs), .val (.int cs), .val (.int ds), .val (.ref ar), .unset, .unset] [])) _
      refine XS.iload X14.here hx rfl (hb hby at_39) rfl ?_
      show Steps p.tables e below (T14.setTop (mkF m 41 #[.val (.int p0), .val (.int p1), .val (.int p2), .val (.int p3), .val (.int p4), .val (.int (3 : Int32)), .val (.int as), .val (.int bs), .val (.int cs), .val (.int ds), .val (.ref ar), .unset, .unset] [(.int (3 : Int32))])) _
      refine XS.ifNo X14.here hx rfl (hb hby at_41) rfl ((if0 _ _).trans (tlt (by decide : (0 : Int32) < (3 : Int32))).2.2.2) ?_
      show Steps p.tables e below (T14.setTop (mkF m 44 #[.val (.int p0), .val (.int p1), .val (.int p2), .val (.int p3), .val (.int p4), .val (.int (3 : Int32)), .val (.int as), .val (.int bs), .val (.int cs), .val (.int ds), .val (.ref ar), .unset, .unset] [])) _
      refine XS.aload X14.here hx rfl (hb hby at_44) rfl rfl ?_
      show Steps p.tables e below (T14.setTop (mkF m 46 #[.val (.int p0), .val (.int p1), .val (.int p2), .val (.int p3), .val (.int p4), .val (.int (3 : Int32)), .val (.int as), .val (.int bs), .val (.int cs), .val (.int ds), .val (.ref ar), .unset, .unset] [(.ref ar)])) _
      refine XS.iconst X14.here hx rfl (hb hby at_46) ?_
      show Steps p.tables e below (T14.setTop (mkF m 47 #[.val (.int p0), .val (.int p1), .val (.int p2), .val (.int p3), .val (.int p4), .val (.int (3 : Int32)), .val (.int as), .val (.int bs), .val (.int cs), .val (.int ds), .val (.ref ar), .unset, .unset] [(.int (0 : Int32)), (.ref ar)])) _
      refine XS.iload X14.here hx rfl (hb hby at_47) rfl ?_
      show Steps p.tables e below (T14.setTop (mkF m 49 #[.val (.int p0), .val (.int p1), .val (.int p2), .val (.int p3), .val (.int p4), .val (.int (3 : Int32)), .val (.int as), .val (.int bs), .val (.int cs), .val (.int ds), .val (.ref ar), .unset, .unset] [(.int as), (.int (0 : Int32)), (.ref ar)])) _
      refine st15 _ ?_
      show Steps p.tables e below (T15.setTop (mkF m 50 #[.val (.int p0), .val (.int p1), .val (.int p2), .val (.int p3), .val (.int p4), .val (.int (3 : Int32)), .val (.int as), .val (.int bs), .val (.int cs), .val (.int ds), .val (.ref ar), .unset, .unset] [])) _
      refine XS.iload X15.here hx rfl (hb hby at_50) rfl ?_
      show Steps p.tables e below (T15.setTop (mkF m 52 #[.val (.int p0), .val (.int p1), .val (.int p2), .val (.int p3), .val (.int p4), .val (.int (3 : Int32)), .val (.int as), .val (.int bs), .val (.int cs), .val (.int ds), .val (.ref ar), .unset, .unset] [(.int (3 : Int32))])) _
      refine XS.iconst X15.here hx rfl (hb hby at_52) ?_
      show Steps p.tables e below (T15.setTop (mkF m 53 #[.val (.int p0), .val (.int p1), .val (.int p2), .val (.int p3), .val (.int p4), .val (.int (3 : Int32)), .val (.int as), .val (.int bs), .val (.int cs), .val (.int ds), .val (.ref ar), .unset, .unset] [(.int (1 : Int32)), (.int (3 : Int32))])) _
      refine XS.icmpNo X15.here hx rfl (hb hby at_53) rfl (tlt (by decide : (1 : Int32) < (3 : Int32))).2.2.2 ?_
      show Steps p.tables e below (T15.setTop (mkF m 56 #[.val (.int p0), .val (.int p1), .val (.int p2), .val (.int p3), .val (.int p4), .val (.int (3 : Int32)), .val (.int as), .val (.int bs), .val (.int cs), .val (.int ds), .val (.ref ar), .unset, .unset] [])) _
      refine XS.aload X15.here hx rfl (hb hby at_56) rfl rfl ?_
      show Steps p.tables e below (T15.setTop (mkF m 58 #[.val (.int p0), .val (.int p1), .val (.int p2), .val (.int p3), .val (.int p4), .val (.int (3 : Int32)), .val (.int as), .val (.int bs), .val (.int cs), .val (.int ds), .val (.ref ar), .unset, .unset] [(.ref ar)])) _
      refine XS.iconst X15.here hx rfl (hb hby at_58) ?_
      show Steps p.tables e below (T15.setTop (mkF m 59 #[.val (.int p0), .val (.int p1), .val (.int p2), .val (.int p3), .val (.int p4), .val (.int (3 : Int32)), .val (.int as), .val (.int bs), .val (.int cs), .val (.int ds), .val (.ref ar), .unset, .unset] [(.int (1 : Int32)), (.ref ar)])) _
      refine XS.iload X15.here hx rfl (hb hby at_59) rfl ?_
      show Steps p.tables e below (T15.setTop (mkF m 61 #[.val (.int p0), .val (.int p1), .val (.int p2), .val (.int p3), .val (.int p4), .val (.int (3 : Int32)), .val (.int as), .val (.int bs), .val (.int cs), .val (.int ds), .val (.ref ar), .unset, .unset] [(.int bs), (.int (1 : Int32)), (.ref ar)])) _
      refine st16 _ ?_
      show Steps p.tables e below (T16.setTop (mkF m 62 #[.val (.int p0), .val (.int p1), .val (.int p2), .val (.int p3), .val (.int p4), .val (.int (3 : Int32)), .val (.int as), .val (.int bs), .val (.int cs), .val (.int ds), .val (.ref ar), .unset, .unset] [])) _
      refine XS.iload X16.here hx rfl (hb hby at_62) rfl ?_
      show Steps p.tables e below (T16.setTop (mkF m 64 #[.val (.int p0), .val (.int p1), .val (.int p2), .val (.int p3), .val (.int p4), .val (.int (3 : Int32)), .val (.int as), .val (.int bs), .val (.int cs), .val (.int ds), .val (.ref ar), .unset, .unset] [(.int (3 : Int32))])) _
      refine XS.iconst X16.here hx rfl (hb hby at_64) ?_
      show Steps p.tables e below (T16.setTop (mkF m 65 #[.val (.int p0), .val (.int p1), .val (.int p2), .val (.int p3), .val (.int p4), .val (.int (3 : Int32)), .val (.int as), .val (.int bs), .val (.int cs), .val (.int ds), .val (.ref ar), .unset, .unset] [(.int (2 : Int32)), (.int (3 : Int32))])) _
      refine XS.icmpNo X16.here hx rfl (hb hby at_65) rfl (tlt (by decide : (2 : Int32) < (3 : Int32))).2.2.2 ?_
      show Steps p.tables e below (T16.setTop (mkF m 68 #[.val (.int p0), .val (.int p1), .val (.int p2), .val (.int p3), .val (.int p4), .val (.int (3 : Int32)), .val (.int as), .val (.int bs), .val (.int cs), .val (.int ds), .val (.ref ar), .unset, .unset] [])) _
      refine XS.aload X16.here hx rfl (hb hby at_68) rfl rfl ?_
      show Steps p.tables e below (T16.setTop (mkF m 70 #[.val (.int p0), .val (.int p1), .val (.int p2), .val (.int p3), .val (.int p4), .val (.int (3 : Int32)), .val (.int as), .val (.int bs), .val (.int cs), .val (.int ds), .val (.ref ar), .unset, .unset] [(.ref ar)])) _
      refine XS.iconst X16.here hx rfl (hb hby at_70) ?_
      show Steps p.tables e below (T16.setTop (mkF m 71 #[.val (.int p0), .val (.int p1), .val (.int p2), .val (.int p3), .val (.int p4), .val (.int (3 : Int32)), .val (.int as), .val (.int bs), .val (.int cs), .val (.int ds), .val (.ref ar), .unset, .unset] [(.int (2 : Int32)), (.ref ar)])) _
      refine XS.iload X16.here hx rfl (hb hby at_71) rfl ?_
      show Steps p.tables e below (T16.setTop (mkF m 73 #[.val (.int p0), .val (.int p1), .val (.int p2), .val (.int p3), .val (.int p4), .val (.int (3 : Int32)), .val (.int as), .val (.int bs), .val (.int cs), .val (.int ds), .val (.ref ar), .unset, .unset] [(.int cs), (.int (2 : Int32)), (.ref ar)])) _
      refine st17 _ ?_
      show Steps p.tables e below (T17.setTop (mkF m 74 #[.val (.int p0), .val (.int p1), .val (.int p2), .val (.int p3), .val (.int p4), .val (.int (3 : Int32)), .val (.int as), .val (.int bs), .val (.int cs), .val (.int ds), .val (.ref ar), .unset, .unset] [])) _
      refine XS.iload X17.here hx rfl (hb hby at_74) rfl ?_
      show Steps p.tables e below (T17.setTop (mkF m 76 #[.val (.int p0), .val (.int p1), .val (.int p2), .val (.int p3), .val (.int p4), .val (.int (3 : Int32)), .val (.int as), .val (.int bs), .val (.int cs), .val (.int ds), .val (.ref ar), .unset, .unset] [(.int (3 : Int32))])) _
      refine XS.iconst X17.here hx rfl (hb hby at_76) ?_
      show Steps p.tables e below (T17.setTop (mkF m 77 #[.val (.int p0), .val (.int p1), .val (.int p2), .val (.int p3), .val (.int p4), .val (.int (3 : Int32)), .val (.int as), .val (.int bs), .val (.int cs), .val (.int ds), .val (.ref ar), .unset, .unset] [(.int (3 : Int32)), (.int (3 : Int32))])) _
      refine XS.icmpYes X17.here hx rfl (pc0 := 77) (pc' := 86) rfl (hb hby at_77) rfl (flt (by decide : ¬ ((3 : Int32) < (3 : Int32)))).2.2.2 (by decide) (by decide) ?_
      show Steps p.tables e below (T17.setTop (mkF m 86 #[.val (.int p0), .val (.int p1), .val (.int p2), .val (.int p3), .val (.int p4), .val (.int (3 : Int32)), .val (.int as), .val (.int bs), .val (.int cs), .val (.int ds), .val (.ref ar), .unset, .unset] [])) _
      refine XS.iload X17.here hx rfl (hb hby at_86) rfl ?_
      show Steps p.tables e below (T17.setTop (mkF m 88 #[.val (.int p0), .val (.int p1), .val (.int p2), .val (.int p3), .val (.int p4), .val (.int (3 : Int32)), .val (.int as), .val (.int bs), .val (.int cs), .val (.int ds), .val (.ref ar), .unset, .unset] [(.int (3 : Int32))])) _
      refine XS.ifYes X17.here hx rfl (pc0 := 88) (pc' := 97) rfl (hb hby at_88) rfl ((if0 _ _).trans (feq (by decide : ¬ ((3 : Int32) = (0 : Int32)))).2) (by decide) (by decide) ?_
      show Steps p.tables e below (T17.setTop (mkF m 97 #[.val (.int p0), .val (.int p1), .val (.int p2), .val (.int p3), .val (.int p4), .val (.int (3 : Int32)), .val (.int as), .val (.int bs), .val (.int cs), .val (.int ds), .val (.ref ar), .unset, .unset] [])) _
      refine XS.iload X17.here hx rfl (hb hby at_97) rfl ?_
      show Steps p.tables e below (T17.setTop (mkF m 99 #[.val (.int p0), .val (.int p1), .val (.int p2), .val (.int p3), .val (.int p4), .val (.int (3 : Int32)), .val (.int as), .val (.int bs), .val (.int cs), .val (.int ds), .val (.ref ar), .unset, .unset] [(.int (3 : Int32))])) _
      refine XS.iconst X17.here hx rfl (hb hby at_99) ?_
      show Steps p.tables e below (T17.setTop (mkF m 100 #[.val (.int p0), .val (.int p1), .val (.int p2), .val (.int p3), .val (.int p4), .val (.int (3 : Int32)), .val (.int as), .val (.int bs), .val (.int cs), .val (.int ds), .val (.ref ar), .unset, .unset] [(.int (1 : Int32)), (.int (3 : Int32))])) _
      refine XS.icmpYes X17.here hx rfl (pc0 := 100) (pc' := 111) rfl (hb hby at_100) rfl (feq (by decide : ¬ ((3 : Int32) = (1 : Int32)))).2 (by decide) (by decide) ?_
      show Steps p.tables e below (T17.setTop (mkF m 111 #[.val (.int p0), .val (.int p1), .val (.int p2), .val (.int p3), .val (.int p4), .val (.int (3 : Int32)), .val (.int as), .val (.int bs), .val (.int cs), .val (.int ds), .val (.ref ar), .unset, .unset] [])) _
      refine XS.iload X17.here hx rfl (hb hby at_111) rfl ?_
      show Steps p.tables e below (T17.setTop (mkF m 113 #[.val (.int p0), .val (.int p1), .val (.int p2), .val (.int p3), .val (.int p4), .val (.int (3 : Int32)), .val (.int as), .val (.int bs), .val (.int cs), .val (.int ds), .val (.ref ar), .unset, .unset] [(.int (3 : Int32))])) _
      refine XS.iconst X17.here hx rfl (hb hby at_113) ?_
      show Steps p.tables e below (T17.setTop (mkF m 114 #[.val (.int p0), .val (.int p1), .val (.int p2), .val (.int p3), .val (.int p4), .val (.int (3 : Int32)), .val (.int as), .val (.int bs), .val (.int cs), .val (.int ds), .val (.ref ar), .unset, .unset] [(.int (2 : Int32)), (.int (3 : Int32))])) _
      refine XS.icmpYes X17.here hx rfl (pc0 := 114) (pc' := 129) rfl (hb hby at_114) rfl (feq (by decide : ¬ ((3 : Int32) = (2 : Int32)))).2 (by decide) (by decide) ?_
      show Steps p.tables e below (T17.setTop (mkF m 129 #[.val (.int p0), .val (.int p1), .val (.int p2), .val (.int p3), .val (.int p4), .val (.int (3 : Int32)), .val (.int as), .val (.int bs), .val (.int cs), .val (.int ds), .val (.ref ar), .unset, .unset] [])) _
      refine XS.iload X17.here hx rfl (hb hby at_129) rfl ?_
      show Steps p.tables e below (T17.setTop (mkF m 131 #[.val (.int p0), .val (.int p1), .val (.int p2), .val (.int p3), .val (.int p4), .val (.int (3 : Int32)), .val (.int as), .val (.int bs), .val (.int cs), .val (.int ds), .val (.ref ar), .unset, .unset] [(.int (3 : Int32))])) _
      refine XS.iconst X17.here hx rfl (hb hby at_131) ?_
      show Steps p.tables e below (T17.setTop (mkF m 132 #[.val (.int p0), .val (.int p1), .val (.int p2), .val (.int p3), .val (.int p4), .val (.int (3 : Int32)), .val (.int as), .val (.int bs), .val (.int cs), .val (.int ds), .val (.ref ar), .unset, .unset] [(.int (3 : Int32)), (.int (3 : Int32))])) _
      refine XS.icmpNo X17.here hx rfl (hb hby at_132) rfl (teq (by decide : (3 : Int32) = (3 : Int32))).2 ?_
      show Steps p.tables e below (T17.setTop (mkF m 135 #[.val (.int p0), .val (.int p1), .val (.int p2), .val (.int p3), .val (.int p4), .val (.int (3 : Int32)), .val (.int as), .val (.int bs), .val (.int cs), .val (.int ds), .val (.ref ar), .unset, .unset] [])) _
      refine XS.iload X17.here hx rfl (hb hby at_135) rfl ?_
      show Steps p.tables e below (T17.setTop (mkF m 137 #[.val (.int p0), .val (.int p1), .val (.int p2), .val (.int p3), .val (.int p4), .val (.int (3 : Int32)), .val (.int as), .val (.int bs), .val (.int cs), .val (.int ds), .val (.ref ar), .unset, .unset] [(.int as)])) _
      refine XS.i2l X17.here hx rfl (hb hby at_137) rfl ?_
      show Steps p.tables e below (T17.setTop (mkF m 138 #[.val (.int p0), .val (.int p1), .val (.int p2), .val (.int p3), .val (.int p4), .val (.int (3 : Int32)), .val (.int as), .val (.int bs), .val (.int cs), .val (.int ds), .val (.ref ar), .unset, .unset] [(.long (as.toInt64))])) _
      refine XS.iload X17.here hx rfl (hb hby at_138) rfl ?_
      show Steps p.tables e below (T17.setTop (mkF m 140 #[.val (.int p0), .val (.int p1), .val (.int p2), .val (.int p3), .val (.int p4), .val (.int (3 : Int32)), .val (.int as), .val (.int bs), .val (.int cs), .val (.int ds), .val (.ref ar), .unset, .unset] [(.int bs), (.long (as.toInt64))])) _
      refine XS.i2l X17.here hx rfl (hb hby at_140) rfl ?_
      show Steps p.tables e below (T17.setTop (mkF m 141 #[.val (.int p0), .val (.int p1), .val (.int p2), .val (.int p3), .val (.int p4), .val (.int (3 : Int32)), .val (.int as), .val (.int bs), .val (.int cs), .val (.int ds), .val (.ref ar), .unset, .unset] [(.long (bs.toInt64)), (.long (as.toInt64))])) _
      refine XS.lmul X17.here hx rfl (hb hby at_141) rfl ?_
      show Steps p.tables e below (T17.setTop (mkF m 142 #[.val (.int p0), .val (.int p1), .val (.int p2), .val (.int p3), .val (.int p4), .val (.int (3 : Int32)), .val (.int as), .val (.int bs), .val (.int cs), .val (.int ds), .val (.ref ar), .unset, .unset] [(.long ((as.toInt64) * (bs.toInt64)))])) _
      refine XS.iload X17.here hx rfl (hb hby at_142) rfl ?_
      show Steps p.tables e below (T17.setTop (mkF m 144 #[.val (.int p0), .val (.int p1), .val (.int p2), .val (.int p3), .val (.int p4), .val (.int (3 : Int32)), .val (.int as), .val (.int bs), .val (.int cs), .val (.int ds), .val (.ref ar), .unset, .unset] [(.int cs), (.long ((as.toInt64) * (bs.toInt64)))])) _
      refine XS.i2l X17.here hx rfl (hb hby at_144) rfl ?_
      show Steps p.tables e below (T17.setTop (mkF m 145 #[.val (.int p0), .val (.int p1), .val (.int p2), .val (.int p3), .val (.int p4), .val (.int (3 : Int32)), .val (.int as), .val (.int bs), .val (.int cs), .val (.int ds), .val (.ref ar), .unset, .unset] [(.long (cs.toInt64)), (.long ((as.toInt64) * (bs.toInt64)))])) _
      refine XS.lmul X17.here hx rfl (hb hby at_145) rfl ?_
      show Steps p.tables e below (T17.setTop (mkF m 146 #[.val (.int p0), .val (.int p1), .val (.int p2), .val (.int p3), .val (.int p4), .val (.int (3 : Int32)), .val (.int as), .val (.int bs), .val (.int cs), .val (.int ds), .val (.ref ar), .unset, .unset] [(.long (((as.toInt64) * (bs.toInt64)) * (cs.toInt64)))])) _
      refine XS.lstore X17.here hx rfl (hb hby at_146) rfl (l' := #[.val (.int p0), .val (.int p1), .val (.int p2), .val (.int p3), .val (.int p4), .val (.int (3 : Int32)), .val (.int as), .val (.int bs), .val (.int cs), .val (.int ds), .val (.ref ar), .val (.long (((as.toInt64) * (bs.toInt64)) * (cs.toInt64))), .second]) rfl ?_
      show Steps p.tables e below (T17.setTop (mkF m 148 #[.val (.int p0), .val (.int p1), .val (.int p2), .val (.int p3), .val (.int p4), .val (.int (3 : Int32)), .val (.int as), .val (.int bs), .val (.int cs), .val (.int ds), .val (.ref ar), .val (.long (((as.toInt64) * (bs.toInt64)) * (cs.toInt64))), .second] [])) _
      refine XS.goto X17.here hx rfl (pc0 := 148) (pc' := 168) rfl (hb hby at_148) (by decide) (by decide) ?_
      show Steps p.tables e below (T17.setTop (mkF m 168 #[.val (.int p0), .val (.int p1), .val (.int p2), .val (.int p3), .val (.int p4), .val (.int (3 : Int32)), .val (.int as), .val (.int bs), .val (.int cs), .val (.int ds), .val (.ref ar), .val (.long (((as.toInt64) * (bs.toInt64)) * (cs.toInt64))), .second] [])) _
      refine XS.aload X17.here hx rfl (hb hby at_168) rfl rfl ?_
      show Steps p.tables e below (T17.setTop (mkF m 170 #[.val (.int p0), .val (.int p1), .val (.int p2), .val (.int p3), .val (.int p4), .val (.int (3 : Int32)), .val (.int as), .val (.int bs), .val (.int cs), .val (.int ds), .val (.ref ar), .val (.long (((as.toInt64) * (bs.toInt64)) * (cs.toInt64))), .second] [(.ref ar)])) _
      refine st18 _ ?_
      show Steps p.tables e below (T18.setTop (mkF m 173 #[.val (.int p0), .val (.int p1), .val (.int p2), .val (.int p3), .val (.int p4), .val (.int (3 : Int32)), .val (.int as), .val (.int bs), .val (.int cs), .val (.int ds), .val (.ref ar), .val (.long (((as.toInt64) * (bs.toInt64)) * (cs.toInt64))), .second] [(.long ((((1 : Int64) * (as.toInt64)) * (bs.toInt64)) * (cs.toInt64)))])) _
      refine XS.lload X18.here hx rfl (hb hby at_173) rfl ?_
      show Steps p.tables e below (T18.setTop (mkF m 175 #[.val (.int p0), .val (.int p1), .val (.int p2), .val (.int p3), .val (.int p4), .val (.int (3 : Int32)), .val (.int as), .val (.int bs), .val (.int cs), .val (.int ds), .val (.ref ar), .val (.long (((as.toInt64) * (bs.toInt64)) * (cs.toInt64))), .second] [(.long (((as.toInt64) * (bs.toInt64)) * (cs.toInt64))), (.long ((((1 : Int64) * (as.toInt64)) * (bs.toInt64)) * (cs.toInt64)))])) _
      refine XS.lcmp X18.here hx rfl (hb hby at_175) rfl ?_
      show Steps p.tables e below (T18.setTop (mkF m 176 #[.val (.int p0), .val (.int p1), .val (.int p2), .val (.int p3), .val (.int p4), .val (.int (3 : Int32)), .val (.int as), .val (.int bs), .val (.int cs), .val (.int ds), .val (.ref ar), .val (.long (((as.toInt64) * (bs.toInt64)) * (cs.toInt64))), .second] [(.int (lcmpW ((((1 : Int64) * (as.toInt64)) * (bs.toInt64)) * (cs.toInt64)) (((as.toInt64) * (bs.toInt64)) * (cs.toInt64))))])) _
      refine XS.ifNo X18.here hx rfl (hb hby at_176) rfl ((if0 _ _).trans (teq ((lw_eq _ _).mpr (by first | rfl | simp only [Int64.one_mul] : ((((1 : Int64) * (as.toInt64)) * (bs.toInt64)) * (cs.toInt64)) = (((as.toInt64) * (bs.toInt64)) * (cs.toInt64))))).2) ?_
      show Steps p.tables e below (T18.setTop (mkF m 179 #[.val (.int p0), .val (.int p1), .val (.int p2), .val (.int p3), .val (.int p4), .val (.int (3 : Int32)), .val (.int as), .val (.int bs), .val (.int cs), .val (.int ds), .val (.ref ar), .val (.long (((as.toInt64) * (bs.toInt64)) * (cs.toInt64))), .second] [])) _
      refine XS.iconst X18.here hx rfl (hb hby at_179) ?_
      show Steps p.tables e below (T18.setTop (mkF m 180 #[.val (.int p0), .val (.int p1), .val (.int p2), .val (.int p3), .val (.int p4), .val (.int (3 : Int32)), .val (.int as), .val (.int bs), .val (.int cs), .val (.int ds), .val (.ref ar), .val (.long (((as.toInt64) * (bs.toInt64)) * (cs.toInt64))), .second] [(.int (1 : Int32))])) _
      refine XS.goto X18.here hx rfl (pc0 := 180) (pc' := 184) rfl (hb hby at_180) (by decide) (by decide) ?_
      show Steps p.tables e below (T18.setTop (mkF m 184 #[.val (.int p0), .val (.int p1), .val (.int p2), .val (.int p3), .val (.int p4), .val (.int (3 : Int32)), .val (.int as), .val (.int bs), .val (.int cs), .val (.int ds), .val (.ref ar), .val (.long (((as.toInt64) * (bs.toInt64)) * (cs.toInt64))), .second] [(.int (1 : Int32))])) _
      exact retN X18 hx (t := .boolean) Bd.returns (by simp) (hb hby at_184) hr
    · show Qrm0 Z p0 p1 p2 p3 p4 h0 n0 _ T18.heap _
      rw [eh18]
      exact ⟨rfl, N18⟩
  · obtain ⟨T19, h19, k19, X19, e19, E19, A19, st19⟩ := newP X4 hx hZ (hw _ (List.mem_of_getElem? (i := 6) rfl)) eh4 (g := (mkF m 35 #[.val (.int p0), .val (.int p1), .val (.int p2), .val (.int p3), .val (.int p4), .val (.int (4 : Int32)), .val (.int as), .val (.int bs), .val (.int cs), .val (.int ds), .unset, .unset, .unset] [(.int (4 : Int32))])) rfl (hb hby at_35) rfl (by decide) (cap := 4) (by decide) (by decide) (by decide) (by decide)
    obtain ⟨ar, g19⟩ : ∃ z, z = h0.size := ⟨_, rfl⟩
    rw [← g19] at A19 st19
    have g_ar : n0 ≤ ar := Nat.le_trans Z0 (Nat.le_of_eq g19.symm)
    have sz_ar : h0.size ≤ ar := Nat.le_trans K0.1 (Nat.le_of_eq g19.symm)
    have Zh19 : n0 ≤ h19.size := Nat.le_trans Z0 E19.1
    have Kh19 : Keep h0 h19 [] := K0.ext E19
    have V_ar : Arv Z h19 ar k19 .int (4 : Int32) [(.int (0 : Int32)), (.int (0 : Int32)), (.int (0 : Int32)), (.int (0 : Int32))] (.int (0 : Int32)) := (Arv.new A19 (by decide)).pad (pad_rep [] (.int (0 : Int32)) 4)
    obtain ⟨cl20, Ar20, qq20, SS20, MM20, HH20, GG20⟩ := id V_ar
    have hin20 := inb_of SS20 (j := (0 : Int32)) ⟨by decide, by decide⟩
    obtain ⟨T20, h20, X20, e20, W20, st20⟩ := stI X19 hx hZ e19 Ar20 (j := (0 : Int32)) hin20 (g := (mkF m 49 #[.val (.int p0), .val (.int p1), .val (.int p2), .val (.int p3), .val (.int p4), .val (.int (4 : Int32)), .val (.int as), .val (.int bs), .val (.int cs), .val (.int ds), .val (.ref ar), .unset, .unset] [(.int as), (.int (0 : Int32)), (.ref ar)])) rfl rfl (hb hby at_49)
    have V_ar : Arv Z h20 ar k19 .int (4 : Int32) [(.int as), (.int (0 : Int32)), (.int (0 : Int32)), (.int (0 : Int32))] (.int (0 : Int32)) := Arv.set Ar20 qq20 SS20 MM20 HH20 GG20 rfl W20 0 rfl (Nat.le_of_ble_eq_true rfl)
    have Zh20 : n0 ≤ h20.size := Nat.le_trans Zh19 (Keep.of_wr W20).1
    have Kh20 : Keep h0 h20 [] := Kh19.wr W20 (Or.inr sz_ar)
    have N20 := Fr.snoc X20 N4 g_ar
    obtain ⟨cl21, Ar21, qq21, SS21, MM21, HH21, GG21⟩ := id V_ar
    have hin21 := inb_of SS21 (j := (1 : Int32)) ⟨by decide, by decide⟩
    obtain ⟨T21, h21, X21, e21, W21, st21⟩ := stI X20 hx hZ e20 Ar21 (j := (1 : Int32)) hin21 (g := (mkF m 61 #[.val (.int p0), .val (.int p1), .val (.int p2), .val (.int p3), .val (.int p4), .val (.int (4 : Int32)), .val (.int as), .val (.int bs), .val (.int cs), .val (.int ds), .val (.ref ar), .unset, .unset] [(.int bs), (.int (1 : Int32)), (.ref ar)])) rfl rfl (hb hby at_61)
    have V_ar : Arv Z h21 ar k19 .int (4 : Int32) [(.int as), (.int bs), (.int (0 : Int32)), (.int (0 : Int32))] (.int (0 : Int32)) := Arv.set Ar21 qq21 SS21 MM21 HH21 GG21 rfl W21 1 rfl (Nat.le_of_ble_eq_true rfl)
    have Zh21 : n0 ≤ h21.size := Nat.le_trans Zh20 (Keep.of_wr W21).1
    have Kh21 : Keep h0 h21 [] := Kh20.wr W21 (Or.inr sz_ar)
    have N21 := Fr.snoc X21 N20 g_ar
    obtain ⟨cl22, Ar22, qq22, SS22, MM22, HH22, GG22⟩ := id V_ar
    have hin22 := inb_of SS22 (j := (2 : Int32)) ⟨by decide, by decide⟩
    obtain ⟨T22, h22, X22, e22, W22, st22⟩ := stI X21 hx hZ e21 Ar22 (j := (2 : Int32)) hin22 (g := (mkF m 73 #[.val (.int p0), .val (.int p1), .val (.int p2), .val (.int p3), .val (.int p4), .val (.int (4 : Int32)), .val (.int as), .val (.int bs), .val (.int cs), .val (.int ds), .val (.ref ar), .unset, .unset] [(.int cs), (.int (2 : Int32)), (.ref ar)])) rfl rfl (hb hby at_73)
    have V_ar : Arv Z h22 ar k19 .int (4 : Int32) [(.int as), (.int bs), (.int cs), (.int (0 : Int32))] (.int (0 : Int32)) := Arv.set Ar22 qq22 SS22 MM22 HH22 GG22 rfl W22 2 rfl (Nat.le_of_ble_eq_true rfl)
    have Zh22 : n0 ≤ h22.size := Nat.le_trans Zh21 (Keep.of_wr W22).1
    have Kh22 : Keep h0 h22 [] := Kh21.wr W22 (Or.inr sz_ar)
    have N22 := Fr.snoc X22 N21 g_ar
    obtain ⟨cl23, Ar23, qq23, SS23, MM23, HH23, GG23⟩ := id V_ar
    have hin23 := inb_of SS23 (j := (3 : Int32)) ⟨by decide, by decide⟩
    obtain ⟨T23, h23, X23, e23, W23, st23⟩ := stI X22 hx hZ e22 Ar23 (j := (3 : Int32)) hin23 (g := (mkF m 85 #[.val (.int p0), .val (.int p1), .val (.int p2), .val (.int p3), .val (.int p4), .val (.int (4 : Int32)), .val (.int as), .val (.int bs), .val (.int cs), .val (.int ds), .val (.ref ar), .unset, .unset] [(.int ds), (.int (3 : Int32)), (.ref ar)])) rfl rfl (hb hby at_85)
    have V_ar : Arv Z h23 ar k19 .int (4 : Int32) [(.int as), (.int bs), (.int cs), (.int ds)] (.int (0 : Int32)) := Arv.set Ar23 qq23 SS23 MM23 HH23 GG23 rfl W23 3 rfl (Nat.le_of_ble_eq_true rfl)
    have Zh23 : n0 ≤ h23.size := Nat.le_trans Zh22 (Keep.of_wr W23).1
    have Kh23 : Keep h0 h23 [] := Kh22.wr W23 (Or.inr sz_ar)
    have N23 := Fr.snoc X23 N22 g_ar
    obtain ⟨_, _, ⟨T24, L24, k24, n24⟩, -, X24, ⟨Lc24, hQ24, l24, y24, z24⟩, st24⟩ := Jvm.LawKit.callS X23 hx (y := (⟨"com/example/epitome/epitome/cube/CubeCells", "product", "([I)J"⟩ : MethodName)) hown (mvT hZ (hw _ (List.mem_of_getElem? (i := 7) rfl))) (mvT hZ (hw _ (List.mem_of_getElem? (i := 8) rfl))) (mvT hZ (hw _ (List.mem_of_getElem? (i := 9) rfl))) (mvT hZ (hw _ (List.mem_of_getElem? (i := 10) rfl))) (by decide) (backOf (W := 0) (rm2_4 l Z A0 hw [] ar k19 as bs cs ds h23 n0 Zh23 V_ar) hZ (hw _ (List.mem_of_getElem? (i := 10) rfl)) (hw _ (List.mem_of_getElem? (i := 9) rfl)) (by decide) (by decide)) (g := (mkF m 170 #[.val (.int p0), .val (.int p1), .val (.int p2), .val (.int p3), .val (.int p4), .val (.int (4 : Int32)), .val (.int as), .val (.int bs), .val (.int cs), .val (.int ds), .val (.ref ar), .val (.long ((((as.toInt64) * (bs.toInt64)) * (cs.toInt64)) * (ds.toInt64))), .second] [(.ref ar)])) rfl (by rw [hml]; rfl) (argsL := [(.ref ar)]) (rest := []) (lenOf pd_1 rfl) rfl (by show 2 * 0 + _ ≤ _; exact Nat.le_of_eq rfl) (hb hby at_170) (fun _ _ => ⟨rfl, e23, (by decide : 1 + 0 ≤ _), (by decide : 4 + 0 ≤ _)⟩)
    dsimp only [Pt.U, Pt.locs, Pt.cells, Pt.slots] at X24 l24 y24 z24 st24 hQ24
    subst l24 y24 z24
    obtain ⟨rfl, N24q, eh24⟩ := hQ24
    have N24 := Fr.app N23 N24q
    obtain ⟨fs, hr, hrun, hended, hW, hsame⟩ := X24.leave (v := some (.int (1 : Int32))) (fun h => by rw [Bd.returns] at h; cases h)
    refine ⟨_, _, pre0 _ ?_, hrun, hended, _, _, rfl, ?_, ⟨_, rfl⟩, hW, hsame.mono (by decide) (by decide)⟩
    · show Steps p.tables e below (s₁.setTop (mkF m 0 #[.val (.int p0), .val (.int p1), .val (.int p2), .val (.int p3), .val (.int p4), .unset, .unset, .unset, .unset, .unset, .unset, .unset, .unset] [])) _
      refine XS.iloadN X0.here hx rfl (hb hby at_0) rfl ?_
      show Steps p.tables e below (s₁.setTop (mkF m 1 #[.val (.int p0), .val (.int p1), .val (.int p2), .val (.int p3), .val (.int p4), .unset, .unset, .unset, .unset, .unset, .unset, .unset, .unset] [(.int p0)])) _
      refine X0.ldcInt hx hown (mvT hZ (hw _ (List.mem_of_getElem? (i := 0) rfl))) (g := (mkF m 1 #[.val (.int p0), .val (.int p1), .val (.int p2), .val (.int p3), .val (.int p4), .unset, .unset, .unset, .unset, .unset, .unset, .unset, .unset] [(.int p0)])) rfl (hb hby at_1) _ ?_
      show Steps p.tables e below (s₁.setTop (mkF m 3 #[.val (.int p0), .val (.int p1), .val (.int p2), .val (.int p3), .val (.int p4), .unset, .unset, .unset, .unset, .unset, .unset, .unset, .unset] [(.int (2147483647 : Int32)), (.int p0)])) _
      refine XS.iand X0.here hx rfl (hb hby at_3) rfl ?_
      show Steps p.tables e below (s₁.setTop (mkF m 4 #[.val (.int p0), .val (.int p1), .val (.int p2), .val (.int p3), .val (.int p4), .unset, .unset, .unset, .unset, .unset, .unset, .unset, .unset] [(.int (p0 &&& (2147483647 : Int32)))])) _
      refine XS.iconst X0.here hx rfl (hb hby at_4) ?_
      show Steps p.tables e below (s₁.setTop (mkF m 5 #[.val (.int p0), .val (.int p1), .val (.int p2), .val (.int p3), .val (.int p4), .unset, .unset, .unset, .unset, .unset, .unset, .unset, .unset] [(.int (5 : Int32)), (.int (p0 &&& (2147483647 : Int32)))])) _
      refine iremM X0 hx rfl (hb hby at_5) rfl (by decide) ?_
      show Steps p.tables e below (s₁.setTop (mkF m 6 #[.val (.int p0), .val (.int p1), .val (.int p2), .val (.int p3), .val (.int p4), .unset, .unset, .unset, .unset, .unset, .unset, .unset, .unset] [(.int ((p0 &&& (2147483647 : Int32)) % (5 : Int32)))])) _
      rw [← h_nn]
      show Steps p.tables e below (s₁.setTop (mkF m 6 #[.val (.int p0), .val (.int p1), .val (.int p2), .val (.int p3), .val (.int p4), .unset, .unset, .unset, .unset, .unset, .unset, .unset, .unset] [(.int (4 : Int32))])) _
      refine XS.istore X0.here hx rfl (hb hby at_6) rfl (l' := #[.val (.int p0), .val (.int p1), .val (.int p2), .val (.int p3), .val (.int p4), .val (.int (4 : Int32)), .unset, .unset, .unset, .unset, .unset, .unset, .unset]) rfl ?_
      show Steps p.tables e below (s₁.setTop (mkF m 8 #[.val (.int p0), .val (.int p1), .val (.int p2), .val (.int p3), .val (.int p4), .val (.int (4 : Int32)), .unset, .unset, .unset, .unset, .unset, .unset, .unset] [])) _
      refine XS.iloadN X0.here hx rfl (hb hby at_8) rfl ?_
      show Steps p.tables e below (s₁.setTop (mkF m 9 #[.val (.int p0), .val (.int p1), .val (.int p2), .val (.int p3), .val (.int p4), .val (.int (4 : Int32)), .unset, .unset, .unset, .unset, .unset, .unset, .unset] [(.int p1)])) _
      refine st1 _ ?_
      show Steps p.tables e below (T1.setTop (mkF m 12 #[.val (.int p0), .val (.int p1), .val (.int p2), .val (.int p3), .val (.int p4), .val (.int (4 : Int32)), .unset, .unset, .unset, .unset, .unset, .unset, .unset] [(.int ((p1 &&& (2147483647 : Int32)) % (134217729 : Int32)))])) _
      rw [← h_as]
      show Steps p.tables e below (T1.setTop (mkF m 12 #[.val (.int p0), .val (.int p1), .val (.int p2), .val (.int p3), .val (.int p4), .val (.int (4 : Int32)), .unset, .unset, .unset, .unset, .unset, .unset, .unset] [(.int as)])) _
      refine XS.istore X1.here hx rfl (hb hby at_12) rfl (l' := #[.val (.int p0), .val (.int p1), .val (.int p2), .val (.int p3), .val (.int p4), .val (.int (4 : Int32)), .val (.int as), .unset, .unset, .unset, .unset, .unset, .unset]) rfl ?_
      show Steps p.tables e below (T1.setTop (mkF m 14 #[.val (.int p0), .val (.int p1), .val (.int p2), .val (.int p3), .val (.int p4), .val (.int (4 : Int32)), .val (.int as), .unset, .unset, .unset, .unset, .unset, .unset] [])) _
      refine XS.iloadN X1.here hx rfl (hb hby at_14) rfl ?_
      show Steps p.tables e below (T1.setTop (mkF m 15 #[.val (.int p0), .val (.int p1), .val (.int p2), .val (.int p3), .val (.int p4), .val (.int (4 : Int32)), .val (.int as), .unset, .unset, .unset, .unset, .unset, .unset] [(.int p2)])) _
      refine st2 _ ?_
      show Steps p.tables e below (T2.setTop (mkF m 18 #[.val (.int p0), .val (.int p1), .val (.int p2), .val (.int p3), .val (.int p4), .val (.int (4 : Int32)), .val (.int as), .unset, .unset, .unset, .unset, .unset, .unset] [(.int ((p2 &&& (2147483647 : Int32)) % (134217729 : Int32)))])) _
      rw [← h_bs]
      show Steps p.tables e below (T2.setTop (mkF m 18 #[.val (.int p0), .val (.int p1), .val (.int p2), .val (.int p3), .val (.int p4), .val (.int (4 : Int32)), .val (.int as), .unset, .unset, .unset, .unset, .unset, .unset] [(.int bs)])) _
      refine XS.istore X2.here hx rfl (hb hby at_18) rfl (l' := #[.val (.int p0), .val (.int p1), .val (.int p2), .val (.int p3), .val (.int p4), .val (.int (4 : Int32)), .val (.int as), .val (.int bs), .unset, .unset, .unset, .unset, .unset]) rfl ?_
      show Steps p.tables e below (T2.setTop (mkF m 20 #[.val (.int p0), .val (.int p1), .val (.int p2), .val (.int p3), .val (.int p4), .val (.int (4 : Int32)), .val (.int as), .val (.int bs), .unset, .unset, .unset, .unset, .unset] [])) _
      refine XS.iloadN X2.here hx rfl (hb hby at_20) rfl ?_
      show Steps p.tables e below (T2.setTop (mkF m 21 #[.val (.int p0), .val (.int p1), .val (.int p2), .val (.int p3), .val (.int p4), .val (.int (4 : Int32)), .val (.int as), .val (.int bs), .unset, .unset, .unset, .unset, .unset] [(.int p3)])) _
      refine st3 _ ?_
      show Steps p.tables e below (T3.setTop (mkF m 24 #[.val (.int p0), .val (.int p1), .val (.int p2), .val (.int p3), .val (.int p4), .val (.int (4 : Int32)), .val (.int as), .val (.int bs), .unset, .unset, .unset, .unset, .unset] [(.int ((p3 &&& (2147483647 : Int32)) % (134217729 : Int32)))])) _
      rw [← h_cs]
      show Steps p.tables e below (T3.setTop (mkF m 24 #[.val (.int p0), .val (.int p1), .val (.int p2), .val (.int p3), .val (.int p4), .val (.int (4 : Int32)), .val (.int as), .val (.int bs), .unset, .unset, .unset, .unset, .unset] [(.int cs)])) _
      refine XS.istore X3.here hx rfl (hb hby at_24) rfl (l' := #[.val (.int p0), .val (.int p1), .val (.int p2), .val (.int p3), .val (.int p4), .val (.int (4 : Int32)), .val (.int as), .val (.int bs), .val (.int cs), .unset, .unset, .unset, .unset]) rfl ?_
      show Steps p.tables e below (T3.setTop (mkF m 26 #[.val (.int p0), .val (.int p1), .val (.int p2), .val (.int p3), .val (.int p4), .val (.int (4 : Int32)), .val (.int as), .val (.int bs), .val (.int cs), .unset, .unset, .unset, .unset] [])) _
      refine XS.iload X3.here hx rfl (hb hby at_26) rfl ?_
      show Steps p.tables e below (T3.setTop (mkF m 28 #[.val (.int p0), .val (.int p1), .val (.int p2), .val (.int p3), .val (.int p4), .val (.int (4 : Int32)), .val (.int as), .val (.int bs), .val (.int cs), .unset, .unset, .unset, .unset] [(.int p4)])) _
      refine st4 _ ?_
      show Steps p.tables e below (T4.setTop (mkF m 31 #[.val (.int p0), .val (.int p1), .val (.int p2), .val (.int p3), .val (.int p4), .val (.int (4 : Int32)), .val (.int as), .val (.int bs), .val (.int cs), .unset, .unset, .unset, .unset] [(.int ((p4 &&& (2147483647 : Int32)) % (134217729 : Int32)))])) _
      rw [← h_ds]
      show Steps p.tables e below (T4.setTop (mkF m 31 #[.val (.int p0), .val (.int p1), .val (.int p2), .val (.int p3), .val (.int p4), .val (.int (4 : Int32)), .val (.int as), .val (.int bs), .val (.int cs), .unset, .unset, .unset, .unset] [(.int ds)])) _
      refine XS.istore X4.here hx rfl (hb hby at_31) rfl (l' := #[.val (.int p0), .val (.int p1), .val (.int p2), .val (.int p3), .val (.int p4), .val (.int (4 : Int32)), .val (.int as), .val (.int bs), .val (.int cs), .val (.int ds), .unset, .unset, .unset]) rfl ?_
      show Steps p.tables e below (T4.setTop (mkF m 33 #[.val (.int p0), .val (.int p1), .val (.int p2), .val (.int p3), .val (.int p4), .val (.int (4 : Int32)), .val (.int as), .val (.int bs), .val (.int cs), .val (.int ds), .unset, .unset, .unset] [])) _
      refine XS.iload X4.here hx rfl (hb hby at_33) rfl ?_
      show Steps p.tables e below (T4.setTop (mkF m 35 #[.val (.int p0), .val (.int p1), .val (.int p2), .val (.int p3), .val (.int p4), .val (.int (4 : Int32)), .val (.int as), .val (.int bs), .val (.int cs), .val (.int ds), .unset, .unset, .unset] [(.int (4 : Int32))])) _
      refine st19 _ ?_
      show Steps p.tables e below (T19.setTop (mkF m 37 #[.val (.int p0), .val (.int p1), .val (.int p2), .val (.int p3), .val (.int p4), .val (.int (4 : Int32)), .val (.int as), .val (.int bs), .val (.int cs), .val (.int ds), .unset, .unset, .unset] [(.ref ar)])) _
      refine XS.astore X19.here hx rfl (hb hby at_37) rfl rfl (l' := #[.val (.int p0), .val (.int p1), .val (.int p2), .val (.int p3), .val (.int p4), .val (.int (4 : Int32)), .val (.int as), .val (.int bs), .val (.int cs), .val (.int ds), .val (.ref ar), .unset, .unset]) rfl ?_
      show Steps p.tables e below (T19.setTop (mkF m 39 #[.val (.int p0), .val (.int p1), .val (.int p2), .val (.int p3), .val (.int p4), .val (.int (4 : Int32)), .val (.int as), .val (.int bs), .val (.int cs), .val (.int ds), .val (.ref ar), .unset, .unset] [])) _
      refine XS.iload X19.here hx rfl (hb hby at_39) rfl ?_
      show Steps p.tables e below (T19.setTop (mkF m 41 #[.val (.int p0), .val (.int p1), .val (.int p2), .val (.int p3), .val (.int p4), .val (.int (4 : Int32)), .val (.int as), .val (.int bs), .val (.int cs), .val (.int ds), .val (.ref ar), .unset, .unset] [(.int (4 : Int32))])) _
      refine XS.ifNo X19.here hx rfl (hb hby at_41) rfl ((if0 _ _).trans (tlt (by decide : (0 : Int32) < (4 : Int32))).2.2.2) ?_
      show Steps p.tables e below (T19.setTop (mkF m 44 #[.val (.int p0), .val (.int p1), .val (.int p2), .val (.int p3), .val (.int p4), .val (.int (4 : Int32)), .val (.int as), .val (.int bs), .val (.int cs), .val (.int ds), .val (.ref ar), .unset, .unset] [])) _
      refine XS.aload X19.here hx rfl (hb hby at_44) rfl rfl ?_
      show Steps p.tables e below (T19.setTop (mkF m 46 #[.val (.int p0), .val (.int p1), .val (.int p2), .val (.int p3), .val (.int p4), .val (.int (4 : Int32)), .val (.int as), .val (.int bs), .val (.int cs), .val (.int ds), .val (.ref ar), .unset, .unset] [(.ref ar)])) _
      refine XS.iconst X19.here hx rfl (hb hby at_46) ?_
      show Steps p.tables e below (T19.setTop (mkF m 47 #[.val (.int p0), .val (.int p1), .val (.int p2), .val (.int p3), .val (.int p4), .val (.int (4 : Int32)), .val (.int as), .val (.int bs), .val (.int cs), .val (.int ds), .val (.ref ar), .unset, .unset] [(.int (0 : Int32)), (.ref ar)])) _
      refine XS.iload X19.here hx rfl (hb hby at_47) rfl ?_
      show Steps p.tables e below (T19.setTop (mkF m 49 #[.val (.int p0), .val (.int p1), .val (.int p2), .val (.int p3), .val (.int p4), .val (.int (4 : Int32)), .val (.int as), .val (.int bs), .val (.int cs), .val (.int ds), .val (.ref ar), .unset, .unset] [(.int as), (.int (0 : Int32)), (.ref ar)])) _
      refine st20 _ ?_
      show Steps p.tables e below (T20.setTop (mkF m 50 #[.val (.int p0), .val (.int p1), .val (.int p2), .val (.int p3), .val (.int p4), .val (.int (4 : Int32)), .val (.int as), .val (.int bs), .val (.int cs), .val (.int ds), .val (.ref ar), .unset, .unset] [])) _
      refine XS.iload X20.here hx rfl (hb hby at_50) rfl ?_
      show Steps p.tables e below (T20.setTop (mkF m 52 #[.val (.int p0), .val (.int p1), .val (.int p2), .val (.int p3), .val (.int p4), .val (.int (4 : Int32)), .val (.int as), .val (.int bs), .val (.int cs), .val (.int ds), .val (.ref ar), .unset, .unset] [(.int (4 : Int32))])) _
      refine XS.iconst X20.here hx rfl (hb hby at_52) ?_
      show Steps p.tables e below (T20.setTop (mkF m 53 #[.val (.int p0), .val (.int p1), .val (.int p2), .val (.int p3), .val (.int p4), .val (.int (4 : Int32)), .val (.int as), .val (.int bs), .val (.int cs), .val (.int ds), .val (.ref ar), .unset, .unset] [(.int (1 : Int32)), (.int (4 : Int32))])) _
      refine XS.icmpNo X20.here hx rfl (hb hby at_53) rfl (tlt (by decide : (1 : Int32) < (4 : Int32))).2.2.2 ?_
      show Steps p.tables e below (T20.setTop (mkF m 56 #[.val (.int p0), .val (.int p1), .val (.int p2), .val (.int p3), .val (.int p4), .val (.int (4 : Int32)), .val (.int as), .val (.int bs), .val (.int cs), .val (.int ds), .val (.ref ar), .unset, .unset] [])) _
      refine XS.aload X20.here hx rfl (hb hby at_56) rfl rfl ?_
      show Steps p.tables e below (T20.setTop (mkF m 58 #[.val (.int p0), .val (.int p1), .val (.int p2), .val (.int p3), .val (.int p4), .val (.int (4 : Int32)), .val (.int as), .val (.int bs), .val (.int cs), .val (.int ds), .val (.ref ar), .unset, .unset] [(.ref ar)])) _
      refine XS.iconst X20.here hx rfl (hb hby at_58) ?_
      show Steps p.tables e below (T20.setTop (mkF m 59 #[.val (.int p0), .val (.int p1), .val (.int p2), .val (.int p3), .val (.int p4), .val (.int (4 : Int32)), .val (.int as), .val (.int bs), .val (.int cs), .val (.int ds), .val (.ref ar), .unset, .unset] [(.int (1 : Int32)), (.ref ar)])) _
      refine XS.iload X20.here hx rfl (hb hby at_59) rfl ?_
      show Steps p.tables e below (T20.setTop (mkF m 61 #[.val (.int p0), .val (.int p1), .val (.int p2), .val (.int p3), .val (.int p4), .val (.int (4 : Int32)), .val (.int as), .val (.int bs), .val (.int cs), .val (.int ds), .val (.ref ar), .unset, .unset] [(.int bs), (.int (1 : Int32)), (.ref ar)])) _
      refine st21 _ ?_
      show Steps p.tables e below (T21.setTop (mkF m 62 #[.val (.int p0), .val (.int p1), .val (.int p2), .val (.int p3), .val (.int p4), .val (.int (4 : Int32)), .val (.int as), .val (.int bs), .val (.int cs), .val (.int ds), .val (.ref ar), .unset, .unset] [])) _
      refine XS.iload X21.here hx rfl (hb hby at_62) rfl ?_
      show Steps p.tables e below (T21.setTop (mkF m 64 #[.val (.int p0), .val (.int p1), .val (.int p2), .val (.int p3), .val (.int p4), .val (.int (4 : Int32)), .val (.int as), .val (.int bs), .val (.int cs), .val (.int ds), .val (.ref ar), .unset, .unset] [(.int (4 : Int32))])) _
      refine XS.iconst X21.here hx rfl (hb hby at_64) ?_
      show Steps p.tables e below (T21.setTop (mkF m 65 #[.val (.int p0), .val (.int p1), .val (.int p2), .val (.int p3), .val (.int p4), .val (.int (4 : Int32)), .val (.int as), .val (.int bs), .val (.int cs), .val (.int ds), .val (.ref ar), .unset, .unset] [(.int (2 : Int32)), (.int (4 : Int32))])) _
      refine XS.icmpNo X21.here hx rfl (hb hby at_65) rfl (tlt (by decide : (2 : Int32) < (4 : Int32))).2.2.2 ?_
      show Steps p.tables e below (T21.setTop (mkF m 68 #[.val (.int p0), .val (.int p1), .val (.int p2), .val (.int p3), .val (.int p4), .val (.int (4 : Int32)), .val (.int as), .val (.int bs), .val (.int cs), .val (.int ds), .val (.ref ar), .unset, .unset] [])) _
      refine XS.aload X21.here hx rfl (hb hby at_68) rfl rfl ?_
      show Steps p.tables e below (T21.setTop (mkF m 70 #[.val (.int p0), .val (.int p1), .val (.int p2), .val (.int p3), .val (.int p4), .val (.int (4 : Int32)), .val (.int as), .val (.int bs), .val (.int cs), .val (.int ds), .val (.ref ar), .unset, .unset] [(.ref ar)])) _
      refine XS.iconst X21.here hx rfl (hb hby at_70) ?_
      show Steps p.tables e below (T21.setTop (mkF m 71 #[.val (.int p0), .val (.int p1), .val (.int p2), .val (.int p3), .val (.int p4), .val (.int (4 : Int32)), .val (.int as), .val (.int bs), .val (.int cs), .val (.int ds), .val (.ref ar), .unset, .unset] [(.int (2 : Int32)), (.ref ar)])) _
      refine XS.iload X21.here hx rfl (hb hby at_71) rfl ?_
      show Steps p.tables e below (T21.setTop (mkF m 73 #[.val (.int p0), .val (.int p1), .val (.int p2), .val (.int p3), .val (.int p4), .val (.int (4 : Int32)), .val (.int as), .val (.int bs), .val (.int cs), .val (.int ds), .val (.ref ar), .unset, .unset] [(.int cs), (.int (2 : Int32)), (.ref ar)])) _
      refine st22 _ ?_
      show Steps p.tables e below (T22.setTop (mkF m 74 #[.val (.int p0), .val (.int p1), .val (.int p2), .val (.int p3), .val (.int p4), .val (.int (4 : Int32)), .val (.int as), .val (.int bs), .val (.int cs), .val (.int ds), .val (.ref ar), .unset, .unset] [])) _
      refine XS.iload X22.here hx rfl (hb hby at_74) rfl ?_
      show Steps p.tables e below (T22.setTop (mkF m 76 #[.val (.int p0), .val (.int p1), .val (.int p2), .val (.int p3), .val (.int p4), .val (.int (4 : Int32)), .val (.int as), .val (.int bs), .val (.int cs), .val (.int ds), .val (.ref ar), .unset, .unset] [(.int (4 : Int32))])) _
      refine XS.iconst X22.here hx rfl (hb hby at_76) ?_
      show Steps p.tables e below (T22.setTop (mkF m 77 #[.val (.int p0), .val (.int p1), .val (.int p2), .val (.int p3), .val (.int p4), .val (.int (4 : Int32)), .val (.int as), .val (.int bs), .val (.int cs), .val (.int ds), .val (.ref ar), .unset, .unset] [(.int (3 : Int32)), (.int (4 : Int32))])) _
      refine XS.icmpNo X22.here hx rfl (hb hby at_77) rfl (tlt (by decide : (3 : Int32) < (4 : Int32))).2.2.2 ?_
      show Steps p.tables e below (T22.setTop (mkF m 80 #[.val (.int p0), .val (.int p1), .val (.int p2), .val (.int p3), .val (.int p4), .val (.int (4 : Int32)), .val (.int as), .val (.int bs), .val (.int cs), .val (.int ds), .val (.ref ar), .unset, .unset] [])) _
      refine XS.aload X22.here hx rfl (hb hby at_80) rfl rfl ?_
      show Steps p.tables e below (T22.setTop (mkF m 82 #[.val (.int p0), .val (.int p1), .val (.int p2), .val (.int p3), .val (.int p4), .val (.int (4 : Int32)), .val (.int as), .val (.int bs), .val (.int cs), .val (.int ds), .val (.ref ar), .unset, .unset] [(.ref ar)])) _
      refine XS.iconst X22.here hx rfl (hb hby at_82) ?_
      show Steps p.tables e below (T22.setTop (mkF m 83 #[.val (.int p0), .val (.int p1), .val (.int p2), .val (.int p3), .val (.int p4), .val (.int (4 : Int32)), .val (.int as), .val (.int bs), .val (.int cs), .val (.int ds), .val (.ref ar), .unset, .unset] [(.int (3 : Int32)), (.ref ar)])) _
      refine XS.iload X22.here hx rfl (hb hby at_83) rfl ?_
      show Steps p.tables e below (T22.setTop (mkF m 85 #[.val (.int p0), .val (.int p1), .val (.int p2), .val (.int p3), .val (.int p4), .val (.int (4 : Int32)), .val (.int as), .val (.int bs), .val (.int cs), .val (.int ds), .val (.ref ar), .unset, .unset] [(.int ds), (.int (3 : Int32)), (.ref ar)])) _
      refine st23 _ ?_
      show Steps p.tables e below (T23.setTop (mkF m 86 #[.val (.int p0), .val (.int p1), .val (.int p2), .val (.int p3), .val (.int p4), .val (.int (4 : Int32)), .val (.int as), .val (.int bs), .val (.int cs), .val (.int ds), .val (.ref ar), .unset, .unset] [])) _
      refine XS.iload X23.here hx rfl (hb hby at_86) rfl ?_
      show Steps p.tables e below (T23.setTop (mkF m 88 #[.val (.int p0), .val (.int p1), .val (.int p2), .val (.int p3), .val (.int p4), .val (.int (4 : Int32)), .val (.int as), .val (.int bs), .val (.int cs), .val (.int ds), .val (.ref ar), .unset, .unset] [(.int (4 : Int32))])) _
      refine XS.ifYes X23.here hx rfl (pc0 := 88) (pc' := 97) rfl (hb hby at_88) rfl ((if0 _ _).trans (feq (by decide : ¬ ((4 : Int32) = (0 : Int32)))).2) (by decide) (by decide) ?_
      show Steps p.tables e below (T23.setTop (mkF m 97 #[.val (.int p0), .val (.int p1), .val (.int p2), .val (.int p3), .val (.int p4), .val (.int (4 : Int32)), .val (.int as), .val (.int bs), .val (.int cs), .val (.int ds), .val (.ref ar), .unset, .unset] [])) _
      refine XS.iload X23.here hx rfl (hb hby at_97) rfl ?_
      show Steps p.tables e below (T23.setTop (mkF m 99 #[.val (.int p0), .val (.int p1), .val (.int p2), .val (.int p3), .val (.int p4), .val (.int (4 : Int32)), .val (.int as), .val (.int bs), .val (.int cs), .val (.int ds), .val (.ref ar), .unset, .unset] [(.int (4 : Int32))])) _
      refine XS.iconst X23.here hx rfl (hb hby at_99) ?_
      show Steps p.tables e below (T23.setTop (mkF m 100 #[.val (.int p0), .val (.int p1), .val (.int p2), .val (.int p3), .val (.int p4), .val (.int (4 : Int32)), .val (.int as), .val (.int bs), .val (.int cs), .val (.int ds), .val (.ref ar), .unset, .unset] [(.int (1 : Int32)), (.int (4 : Int32))])) _
      refine XS.icmpYes X23.here hx rfl (pc0 := 100) (pc' := 111) rfl (hb hby at_100) rfl (feq (by decide : ¬ ((4 : Int32) = (1 : Int32)))).2 (by decide) (by decide) ?_
      show Steps p.tables e below (T23.setTop (mkF m 111 #[.val (.int p0), .val (.int p1), .val (.int p2), .val (.int p3), .val (.int p4), .val (.int (4 : Int32)), .val (.int as), .val (.int bs), .val (.int cs), .val (.int ds), .val (.ref ar), .unset, .unset] [])) _
      refine XS.iload X23.here hx rfl (hb hby at_111) rfl ?_
      show Steps p.tables e below (T23.setTop (mkF m 113 #[.val (.int p0), .val (.int p1), .val (.int p2), .val (.int p3), .val (.int p4), .val (.int (4 : Int32)), .val (.int as), .val (.int bs), .val (.int cs), .val (.int ds), .val (.ref ar), .unset, .unset] [(.int (4 : Int32))])) _
      refine XS.iconst X23.here hx rfl (hb hby at_113) ?_
      show Steps p.tables e below (T23.setTop (mkF m 114 #[.val (.int p0), .val (.int p1), .val (.int p2), .val (.int p3), .val (.int p4), .val (.int (4 : Int32)), .val (.int as), .val (.int bs), .val (.int cs), .val (.int ds), .val (.ref ar), .unset, .unset] [(.int (2 : Int32)), (.int (4 : Int32))])) _
      refine XS.icmpYes X23.here hx rfl (pc0 := 114) (pc' := 129) rfl (hb hby at_114) rfl (feq (by decide : ¬ ((4 : Int32) = (2 : Int32)))).2 (by decide) (by decide) ?_
      show Steps p.tables e below (T23.setTop (mkF m 129 #[.val (.int p0), .val (.int p1), .val (.int p2), .val (.int p3), .val (.int p4), .val (.int (4 : Int32)), .val (.int as), .val (.int bs), .val (.int cs), .val (.int ds), .val (.ref ar), .unset, .unset] [])) _
      refine XS.iload X23.here hx rfl (hb hby at_129) rfl ?_
      show Steps p.tables e below (T23.setTop (mkF m 131 #[.val (.int p0), .val (.int p1), .val (.int p2), .val (.int p3), .val (.int p4), .val (.int (4 : Int32)), .val (.int as), .val (.int bs), .val (.int cs), .val (.int ds), .val (.ref ar), .unset, .unset] [(.int (4 : Int32))])) _
      refine XS.iconst X23.here hx rfl (hb hby at_131) ?_
      show Steps p.tables e below (T23.setTop (mkF m 132 #[.val (.int p0), .val (.int p1), .val (.int p2), .val (.int p3), .val (.int p4), .val (.int (4 : Int32)), .val (.int as), .val (.int bs), .val (.int cs), .val (.int ds), .val (.ref ar), .unset, .unset] [(.int (3 : Int32)), (.int (4 : Int32))])) _
      refine XS.icmpYes X23.here hx rfl (pc0 := 132) (pc' := 151) rfl (hb hby at_132) rfl (feq (by decide : ¬ ((4 : Int32) = (3 : Int32)))).2 (by decide) (by decide) ?_
      show Steps p.tables e below (T23.setTop (mkF m 151 #[.val (.int p0), .val (.int p1), .val (.int p2), .val (.int p3), .val (.int p4), .val (.int (4 : Int32)), .val (.int as), .val (.int bs), .val (.int cs), .val (.int ds), .val (.ref ar), .unset, .unset] [])) _
      refine XS.iload X23.here hx rfl (hb hby at_151) rfl ?_
      show Steps p.tables e below (T23.setTop (mkF m 153 #[.val (.int p0), .val (.int p1), .val (.int p2), .val (.int p3), .val (.int p4), .val (.int (4 : Int32)), .val (.int as), .val (.int bs), .val (.int cs), .val (.int ds), .val (.ref ar), .unset, .unset] [(.int as)])) _
      refine XS.i2l X23.here hx rfl (hb hby at_153) rfl ?_
      show Steps p.tables e below (T23.setTop (mkF m 154 #[.val (.int p0), .val (.int p1), .val (.int p2), .val (.int p3), .val (.int p4), .val (.int (4 : Int32)), .val (.int as), .val (.int bs), .val (.int cs), .val (.int ds), .val (.ref ar), .unset, .unset] [(.long (as.toInt64))])) _
      refine XS.iload X23.here hx rfl (hb hby at_154) rfl ?_
      show Steps p.tables e below (T23.setTop (mkF m 156 #[.val (.int p0), .val (.int p1), .val (.int p2), .val (.int p3), .val (.int p4), .val (.int (4 : Int32)), .val (.int as), .val (.int bs), .val (.int cs), .val (.int ds), .val (.ref ar), .unset, .unset] [(.int bs), (.long (as.toInt64))])) _
      refine XS.i2l X23.here hx rfl (hb hby at_156) rfl ?_
      show Steps p.tables e below (T23.setTop (mkF m 157 #[.val (.int p0), .val (.int p1), .val (.int p2), .val (.int p3), .val (.int p4), .val (.int (4 : Int32)), .val (.int as), .val (.int bs), .val (.int cs), .val (.int ds), .val (.ref ar), .unset, .unset] [(.long (bs.toInt64)), (.long (as.toInt64))])) _
      refine XS.lmul X23.here hx rfl (hb hby at_157) rfl ?_
      show Steps p.tables e below (T23.setTop (mkF m 158 #[.val (.int p0), .val (.int p1), .val (.int p2), .val (.int p3), .val (.int p4), .val (.int (4 : Int32)), .val (.int as), .val (.int bs), .val (.int cs), .val (.int ds), .val (.ref ar), .unset, .unset] [(.long ((as.toInt64) * (bs.toInt64)))])) _
      refine XS.iload X23.here hx rfl (hb hby at_158) rfl ?_
      show Steps p.tables e below (T23.setTop (mkF m 160 #[.val (.int p0), .val (.int p1), .val (.int p2), .val (.int p3), .val (.int p4), .val (.int (4 : Int32)), .val (.int as), .val (.int bs), .val (.int cs), .val (.int ds), .val (.ref ar), .unset, .unset] [(.int cs), (.long ((as.toInt64) * (bs.toInt64)))])) _
      refine XS.i2l X23.here hx rfl (hb hby at_160) rfl ?_
      show Steps p.tables e below (T23.setTop (mkF m 161 #[.val (.int p0), .val (.int p1), .val (.int p2), .val (.int p3), .val (.int p4), .val (.int (4 : Int32)), .val (.int as), .val (.int bs), .val (.int cs), .val (.int ds), .val (.ref ar), .unset, .unset] [(.long (cs.toInt64)), (.long ((as.toInt64) * (bs.toInt64)))])) _
      refine XS.lmul X23.here hx rfl (hb hby at_161) rfl ?_
      show Steps p.tables e below (T23.setTop (mkF m 162 #[.val (.int p0), .val (.int p1), .val (.int p2), .val (.int p3), .val (.int p4), .val (.int (4 : Int32)), .val (.int as), .val (.int bs), .val (.int cs), .val (.int ds), .val (.ref ar), .unset, .unset] [(.long (((as.toInt64) * (bs.toInt64)) * (cs.toInt64)))])) _
      refine XS.iload X23.here hx rfl (hb hby at_162) rfl ?_
      show Steps p.tables e below (T23.setTop (mkF m 164 #[.val (.int p0), .val (.int p1), .val (.int p2), .val (.int p3), .val (.int p4), .val (.int (4 : Int32)), .val (.int as), .val (.int bs), .val (.int cs), .val (.int ds), .val (.ref ar), .unset, .unset] [(.int ds), (.long (((as.toInt64) * (bs.toInt64)) * (cs.toInt64)))])) _
      refine XS.i2l X23.here hx rfl (hb hby at_164) rfl ?_
      show Steps p.tables e below (T23.setTop (mkF m 165 #[.val (.int p0), .val (.int p1), .val (.int p2), .val (.int p3), .val (.int p4), .val (.int (4 : Int32)), .val (.int as), .val (.int bs), .val (.int cs), .val (.int ds), .val (.ref ar), .unset, .unset] [(.long (ds.toInt64)), (.long (((as.toInt64) * (bs.toInt64)) * (cs.toInt64)))])) _
      refine XS.lmul X23.here hx rfl (hb hby at_165) rfl ?_
      show Steps p.tables e below (T23.setTop (mkF m 166 #[.val (.int p0), .val (.int p1), .val (.int p2), .val (.int p3), .val (.int p4), .val (.int (4 : Int32)), .val (.int as), .val (.int bs), .val (.int cs), .val (.int ds), .val (.ref ar), .unset, .unset] [(.long ((((as.toInt64) * (bs.toInt64)) * (cs.toInt64)) * (ds.toInt64)))])) _
      refine XS.lstore X23.here hx rfl (hb hby at_166) rfl (l' := #[.val (.int p0), .val (.int p1), .val (.int p2), .val (.int p3), .val (.int p4), .val (.int (4 : Int32)), .val (.int as), .val (.int bs), .val (.int cs), .val (.int ds), .val (.ref ar), .val (.long ((((as.toInt64) * (bs.toInt64)) * (cs.toInt64)) * (ds.toInt64))), .second]) rfl ?_
      show Steps p.tables e below (T23.setTop (mkF m 168 #[.val (.int p0), .val (.int p1), .val (.int p2), .val (.int p3), .val (.int p4), .val (.int (4 : Int32)), .val (.int as), .val (.int bs), .val (.int cs), .val (.int ds), .val (.ref ar), .val (.long ((((as.toInt64) * (bs.toInt64)) * (cs.toInt64)) * (ds.toInt64))), .second] [])) _
      refine XS.aload X23.here hx rfl (hb hby at_168) rfl rfl ?_
      show Steps p.tables e below (T23.setTop (mkF m 170 #[.val (.int p0), .val (.int p1), .val (.int p2), .val (.int p3), .val (.int p4), .val (.int (4 : Int32)), .val (.int as), .val (.int bs), .val (.int cs), .val (.int ds), .val (.ref ar), .val (.long ((((as.toInt64) * (bs.toInt64)) * (cs.toInt64)) * (ds.toInt64))), .second] [(.ref ar)])) _
      refine st24 _ ?_
      show Steps p.tables e below (T24.setTop (mkF m 173 #[.val (.int p0), .val (.int p1), .val (.int p2), .val (.int p3), .val (.int p4), .val (.int (4 : Int32)), .val (.int as), .val (.int bs), .val (.int cs), .val (.int ds), .val (.ref ar), .val (.long ((((as.toInt64) * (bs.toInt64)) * (cs.toInt64)) * (ds.toInt64))), .second] [(.long (((((1 : Int64) * (as.toInt64)) * (bs.toInt64)) * (cs.toInt64)) * (ds.toInt64)))])) _
      refine XS.lload X24.here hx rfl (hb hby at_173) rfl ?_
      show Steps p.tables e below (T24.setTop (mkF m 175 #[.val (.int p0), .val (.int p1), .val (.int p2), .val (.int p3), .val (.int p4), .val (.int (4 : Int32)), .val (.int as), .val (.int bs), .val (.int cs), .val (.int ds), .val (.ref ar), .val (.long ((((as.toInt64) * (bs.toInt64)) * (cs.toInt64)) * (ds.toInt64))), .second] [(.long ((((as.toInt64) * (bs.toInt64)) * (cs.toInt64)) * (ds.toInt64))), (.long (((((1 : Int64) * (as.toInt64)) * (bs.toInt64)) * (cs.toInt64)) * (ds.toInt64)))])) _
      refine XS.lcmp X24.here hx rfl (hb hby at_175) rfl ?_
      show Steps p.tables e below (T24.setTop (mkF m 176 #[.val (.int p0), .val (.int p1), .val (.int p2), .val (.int p3), .val (.int p4), .val (.int (4 : Int32)), .val (.int as), .val (.int bs), .val (.int cs), .val (.int ds), .val (.ref ar), .val (.long ((((as.toInt64) * (bs.toInt64)) * (cs.toInt64)) * (ds.toInt64))), .second] [(.int (lcmpW (((((1 : Int64) * (as.toInt64)) * (bs.toInt64)) * (cs.toInt64)) * (ds.toInt64)) ((((as.toInt64) * (bs.toInt64)) * (cs.toInt64)) * (ds.toInt64))))])) _
      refine XS.ifNo X24.here hx rfl (hb hby at_176) rfl ((if0 _ _).trans (teq ((lw_eq _ _).mpr (by first | rfl | simp only [Int64.one_mul] : (((((1 : Int64) * (as.toInt64)) * (bs.toInt64)) * (cs.toInt64)) * (ds.toInt64)) = ((((as.toInt64) * (bs.toInt64)) * (cs.toInt64)) * (ds.toInt64))))).2) ?_
      show Steps p.tables e below (T24.setTop (mkF m 179 #[.val (.int p0), .val (.int p1), .val (.int p2), .val (.int p3), .val (.int p4), .val (.int (4 : Int32)), .val (.int as), .val (.int bs), .val (.int cs), .val (.int ds), .val (.ref ar), .val (.long ((((as.toInt64) * (bs.toInt64)) * (cs.toInt64)) * (ds.toInt64))), .second] [])) _
      refine XS.iconst X24.here hx rfl (hb hby at_179) ?_
      show Steps p.tables e below (T24.setTop (mkF m 180 #[.val (.int p0), .val (.int p1), .val (.int p2), .val (.int p3), .val (.int p4), .val (.int (4 : Int32)), .val (.int as), .val (.int bs), .val (.int cs), .val (.int ds), .val (.ref ar), .val (.long ((((as.toInt64) * (bs.toInt64)) * (cs.toInt64)) * (ds.toInt64))), .second] [(.int (1 : Int32))])) _
      refine XS.goto X24.here hx rfl (pc0 := 180) (pc' := 184) rfl (hb hby at_180) (by decide) (by decide) ?_
      show Steps p.tables e below (T24.setTop (mkF m 184 #[.val (.int p0), .val (.int p1), .val (.int p2), .val (.int p3), .val (.int p4), .val (.int (4 : Int32)), .val (.int as), .val (.int bs), .val (.int cs), .val (.int ds), .val (.ref ar), .val (.long ((((as.toInt64) * (bs.toInt64)) * (cs.toInt64)) * (ds.toInt64))), .second] [(.int (1 : Int32))])) _
      exact retN X24 hx (t := .boolean) Bd.returns (by simp) (hb hby at_184) hr
    · show Qrm0 Z p0 p1 p2 p3 p4 h0 n0 _ T24.heap _
      rw [eh24]
      exact ⟨rfl, N24⟩
set_option maxRecDepth 65536 in
set_option maxHeartbeats 40000000 in
theorem comes_1 {Post : Tables → Env → Array Value → State → Outcome → State → Prop} (hpost : ∀ tb e args s v u, (limb_1_1.after args s (.returned v) u = true ∧ limb_1_2.after args s (.returned v) u = true ∧ True) → FrameEnd s (.returned v) u (Jvm.fieldLocs frame_1_writes args s ++ Jvm.arrayLocs frame_1_arrays args s ++ Jvm.staticLocs frame_1_statics s) 16 128 → Post tb e args s (.returned v) u) :
    ArmFor flags0 classFile x code maxLocals ret World_1 tables_1 room_1 Calls_1 rest_1 Pre_1 Post := by
  intro l hfl _ _ p e ha hc hk s m args below hf hA hF happ hP
  obtain ⟨hcalls, hrest, hpre⟩ := hP
  obtain ⟨-, -, -, hnamed, -, -, -, hat⟩ := (Spec.applies_iff hf).mp happ
  obtain ⟨hg, hn⟩ := and_e (Cond.before_iff.mp (show (Jvm.Cond.and given_1 narrow_1).before args s = true from hpre))
  obtain ⟨g1, g2⟩ := and_e hg
  obtain ⟨g3, g4⟩ := and_e g2
  obtain ⟨g5, g6⟩ := and_e g4
  obtain ⟨g7, g8⟩ := and_e g6
  obtain ⟨g9, g10⟩ := and_e g8
  obtain ⟨w0, w1, w2, w3, w4, rfl⟩ : ∃ w0 w1 w2 w3 w4 : Value, args = #[w0, w1, w2, w3, w4] := by
    have hs : args.size = 5 := by simpa [Cond.value, given_1] using g1
    obtain ⟨L⟩ := args
    match L, hs with
    | [w0, w1, w2, w3, w4], _ => exact ⟨w0, w1, w2, w3, w4, rfl⟩
  have hw := fun d (hd : d ∈ tables_1) => atoms_spec (ws := Jvm.Cond.code x code maxLocals ret :: tables_1) hat d (List.mem_cons_of_mem _ hd)
  obtain ⟨i0, ei0⟩ := is_v g3
  obtain rfl : w0 = (.int i0) := Option.some.inj ei0
  obtain ⟨i1, ei1⟩ := is_v g5
  obtain rfl : w1 = (.int i1) := Option.some.inj ei1
  obtain ⟨i2, ei2⟩ := is_v g7
  obtain rfl : w2 = (.int i2) := Option.some.inj ei2
  obtain ⟨i3, ei3⟩ := is_v g9
  obtain rfl : w3 = (.int i3) := Option.some.inj ei3
  obtain ⟨i4, ei4⟩ := is_v g10
  obtain rfl : w4 = (.int i4) := Option.some.inj ei4
  obtain ⟨n, o, h1, h2, h3, _, L, rfl, ⟨rfl, N⟩, hq⟩ := rm0 l s _ hw tables_1 i0 i1 i2 i3 i4  s.heap s.heap.size (Nat.le_refl _) p e ha hc hk s m _ below hf ((Spec.applies_iff_loose hf).mp happ).1 ⟨rfl, State.Warmed39.refl s, rfl⟩ trivial
  refine ⟨n, _, h1, h2, h3, hpost _ _ _ _ _ _ ⟨Cond.after_iff.mpr rfl, Cond.after_iff.mpr (eq_i res_at (Term.int_eval (1)) rfl), trivial⟩ ⟨hq.1, hq.2.1, (hq.2.2.sift fun y hy => Or.inr (N y hy)).mono (by decide) (by decide)⟩⟩
theorem main_1_1 : Claimed_1_1 := comes_1 fun _ _ _ _ _ _ h hF => ⟨h.1, hF⟩
theorem main_1_2 : Claimed_1_2 := comes_1 fun _ _ _ _ _ _ h hF => ⟨h.2.1, hF⟩
end Jvm.Pilot.@@N@@
namespace Jvm.Pilot.@@N@@
open Jvm Jvm.ClassFile Sem Op Lib Jvm.Free Jvm.Stand Jvm.Pilot.@@N@@.Jvm.D
/-! MADE BY PROGRAM (witnessworld.py) out of the Statement's table words and the real class files: 9 classes; the members and pool entries that the words name. The judged class is class 1, her method 2. -/
namespace start1
open Jvm.ClassFile
def u (s : String) : CpInfo := .utf8 (stringToUtf16 s)
/-- a pool by its gaps: so many unusable entries, then the entry; so many at the end -/
def gap : Nat → List CpInfo → List CpInfo
  | 0, r => r
  | n + 1, r => .unusable :: gap n r
def poolList (es : List (Nat × CpInfo)) (last : Nat) : List CpInfo := es.foldr (fun e r => gap e.1 (e.2 :: r)) (gap last [])
def pool (es : List (Nat × CpInfo)) (last : Nat) : Array CpInfo := ⟨poolList es last⟩
def fileOf (pool : Array CpInfo) (this : Nat) (attrs : Array Attribute := #[]) (ms : Array MethodInfo := #[]) (fl : Nat := 33) (sup : Nat := 0) (ifs : Array Nat := #[]) (fds : Array FieldInfo := #[]) : ClassFile where
  minorVersion := 0
  majorVersion := 65
  constantPool := pool
  accessFlags := fl
  thisClass := this
  superClass := sup
  interfaces := ifs
  fields := fds
  methods := ms
  attributes := attrs
def plain (name : String) (sup : Option ClassId) : Class where
  name := name
  kind := .ordinary
  loader := none
  accessFlags := 33
  super := sup
  interfaces := #[]
  cf := none
  fields := #[]
  methods := #[]
  instanceTypes := #[]
  staticTypes := #[]
  resolved := #[]
  callSites := []
  init := .initialized
  statics := none
  mirror := none

def pool0 : Array CpInfo := pool [(5, u "<init>"), (0, u "()V"), (1, .class_ 10), (1, u "java/lang/Object")] 113

def k0m0 : Method := { name := "<init>", desc := "()V", sig := { parameters := [], returnType := none }, accessFlags := 1, code := none }
/-- java/lang/Object -/
def k0 : Class := { plain "java/lang/Object" none with
  accessFlags := 33
  interfaces := #[]
  cf := some (fileOf pool0 8 #[] #[{ accessFlags := 1, nameIndex := 5, descriptorIndex := 6, attributes := #[] }] 33 0 #[] #[])
  fields := #[]
  methods := #[k0m0]
  instanceTypes := #[]
  staticTypes := #[]
  resolved := Array.replicate 124 none
  statics := none }

def pool1 : Array CpInfo := pool [(2, .class_ 4), (1, u "java/lang/Object"), (0, u "<init>"), (0, u "()V"), (0, .integer 2147483647), (0, .integer 134217729), (0, .methodref 10 11), (0, .class_ 12), (0, .nameAndType 13 14), (0, u "com/example/epitome/epitome/cube/CubeCellsProductPinLaw"), (0, u "size"), (0, u "(I)I"), (0, .methodref 16 17), (0, .class_ 18), (0, .nameAndType 19 20), (0, u "com/example/epitome/epitome/cube/CubeCells"), (0, u "product"), (0, u "([I)J"), (2, u "law"), (0, u "(IIIII)Z")] 5

def k1m0 : Method := { name := "<init>", desc := "()V", sig := { parameters := [], returnType := none }, accessFlags := 1, code := none }
def k1c1 : Code := { maxStack := 2, maxLocals := 1, code := method_2_code, exceptionTable := #[], attributes := #[] }
def k1m1 : Method := { name := "size", desc := "(I)I", sig := { parameters := [.int], returnType := some .int }, accessFlags := 10, code := some k1c1 }
def k1c2 : Code := { maxStack := 4, maxLocals := 13, code := code, exceptionTable := #[], attributes := #[] }
def k1m2 : Method := { name := "law", desc := "(IIIII)Z", sig := { parameters := [.int, .int, .int, .int, .int], returnType := some .boolean }, accessFlags := 9, code := some k1c2 }
/-- com/example/epitome/epitome/cube/CubeCellsProductPinLaw -/
def k1 : Class := { plain "com/example/epitome/epitome/cube/CubeCellsProductPinLaw" (some 0) with
  accessFlags := 49
  interfaces := #[]
  cf := some (fileOf pool1 10 #[] #[{ accessFlags := 1, nameIndex := 5, descriptorIndex := 6, attributes := #[] }, { accessFlags := 10, nameIndex := 13, descriptorIndex := 14, attributes := #[] }, { accessFlags := 9, nameIndex := 23, descriptorIndex := 24, attributes := #[] }] 49 2 #[] #[])
  fields := #[]
  methods := #[k1m0, k1m1, k1m2]
  instanceTypes := #[]
  staticTypes := #[]
  resolved := Array.replicate 30 none
  statics := none }

def pool2 : Array CpInfo := pool [(1, .class_ 2), (0, u "com/example/epitome/epitome/cube/CubeCells"), (7, .class_ 12), (1, u "java/lang/Object"), (12, u "maxCells"), (0, u "J"), (2, u "fixed"), (0, u "Z"), (2, u "sizes"), (0, u "[I"), (2, u "capacity"), (7, u "cells"), (0, u "Lcom/example/epitome/epitome/cube/CellArray;"), (41, u "positive"), (6, u "negative"), (44, u "product"), (0, u "([I)J"), (25, u "MAX_CELLS")] 47

def k2c0 : Code := { maxStack := 4, maxLocals := 7, code := prog_14_method_19_code, exceptionTable := #[], attributes := #[] }
def k2m0 : Method := { name := "product", desc := "([I)J", sig := { parameters := [(.array .int)], returnType := some .long }, accessFlags := 8, code := some k2c0 }
/-- com/example/epitome/epitome/cube/CubeCells -/
def k2 : Class := { plain "com/example/epitome/epitome/cube/CubeCells" (some 0) with
  accessFlags := 49
  interfaces := #[]
  cf := some (fileOf pool2 1 #[] #[{ accessFlags := 8, nameIndex := 140, descriptorIndex := 141, attributes := #[] }] 49 10 #[] #[{ accessFlags := 25, nameIndex := 167, descriptorIndex := 26, attributes := #[] }, { accessFlags := 18, nameIndex := 25, descriptorIndex := 26, attributes := #[] }, { accessFlags := 18, nameIndex := 29, descriptorIndex := 30, attributes := #[] }, { accessFlags := 18, nameIndex := 33, descriptorIndex := 34, attributes := #[] }, { accessFlags := 2, nameIndex := 37, descriptorIndex := 34, attributes := #[] }, { accessFlags := 2, nameIndex := 45, descriptorIndex := 46, attributes := #[] }, { accessFlags := 2, nameIndex := 88, descriptorIndex := 26, attributes := #[] }, { accessFlags := 2, nameIndex := 95, descriptorIndex := 26, attributes := #[] }])
  fields := #[{ name := "MAX_CELLS", type := .long, accessFlags := 25, slot := 0, constantValue := 0 }, { name := "maxCells", type := .long, accessFlags := 18, slot := 0, constantValue := 0 }, { name := "fixed", type := .boolean, accessFlags := 18, slot := 1, constantValue := 0 }, { name := "sizes", type := (.array .int), accessFlags := 18, slot := 2, constantValue := 0 }, { name := "capacity", type := (.array .int), accessFlags := 2, slot := 3, constantValue := 0 }, { name := "cells", type := (.object "com/example/epitome/epitome/cube/CellArray"), accessFlags := 2, slot := 4, constantValue := 0 }, { name := "positive", type := .long, accessFlags := 2, slot := 5, constantValue := 0 }, { name := "negative", type := .long, accessFlags := 2, slot := 6, constantValue := 0 }]
  methods := #[k2m0]
  instanceTypes := #[.long, .boolean, (.array .int), (.array .int), (.object "com/example/epitome/epitome/cube/CellArray"), .long, .long]
  staticTypes := #[.long]
  resolved := Array.replicate 215 none
  statics := none }

def pool3 : Array CpInfo := pool [(1, u "java/lang/Cloneable"), (0, .class_ 1), (0, u "java/lang/Object"), (0, .class_ 3)] 3

/-- java/lang/Cloneable -/
def k3 : Class := { plain "java/lang/Cloneable" (some 0) with
  accessFlags := 1537
  interfaces := #[]
  cf := some (fileOf pool3 2 #[] #[] 1537 4 #[] #[])
  fields := #[]
  methods := #[]
  instanceTypes := #[]
  staticTypes := #[]
  resolved := Array.replicate 8 none
  statics := none }

def pool4 : Array CpInfo := pool [(1, u "java/io/Serializable"), (0, .class_ 1), (0, u "java/lang/Object"), (0, .class_ 3)] 3

/-- java/io/Serializable -/
def k4 : Class := { plain "java/io/Serializable" (some 0) with
  accessFlags := 1537
  interfaces := #[]
  cf := some (fileOf pool4 2 #[] #[] 1537 4 #[] #[])
  fields := #[]
  methods := #[]
  instanceTypes := #[]
  staticTypes := #[]
  resolved := Array.replicate 8 none
  statics := none }

/-- the primitive byte -/
def k5 : Class := { plain "byte" none with kind := .primitive 'B', accessFlags := 0x411 }
/-- [B -/
def k6 : Class := { plain "[B" (some 0) with kind := .array 5 .byte, interfaces := #[3, 4], accessFlags := 1041 }

/-- the primitive int -/
def k7 : Class := { plain "int" none with kind := .primitive 'I', accessFlags := 0x411 }
/-- [I -/
def k8 : Class := { plain "[I" (some 0) with kind := .array 7 .int, interfaces := #[3, 4], accessFlags := 1041 }

def heap : Heap := #[]
def classes : Array Class := #[k0, k1, k2, k3, k4, k5, k6, k7, k8]
def interned : List (Array UInt16 × Addr) := []
def slotsUsed : Nat := 0
def theMethod : MethodId := ⟨1, 2⟩
def args0 : Array Value := #[.int 5, .int 5, .int 5, .int 5, .int 5]
def aboutOver (below : List Frame) : State where
  vm := { classes := classes, interned := interned.toArray }
  heap := heap
  slotsUsed := slotsUsed
  threads := #[{ frames := .invoking theMethod args0 :: below }]
def below0 : List Frame := [.native { method := ⟨0, 0⟩, args := #[] }]
def about1 : State := aboutOver below0
def p0 : Program := .bare "" "" ""
def e0 : Env := launch0.env 0 0 0
theorem w_frames : about1.frames = Frame.invoking theMethod args0 :: below0 := rfl
set_option maxRecDepth 65536 in
theorem w_args : argsFit about1.vm theMethod args0 = true := by decide +kernel
set_option maxRecDepth 65536 in
theorem w_heap : heapFits about1 = true := by decide +kernel
set_option maxRecDepth 65536 in
theorem w_runnable : about1.curStatus? = some .runnable := by decide +kernel
set_option maxRecDepth 65536 in
theorem w_alone : about1.alone = true := by decide +kernel
set_option maxRecDepth 65536 in
theorem w_named : about1.methodNamed? x = some theMethod := by decide +kernel
set_option maxRecDepth 65536 in
theorem w_hears : about1.hears theMethod below0 = true := by decide +kernel
set_option maxRecDepth 65536 in
theorem w_ripe : about1.ripe theMethod args0 below0 = true := by decide +kernel
theorem w_running : about1.status = .running := rfl
set_option maxRecDepth 65536 in
theorem w_room : about1.hasRoom e0.platform room_1 = true :=
  launch0.hasRoom_least _ room_1 (by decide +kernel) (by decide +kernel) (by decide +kernel) (by decide +kernel) (by decide +kernel) (by decide +kernel)
theorem allAtoms_all (ts : List Jvm.Cond) (a : Array Jvm.Value) (st : Jvm.State) : (allAtoms ts).before a st = ts.all (fun c => c.before a st) := by
  induction ts with
  | nil => rfl
  | cons c t ih =>
    show (Jvm.Cond.and c (allAtoms t)).before a st = _
    rw [Jvm.Cond.before_and, ih, List.all_cons]
def words1 : List Jvm.Cond := Jvm.Cond.code x code maxLocals ret :: tables_1
/-- a 'code' word, met by the world's own term for the bytes: nothing is compared byte by byte -/
theorem code_word {y : MethodName} {bytes : ByteArray} {mx : Nat} {rt : Option FieldType} {a : Array Value} {s : State} {m : MethodId} {meth : Method} {c : Code} (h1 : s.methodNamed? y = some m) (h2 : s.vm.method? m = some meth) (h3 : meth.code = some c) (h4 : c.code = bytes)
    (h5 : (c.maxLocals == mx && c.exceptionTable.isEmpty && decide (c.maxStack ≤ mostOperands) && decide (meth.sig.returnType = rt) && !meth.locks && decide (parseMethodDescriptor y.desc = some meth.sig)) = true) : (Jvm.Cond.code y bytes mx rt).before a s = true := by
  simp only [Bool.and_eq_true, beq_iff_eq, Bool.not_eq_true', decide_eq_true_eq] at h5
  obtain ⟨⟨⟨⟨⟨g1, g2⟩, g3⟩, g4⟩, g5⟩, g6⟩ := h5
  simp [Cond.before, Cond.holds, Cond.value, h1, h2, h3, h4, g1, g2, g3, g4, g5, g6]
def isCode : Jvm.Cond → Bool
  | .code _ _ _ _ => true
  | _ => false
theorem all_split {L : List Jvm.Cond} {P : Jvm.Cond → Bool} (h1 : L.all (fun c => isCode c || P c) = true) (h2 : ∀ c ∈ L.filter isCode, P c = true) : L.all P = true := by
  refine List.all_eq_true.mpr fun c hc => ?_
  have h := List.all_eq_true.mp h1 c hc
  rcases Bool.eq_false_or_eq_true (isCode c) with hi | hi
  · exact h2 c (List.mem_filter.mpr ⟨hc, hi⟩)
  · simpa [hi] using h
set_option maxRecDepth 65536 in
theorem w_c0 : (Jvm.Cond.code x code maxLocals ret).before args0 about1 = true := code_word (m := ⟨1, 2⟩) (meth := k1m2) (c := k1c2) (by decide +kernel) rfl rfl rfl (by decide +kernel)
set_option maxRecDepth 65536 in
theorem w_c1 : (Jvm.Cond.code ({ cls := "com/example/epitome/epitome/cube/CubeCellsProductPinLaw", name := "size", desc := "(I)I" } : Jvm.MethodName) method_2_code (1 : Nat) (Option.some Jvm.ClassFile.FieldType.int)).before args0 about1 = true := code_word (m := ⟨1, 1⟩) (meth := k1m1) (c := k1c1) (by decide +kernel) rfl rfl rfl (by decide +kernel)
set_option maxRecDepth 65536 in
theorem w_c2 : (Jvm.Cond.code ({ cls := "com/example/epitome/epitome/cube/CubeCells", name := "product", desc := "([I)J" } : Jvm.MethodName) prog_14_method_19_code (7 : Nat) (Option.some Jvm.ClassFile.FieldType.long)).before args0 about1 = true := code_word (m := ⟨2, 0⟩) (meth := k2m0) (c := k2c0) (by decide +kernel) rfl rfl rfl (by decide +kernel)
def codes1 : List Jvm.Cond := [Jvm.Cond.code x code maxLocals ret, Jvm.Cond.code ({ cls := "com/example/epitome/epitome/cube/CubeCellsProductPinLaw", name := "size", desc := "(I)I" } : Jvm.MethodName) method_2_code (1 : Nat) (Option.some Jvm.ClassFile.FieldType.int), Jvm.Cond.code ({ cls := "com/example/epitome/epitome/cube/CubeCells", name := "product", desc := "([I)J" } : Jvm.MethodName) prog_14_method_19_code (7 : Nat) (Option.some Jvm.ClassFile.FieldType.long)]
set_option maxRecDepth 65536 in
theorem codes_eq : words1.filter isCode = codes1 := rfl
theorem w_codes : ∀ c ∈ words1.filter isCode, c.before args0 about1 = true := by
  rw [codes_eq]
  intro c hc
  simp only [codes1, List.mem_cons, List.not_mem_nil, or_false] at hc
  rcases hc with rfl | rfl | rfl
  · exact w_c0
  · exact w_c1
  · exact w_c2
set_option maxRecDepth 65536 in
theorem w_t1 : words1.all (fun c => isCode c || c.before args0 about1) = true := by decide +kernel
theorem w_tables : (allAtoms (Jvm.Cond.code x code maxLocals ret :: tables_1)).before args0 about1 = true := by
  rw [allAtoms_all]
  show words1.all (fun c => c.before args0 about1) = true
  refine all_split ?_ w_codes
  rw [w_t1]
set_option maxRecDepth 65536 in
theorem w_case : (Jvm.Cond.and given_1 narrow_1).before args0 about1 = true := by decide +kernel
theorem w_applies : (headSpec (Jvm.Cond.code x code maxLocals ret :: tables_1) room_1).applies x e0.platform about1 = true :=
  (Spec.applies_iff w_frames).mpr ⟨w_running, w_runnable, w_alone, w_named, w_hears, w_ripe, w_room, w_tables⟩
theorem atStart : AtStart classFile x code maxLocals ret World_1 tables_1 room_1 Calls_1 rest_1 Pre_1 launch0 p0 e0 about1 theMethod args0 below0 :=
  ⟨lists_1, trivial, launch0.admits_env _ _ _, launch0.least_env, fairChoices_fair.cas, fairChoices_fair.clock, w_frames, w_args, w_heap, w_applies, trivial, trivial, w_case⟩
end start1
theorem witness_1 : WitnessClaimed_1 := ⟨start1.p0, start1.e0, start1.about1, start1.theMethod, start1.args0, start1.below0, start1.atStart⟩
end Jvm.Pilot.@@N@@
