import JvmDerived
import JvmDerived.Pilot.@@N@@Statement
import JvmDerived.Pilot.@@N@@Code
set_option linter.unusedVariables false
set_option linter.unusedSimpArgs false
namespace Jvm.RoadKit
open Sem ClassFile Op Lib Jvm.Stand Jvm.Free Jvm.LawKit
section New
variable {p : Program} {l : Launch} {e : Env} {R : Room} {s : State} {m : MethodId} {args : Array Value} {below : List Frame} {meth : Method} {c : Code} {T : State} {locs : List Loc} {cells slots : Nat}
theorem retI (X : Stand p l e R s m args below meth c T locs cells slots) (hx : p.tables.exec = Jvm.exec) {pc : Nat} {Ls : Array Slot} {z : Int32} {rest : List Value} (hret : meth.sig.returnType = some .int) (hd : decode c.code pc = .ok (.ireturn, 1)) {fs : List Frame}
    (hl : ∀ (f : JFrame) (acts : List Action), f.method = m → f.locked = none → f.entered = [] → (doReturn e (T.setTop f) acts (some (.int z))).1 = T.setFrames fs) : Steps p.tables e below (T.setTop (mkF m pc Ls (.int z :: rest))) (T.setFrames fs) := by
  have hm' : T.vm.method? m = some meth := X.method'
  have hn : narrow .int (.int z) = .int z := rfl
  show Steps p.tables e below (T.setTop { method := m, pc := pc, locals := Ls, stack := _ :: rest, locked := none }) _
  jvm_step X.here [X.here.top, hx, hd, hm', hret, hn]
  first | (intro acts; rw [hl _ acts rfl rfl rfl]) | rw [hl _ _ rfl rfl rfl]
  exact Steps.refl _
theorem own_lrem {target : State} (X : Stand p l e R s m args below meth c T locs cells slots) (hx : p.tables.exec = Jvm.exec) {g : JFrame} (hg : g.method = m) {x y : Int64} {rest : List Value} (hd : decode c.code g.pc = .ok (.lrem, 1)) (hs : g.stack = .long y :: .long x :: rest) (hy : y ≠ 0)
    (hr : Steps p.tables e below (T.setTop { g with pc := g.pc + 1, stack := .long (x % y) :: rest }) target) : Steps p.tables e below (T.setTop g) target :=
  XS.lrem X.here hx hg hd hs hy (by rw [lrem_mod]; exact hr)
theorem own_retJ (Y : Stand p l e R s m args below meth c T locs cells slots) (hexec : p.tables.exec = Jvm.exec) {pc : Nat} {Ls : Array Slot} {w : Int64} (hret : meth.sig.returnType = some .long)
    (hdg : decode c.code pc = .ok (.lreturn, 1)) {fs : List Frame} (hleave : ∀ (f : JFrame) (acts : List Action), f.method = m → f.locked = none → f.entered = [] → (doReturn e (T.setTop f) acts (some (.long w))).1 = T.setFrames fs) :
    Steps p.tables e below (T.setTop (mkF m pc Ls [.long w])) (T.setFrames fs) := Y.lreturnOut hexec hret hdg hleave
theorem own_retR (X : Stand p l e R s m args below meth c T locs cells slots) (hx : p.tables.exec = Jvm.exec) {pc : Nat} {Ls : Array Slot} {w : Value} {t : FieldType} {rest : List Value} (hret : meth.sig.returnType = some t) (hn : narrow t w = w) (ht : t.isReference = true) (hw : w.isRef = true)
    (hd : decode c.code pc = .ok (.areturn, 1)) {fs : List Frame} (hl : ∀ (f : JFrame) (acts : List Action), f.method = m → f.locked = none → f.entered = [] → (doReturn e (T.setTop f) acts (some w)).1 = T.setFrames fs) :
    Steps p.tables e below (T.setTop (mkF m pc Ls (w :: rest))) (T.setFrames fs) := retOut X hx hret hn (Or.inr (Or.inr (Or.inr (Or.inr ⟨rfl, ht, hw⟩)))) hd hl
theorem own_via {tb : Tables} {s0 target : State} (s' : State) (h : Steps tb e below s' target → Steps tb e below s0 target) (k : Steps tb e below s' target) : Steps tb e below s0 target := h k
end New
end Jvm.RoadKit
namespace Jvm.Pilot.@@N@@
open Jvm Jvm.ClassFile Sem Op Lib Jvm.Free Jvm.Stand Jvm.LawKit Jvm.RoadKit Bundle Jvm.Pilot.@@N@@.Jvm.D
theorem d5_0 : decode jdk_29_method_69_code 0 = .ok (.iload_n 0, 1) := by decide +kernel
theorem d5_1 : decode jdk_29_method_69_code 1 = .ok (.iload_n 1, 1) := by decide +kernel
theorem d5_2 : decode jdk_29_method_69_code 2 = .ok (.if_icmp .gt 7, 3) := by decide +kernel
theorem d5_5 : decode jdk_29_method_69_code 5 = .ok (.iload_n 0, 1) := by decide +kernel
theorem d5_6 : decode jdk_29_method_69_code 6 = .ok (.goto 4, 3) := by decide +kernel
theorem d5_9 : decode jdk_29_method_69_code 9 = .ok (.iload_n 1, 1) := by decide +kernel
theorem d5_10 : decode jdk_29_method_69_code 10 = .ok (.ireturn, 1) := by decide +kernel
theorem ef_rm5 (m : MethodId) (p0 : Int32) (p1 : Int32) : entryFrame m #[(.int p0), (.int p1)] 2 = mkF m 0 #[.val (.int p0), .val (.int p1)] [] := by first | (simp [entryFrame, mkF, argsToLocals, Value.category]; done) | rfl
def Qrm5 (Z : State) (p0 : Int32) (p1 : Int32) (h0 : Heap) (n0 : Nat) (v : Option Value) (h : Heap) (L : List Loc) : Prop := v = some (.int (if p1 < p0 then p1 else p0)) ∧ Fr n0 L ∧ h = h0
set_option maxRecDepth 65536 in
set_option maxHeartbeats 40000000 in
theorem rm5 (l : Launch) (Z : State) (A0 : Array Value) (hw : ∀ d ∈ tables_1, d.before A0 Z = true) (ws : List Jvm.Cond) (p0 : Int32) (p1 : Int32) (h0 : Heap) (n0 : Nat) (Z0 : n0 ≤ h0.size) :
    MetFree l (⟨"java/lang/Math", "min", "(II)I"⟩ : MethodName) (head1 (Jvm.Cond.code (⟨"java/lang/Math", "min", "(II)I"⟩ : MethodName) jdk_29_method_69_code 2 (some .int) :: ws) ({ frames := 0, cells := 0, slots := 0, locals := 0 } : Room)) (fun a U => a = #[(.int p0), (.int p1)] ∧ Z.Warmed39 U.vm ∧ U.heap = h0) (fun _ _ _ _ _ => True) (fun _ U o U' => ∃ v L, o = .returned v ∧ Qrm5 Z p0 p1 h0 n0 v U'.heap L ∧ FrameEnd U o U' L ({ frames := 0, cells := 0, slots := 0, locals := 0 } : Room).cells ({ frames := 0, cells := 0, slots := 0, locals := 0 } : Room).slots) := by
  refine MetFree.of_bodySF (Jvm.Free.JP.mathPlain rfl (by decide +kernel)) hisR ?_
  intro p e s m args below meth c s₁ Bd hml0 hP hK
  obtain ⟨rfl, hZ, hh⟩ := hP
  have hx := Bd.exec
  have hby := Bd.bytes
  have hml : c.maxLocals = 2 := hml0
  have hown : s.vm.findClass "java/lang/Math" = some m.cls := findClass_of_methodNamed Bd.named
  have hnm := (name_of_methodNamed Bd.named Bd.method).1
  have X0 : Stand p l e ({ frames := 0, cells := 0, slots := 0, locals := 0 } : Room) s m #[(.int p0), (.int p1)] below meth c s₁ [] 0 0 := Stand.of_body Bd
  have e0 : s₁.heap = h0 := by rw [← hh, Bd.state]; rfl
  have N0 := Fr.nil n0
  have K0 : Keep h0 h0 [] := Keep.refl _ _
  have pre0 : ∀ t, Steps p.tables e below (s₁.setTop (mkF m 0 #[.val (.int p0), .val (.int p1)] [])) t → Steps p.tables e below (s₁.setTop (entryFrame m #[(.int p0), (.int p1)] 2)) t := fun t k => castTop (ef_rm5 m p0 p1) k
  obtain ⟨fs, hr, hrun, hended, hW, hsame⟩ := X0.leave (v := some (.int (if p1 < p0 then p1 else p0))) (fun h => by rw [Bd.returns] at h; cases h)
  refine ⟨_, _, pre0 _ ?_, hrun, hended, _, _, rfl, ?_, ⟨_, rfl⟩, hW, hsame.mono (by decide) (by decide)⟩
  · show Steps p.tables e below (s₁.setTop (mkF m 0 #[.val (.int p0), .val (.int p1)] [])) _
    refine XS.iloadN X0.here hx rfl (hb hby d5_0) rfl ?_
    show Steps p.tables e below (s₁.setTop (mkF m 1 #[.val (.int p0), .val (.int p1)] [(.int p0)])) _
    refine XS.iloadN X0.here hx rfl (hb hby d5_1) rfl ?_
    refine own_via (s₁.setTop (mkF m 10 #[.val (.int p0), .val (.int p1)] [(.int (if p1 < p0 then p1 else p0))])) (fun k => ?_) ?_
    · by_cases hc2 : p1 < p0
      · show Steps p.tables e below (s₁.setTop (mkF m 2 #[.val (.int p0), .val (.int p1)] [(.int p1), (.int p0)])) _
        refine XS.icmpYes X0.here hx rfl (pc0 := 2) (pc' := 9) rfl (hb hby d5_2) rfl (tlt hc2).2.2.1 (by decide) (by decide) ?_
        show Steps p.tables e below (s₁.setTop (mkF m 9 #[.val (.int p0), .val (.int p1)] [])) _
        refine XS.iloadN X0.here hx rfl (hb hby d5_9) rfl ?_
        try simp only [if_pos hc2] at k
        exact k
      · show Steps p.tables e below (s₁.setTop (mkF m 2 #[.val (.int p0), .val (.int p1)] [(.int p1), (.int p0)])) _
        refine XS.icmpNo X0.here hx rfl (hb hby d5_2) rfl (flt hc2).2.2.1 ?_
        show Steps p.tables e below (s₁.setTop (mkF m 5 #[.val (.int p0), .val (.int p1)] [])) _
        refine XS.iloadN X0.here hx rfl (hb hby d5_5) rfl ?_
        show Steps p.tables e below (s₁.setTop (mkF m 6 #[.val (.int p0), .val (.int p1)] [(.int p0)])) _
        refine XS.goto X0.here hx rfl (pc0 := 6) (pc' := 10) rfl (hb hby d5_6) (by decide) (by decide) ?_
        try simp only [if_neg hc2] at k
        exact k
    show Steps p.tables e below (s₁.setTop (mkF m 10 #[.val (.int p0), .val (.int p1)] [(.int (if p1 < p0 then p1 else p0))])) _
    exact retI X0 hx Bd.returns (hb hby d5_10) hr
  · show Qrm5 Z p0 p1 h0 n0 _ s₁.heap _
    rw [e0]
    exact ⟨rfl, N0, rfl⟩
theorem d6_0 : decode prog_30_method_7_code 0 = .ok (.iload_n 0, 1) := by decide +kernel
theorem d6_1 : decode prog_30_method_7_code 1 = .ok (.sipush 255, 3) := by decide +kernel
theorem d6_4 : decode prog_30_method_7_code 4 = .ok (.if_icmp .gt 7, 3) := by decide +kernel
theorem d6_7 : decode prog_30_method_7_code 7 = .ok (.iload_n 0, 1) := by decide +kernel
theorem d6_8 : decode prog_30_method_7_code 8 = .ok (.goto 5, 3) := by decide +kernel
theorem d6_11 : decode prog_30_method_7_code 11 = .ok (.bipush 63, 2) := by decide +kernel
theorem d6_13 : decode prog_30_method_7_code 13 = .ok (.i2l, 1) := by decide +kernel
theorem d6_14 : decode prog_30_method_7_code 14 = .ok (.ldc2_w 100, 3) := by decide +kernel
theorem d6_17 : decode prog_30_method_7_code 17 = .ok (.lmul, 1) := by decide +kernel
theorem d6_18 : decode prog_30_method_7_code 18 = .ok (.lreturn, 1) := by decide +kernel
theorem pn_6 : plainName "com/example/nimble_needle/nimbleneedle/algorithm/WordSieve" = true := by first | (simp [plainName, overriddenIn]; done) | decide +kernel
theorem ef_rm6 (m : MethodId) (p0 : Int32) : entryFrame m #[(.int p0)] 1 = mkF m 0 #[.val (.int p0)] [] := by first | (simp [entryFrame, mkF, argsToLocals, Value.category]; done) | rfl
def Qrm6 (Z : State) (p0 : Int32) (h0 : Heap) (n0 : Nat) (v : Option Value) (h : Heap) (L : List Loc) : Prop := v = some (.long (((if (255 : Int32) < p0 then (63 : Int32) else p0).toInt64) * (72340172838076673 : Int64))) ∧ Fr n0 L ∧ h = h0
set_option maxRecDepth 65536 in
set_option maxHeartbeats 40000000 in
theorem rm6 (l : Launch) (Z : State) (A0 : Array Value) (hw : ∀ d ∈ tables_1, d.before A0 Z = true) (ws : List Jvm.Cond) (p0 : Int32) (h0 : Heap) (n0 : Nat) (Z0 : n0 ≤ h0.size) :
    MetFree l (⟨"com/example/nimble_needle/nimbleneedle/algorithm/WordSieve", "inEveryByte", "(C)J"⟩ : MethodName) (head1 (Jvm.Cond.code (⟨"com/example/nimble_needle/nimbleneedle/algorithm/WordSieve", "inEveryByte", "(C)J"⟩ : MethodName) prog_30_method_7_code 1 (some .long) :: ws) ({ frames := 0, cells := 0, slots := 0, locals := 0 } : Room)) (fun a U => a = #[(.int p0)] ∧ Z.Warmed39 U.vm ∧ U.heap = h0) (fun _ _ _ _ _ => True) (fun _ U o U' => ∃ v L, o = .returned v ∧ Qrm6 Z p0 h0 n0 v U'.heap L ∧ FrameEnd U o U' L ({ frames := 0, cells := 0, slots := 0, locals := 0 } : Room).cells ({ frames := 0, cells := 0, slots := 0, locals := 0 } : Room).slots) := by
  refine MetFree.of_bodySF (plainFor_of_name pn_6) hisR ?_
  intro p e s m args below meth c s₁ Bd hml0 hP hK
  obtain ⟨rfl, hZ, hh⟩ := hP
  have hx := Bd.exec
  have hby := Bd.bytes
  have hml : c.maxLocals = 1 := hml0
  have hown : s.vm.findClass "com/example/nimble_needle/nimbleneedle/algorithm/WordSieve" = some m.cls := findClass_of_methodNamed Bd.named
  have hnm := (name_of_methodNamed Bd.named Bd.method).1
  have X0 : Stand p l e ({ frames := 0, cells := 0, slots := 0, locals := 0 } : Room) s m #[(.int p0)] below meth c s₁ [] 0 0 := Stand.of_body Bd
  have e0 : s₁.heap = h0 := by rw [← hh, Bd.state]; rfl
  have N0 := Fr.nil n0
  have K0 : Keep h0 h0 [] := Keep.refl _ _
  have pre0 : ∀ t, Steps p.tables e below (s₁.setTop (mkF m 0 #[.val (.int p0)] [])) t → Steps p.tables e below (s₁.setTop (entryFrame m #[(.int p0)] 1)) t := fun t k => castTop (ef_rm6 m p0) k
  obtain ⟨fs, hr, hrun, hended, hW, hsame⟩ := X0.leave (v := some (.long (((if (255 : Int32) < p0 then (63 : Int32) else p0).toInt64) * (72340172838076673 : Int64)))) (fun h => by rw [Bd.returns] at h; cases h)
  refine ⟨_, _, pre0 _ ?_, hrun, hended, _, _, rfl, ?_, ⟨_, rfl⟩, hW, hsame.mono (by decide) (by decide)⟩
  · show Steps p.tables e below (s₁.setTop (mkF m 0 #[.val (.int p0)] [])) _
    refine XS.iloadN X0.here hx rfl (hb hby d6_0) rfl ?_
    show Steps p.tables e below (s₁.setTop (mkF m 1 #[.val (.int p0)] [(.int p0)])) _
    refine XS.sipush X0.here hx rfl (hb hby d6_1) ?_
    refine own_via (s₁.setTop (mkF m 13 #[.val (.int p0)] [(.int (if (255 : Int32) < p0 then (63 : Int32) else p0))])) (fun k => ?_) ?_
    · by_cases hc4 : (255 : Int32) < p0
      · show Steps p.tables e below (s₁.setTop (mkF m 4 #[.val (.int p0)] [(.int (255 : Int32)), (.int p0)])) _
        refine XS.icmpYes X0.here hx rfl (pc0 := 4) (pc' := 11) rfl (hb hby d6_4) rfl (tlt hc4).2.2.1 (by decide) (by decide) ?_
        show Steps p.tables e below (s₁.setTop (mkF m 11 #[.val (.int p0)] [])) _
        refine XS.bipush X0.here hx rfl (hb hby d6_11) ?_
        try simp only [if_pos hc4] at k
        exact k
      · show Steps p.tables e below (s₁.setTop (mkF m 4 #[.val (.int p0)] [(.int (255 : Int32)), (.int p0)])) _
        refine XS.icmpNo X0.here hx rfl (hb hby d6_4) rfl (flt hc4).2.2.1 ?_
        show Steps p.tables e below (s₁.setTop (mkF m 7 #[.val (.int p0)] [])) _
        refine XS.iloadN X0.here hx rfl (hb hby d6_7) rfl ?_
        show Steps p.tables e below (s₁.setTop (mkF m 8 #[.val (.int p0)] [(.int p0)])) _
        refine XS.goto X0.here hx rfl (pc0 := 8) (pc' := 13) rfl (hb hby d6_8) (by decide) (by decide) ?_
        try simp only [if_neg hc4] at k
        exact k
    show Steps p.tables e below (s₁.setTop (mkF m 13 #[.val (.int p0)] [(.int (if (255 : Int32) < p0 then (63 : Int32) else p0))])) _
    refine XS.i2l X0.here hx rfl (hb hby d6_13) rfl ?_
    show Steps p.tables e below (s₁.setTop (mkF m 14 #[.val (.int p0)] [(.long ((if (255 : Int32) < p0 then (63 : Int32) else p0).toInt64))])) _
    refine X0.ldc2Long hx hown (mvT hZ (hw _ (List.mem_of_getElem? (i := 45) rfl))) (g := (mkF m 14 #[.val (.int p0)] [(.long ((if (255 : Int32) < p0 then (63 : Int32) else p0).toInt64))])) rfl (hb hby d6_14) _ ?_
    show Steps p.tables e below (s₁.setTop (mkF m 17 #[.val (.int p0)] [(.long (72340172838076673 : Int64)), (.long ((if (255 : Int32) < p0 then (63 : Int32) else p0).toInt64))])) _
    refine XS.lmul X0.here hx rfl (hb hby d6_17) rfl ?_
    show Steps p.tables e below (s₁.setTop (mkF m 18 #[.val (.int p0)] [(.long (((if (255 : Int32) < p0 then (63 : Int32) else p0).toInt64) * (72340172838076673 : Int64)))])) _
    exact own_retJ X0 hx Bd.returns (hb hby d6_18) hr
  · show Qrm6 Z p0 h0 n0 _ s₁.heap _
    rw [e0]
    exact ⟨rfl, N0, rfl⟩
theorem d7_0 : decode jdk_29_method_65_code 0 = .ok (.iload_n 0, 1) := by decide +kernel
theorem d7_1 : decode jdk_29_method_65_code 1 = .ok (.iload_n 1, 1) := by decide +kernel
theorem d7_2 : decode jdk_29_method_65_code 2 = .ok (.if_icmp .lt 7, 3) := by decide +kernel
theorem d7_5 : decode jdk_29_method_65_code 5 = .ok (.iload_n 0, 1) := by decide +kernel
theorem d7_6 : decode jdk_29_method_65_code 6 = .ok (.goto 4, 3) := by decide +kernel
theorem d7_9 : decode jdk_29_method_65_code 9 = .ok (.iload_n 1, 1) := by decide +kernel
theorem d7_10 : decode jdk_29_method_65_code 10 = .ok (.ireturn, 1) := by decide +kernel
theorem ef_rm7 (m : MethodId) (p0 : Int32) (p1 : Int32) : entryFrame m #[(.int p0), (.int p1)] 2 = mkF m 0 #[.val (.int p0), .val (.int p1)] [] := by first | (simp [entryFrame, mkF, argsToLocals, Value.category]; done) | rfl
def Qrm7 (Z : State) (p0 : Int32) (p1 : Int32) (h0 : Heap) (n0 : Nat) (v : Option Value) (h : Heap) (L : List Loc) : Prop := v = some (.int (if p0 < p1 then p1 else p0)) ∧ Fr n0 L ∧ h = h0
set_option maxRecDepth 65536 in
set_option maxHeartbeats 40000000 in
theorem rm7 (l : Launch) (Z : State) (A0 : Array Value) (hw : ∀ d ∈ tables_1, d.before A0 Z = true) (ws : List Jvm.Cond) (p0 : Int32) (p1 : Int32) (h0 : Heap) (n0 : Nat) (Z0 : n0 ≤ h0.size) :
    MetFree l (⟨"java/lang/Math", "max", "(II)I"⟩ : MethodName) (head1 (Jvm.Cond.code (⟨"java/lang/Math", "max", "(II)I"⟩ : MethodName) jdk_29_method_65_code 2 (some .int) :: ws) ({ frames := 0, cells := 0, slots := 0, locals := 0 } : Room)) (fun a U => a = #[(.int p0), (.int p1)] ∧ Z.Warmed39 U.vm ∧ U.heap = h0) (fun _ _ _ _ _ => True) (fun _ U o U' => ∃ v L, o = .returned v ∧ Qrm7 Z p0 p1 h0 n0 v U'.heap L ∧ FrameEnd U o U' L ({ frames := 0, cells := 0, slots := 0, locals := 0 } : Room).cells ({ frames := 0, cells := 0, slots := 0, locals := 0 } : Room).slots) := by
  refine MetFree.of_bodySF (Jvm.Free.JP.mathPlain rfl (by decide +kernel)) hisR ?_
  intro p e s m args below meth c s₁ Bd hml0 hP hK
  obtain ⟨rfl, hZ, hh⟩ := hP
  have hx := Bd.exec
  have hby := Bd.bytes
  have hml : c.maxLocals = 2 := hml0
  have hown : s.vm.findClass "java/lang/Math" = some m.cls := findClass_of_methodNamed Bd.named
  have hnm := (name_of_methodNamed Bd.named Bd.method).1
  have X0 : Stand p l e ({ frames := 0, cells := 0, slots := 0, locals := 0 } : Room) s m #[(.int p0), (.int p1)] below meth c s₁ [] 0 0 := Stand.of_body Bd
  have e0 : s₁.heap = h0 := by rw [← hh, Bd.state]; rfl
  have N0 := Fr.nil n0
  have K0 : Keep h0 h0 [] := Keep.refl _ _
  have pre0 : ∀ t, Steps p.tables e below (s₁.setTop (mkF m 0 #[.val (.int p0), .val (.int p1)] [])) t → Steps p.tables e below (s₁.setTop (entryFrame m #[(.int p0), (.int p1)] 2)) t := fun t k => castTop (ef_rm7 m p0 p1) k
  obtain ⟨fs, hr, hrun, hended, hW, hsame⟩ := X0.leave (v := some (.int (if p0 < p1 then p1 else p0))) (fun h => by rw [Bd.returns] at h; cases h)
  refine ⟨_, _, pre0 _ ?_, hrun, hended, _, _, rfl, ?_, ⟨_, rfl⟩, hW, hsame.mono (by decide) (by decide)⟩
  · show Steps p.tables e below (s₁.setTop (mkF m 0 #[.val (.int p0), .val (.int p1)] [])) _
    refine XS.iloadN X0.here hx rfl (hb hby d7_0) rfl ?_
    show Steps p.tables e below (s₁.setTop (mkF m 1 #[.val (.int p0), .val (.int p1)] [(.int p0)])) _
    refine XS.iloadN X0.here hx rfl (hb hby d7_1) rfl ?_
    refine own_via (s₁.setTop (mkF m 10 #[.val (.int p0), .val (.int p1)] [(.int (if p0 < p1 then p1 else p0))])) (fun k => ?_) ?_
    · by_cases hc2 : p0 < p1
      · show Steps p.tables e below (s₁.setTop (mkF m 2 #[.val (.int p0), .val (.int p1)] [(.int p1), (.int p0)])) _
        refine XS.icmpYes X0.here hx rfl (pc0 := 2) (pc' := 9) rfl (hb hby d7_2) rfl (tlt hc2).1 (by decide) (by decide) ?_
        show Steps p.tables e below (s₁.setTop (mkF m 9 #[.val (.int p0), .val (.int p1)] [])) _
        refine XS.iloadN X0.here hx rfl (hb hby d7_9) rfl ?_
        try simp only [if_pos hc2] at k
        exact k
      · show Steps p.tables e below (s₁.setTop (mkF m 2 #[.val (.int p0), .val (.int p1)] [(.int p1), (.int p0)])) _
        refine XS.icmpNo X0.here hx rfl (hb hby d7_2) rfl (flt hc2).1 ?_
        show Steps p.tables e below (s₁.setTop (mkF m 5 #[.val (.int p0), .val (.int p1)] [])) _
        refine XS.iloadN X0.here hx rfl (hb hby d7_5) rfl ?_
        show Steps p.tables e below (s₁.setTop (mkF m 6 #[.val (.int p0), .val (.int p1)] [(.int p0)])) _
        refine XS.goto X0.here hx rfl (pc0 := 6) (pc' := 10) rfl (hb hby d7_6) (by decide) (by decide) ?_
        try simp only [if_neg hc2] at k
        exact k
    show Steps p.tables e below (s₁.setTop (mkF m 10 #[.val (.int p0), .val (.int p1)] [(.int (if p0 < p1 then p1 else p0))])) _
    exact retI X0 hx Bd.returns (hb hby d7_10) hr
  · show Qrm7 Z p0 p1 h0 n0 _ s₁.heap _
    rw [e0]
    exact ⟨rfl, N0, rfl⟩
theorem d8_0 : decode prog_30_method_11_code 0 = .ok (.iload_n 1, 1) := by decide +kernel
theorem d8_1 : decode prog_30_method_11_code 1 = .ok (.aload_n 0, 1) := by decide +kernel
theorem d8_2 : decode prog_30_method_11_code 2 = .ok (.getfield 12, 3) := by decide +kernel
theorem d8_5 : decode prog_30_method_11_code 5 = .ok (.isub, 1) := by decide +kernel
theorem d8_6 : decode prog_30_method_11_code 6 = .ok (.iconst 1, 1) := by decide +kernel
theorem d8_7 : decode prog_30_method_11_code 7 = .ok (.iadd, 1) := by decide +kernel
theorem d8_8 : decode prog_30_method_11_code 8 = .ok (.iload_n 2, 1) := by decide +kernel
theorem d8_9 : decode prog_30_method_11_code 9 = .ok (.isub, 1) := by decide +kernel
theorem d8_10 : decode prog_30_method_11_code 10 = .ok (.bipush 32, 2) := by decide +kernel
theorem d8_12 : decode prog_30_method_11_code 12 = .ok (.if_icmp .lt 7, 3) := by decide +kernel
theorem d8_15 : decode prog_30_method_11_code 15 = .ok (.iconst 1, 1) := by decide +kernel
theorem d8_16 : decode prog_30_method_11_code 16 = .ok (.goto 4, 3) := by decide +kernel
theorem d8_19 : decode prog_30_method_11_code 19 = .ok (.iconst 0, 1) := by decide +kernel
theorem d8_20 : decode prog_30_method_11_code 20 = .ok (.ireturn, 1) := by decide +kernel
theorem pn_8 : plainName "com/example/nimble_needle/nimbleneedle/algorithm/WordSieve" = true := by first | (simp [plainName, overriddenIn]; done) | decide +kernel
theorem ef_rm8 (m : MethodId) (a0 : Addr) (p1 : Int32) (p2 : Int32) : entryFrame m #[(.ref a0), (.int p1), (.int p2)] 3 = mkF m 0 #[.val (.ref a0), .val (.int p1), .val (.int p2)] [] := by first | (simp [entryFrame, mkF, argsToLocals, Value.category]; done) | rfl
def Qrm8 (Z : State) (a0 : Addr) (p1 : Int32) (p2 : Int32) (xx : Int32) (h0 : Heap) (n0 : Nat) (v : Option Value) (h : Heap) (L : List Loc) : Prop := v = some (.int (nar .boolean (if (((p1 - xx) + (1 : Int32)) - p2) < (32 : Int32) then (0 : Int32) else (1 : Int32)))) ∧ Fr n0 L ∧ h = h0
set_option maxRecDepth 65536 in
set_option maxHeartbeats 40000000 in
theorem rm8 (l : Launch) (Z : State) (A0 : Array Value) (hw : ∀ d ∈ tables_1, d.before A0 Z = true) (ws : List Jvm.Cond) (a0 : Addr) (p1 : Int32) (p2 : Int32) (xx : Int32) (h0 : Heap) (n0 : Nat) (Z0 : n0 ≤ h0.size) (F_length_a0 : Fld Z h0 a0 "com/example/nimble_needle/nimbleneedle/algorithm/WordSieve" "length" "I" (.int xx)) :
    MetFree l (⟨"com/example/nimble_needle/nimbleneedle/algorithm/WordSieve", "searches", "(II)Z"⟩ : MethodName) (head1 (Jvm.Cond.code (⟨"com/example/nimble_needle/nimbleneedle/algorithm/WordSieve", "searches", "(II)Z"⟩ : MethodName) prog_30_method_11_code 3 (some .boolean) :: ws) ({ frames := 0, cells := 0, slots := 0, locals := 0 } : Room)) (fun a U => a = #[(.ref a0), (.int p1), (.int p2)] ∧ Z.Warmed39 U.vm ∧ U.heap = h0) (fun _ _ _ _ _ => True) (fun _ U o U' => ∃ v L, o = .returned v ∧ Qrm8 Z a0 p1 p2 xx h0 n0 v U'.heap L ∧ FrameEnd U o U' L ({ frames := 0, cells := 0, slots := 0, locals := 0 } : Room).cells ({ frames := 0, cells := 0, slots := 0, locals := 0 } : Room).slots) := by
  refine MetFree.of_bodySF (plainFor_of_name pn_8) hisR ?_
  intro p e s m args below meth c s₁ Bd hml0 hP hK
  obtain ⟨rfl, hZ, hh⟩ := hP
  have hx := Bd.exec
  have hby := Bd.bytes
  have hml : c.maxLocals = 3 := hml0
  have hown : s.vm.findClass "com/example/nimble_needle/nimbleneedle/algorithm/WordSieve" = some m.cls := findClass_of_methodNamed Bd.named
  have hnm := (name_of_methodNamed Bd.named Bd.method).1
  have X0 : Stand p l e ({ frames := 0, cells := 0, slots := 0, locals := 0 } : Room) s m #[(.ref a0), (.int p1), (.int p2)] below meth c s₁ [] 0 0 := Stand.of_body Bd
  have e0 : s₁.heap = h0 := by rw [← hh, Bd.state]; rfl
  have N0 := Fr.nil n0
  have K0 : Keep h0 h0 [] := Keep.refl _ _
  have pre0 : ∀ t, Steps p.tables e below (s₁.setTop (mkF m 0 #[.val (.ref a0), .val (.int p1), .val (.int p2)] [])) t → Steps p.tables e below (s₁.setTop (entryFrame m #[(.ref a0), (.int p1), (.int p2)] 3)) t := fun t k => castTop (ef_rm8 m a0 p1 p2) k
  obtain ⟨T1, X1, e1, st1⟩ := getF X0 hx hZ hown (host := "") (Or.inl (hw _ (List.mem_of_getElem? (i := 18) rfl))) Via.refl e0 F_length_a0 (g := (mkF m 2 #[.val (.ref a0), .val (.int p1), .val (.int p2)] [(.ref a0), (.int p1)])) rfl rfl (hb hby d8_2)
  obtain ⟨fs, hr, hrun, hended, hW, hsame⟩ := X1.leave (v := some (.int (nar .boolean (if (((p1 - xx) + (1 : Int32)) - p2) < (32 : Int32) then (0 : Int32) else (1 : Int32))))) (fun h => by rw [Bd.returns] at h; cases h)
  refine ⟨_, _, pre0 _ ?_, hrun, hended, _, _, rfl, ?_, ⟨_, rfl⟩, hW, hsame.mono (by decide) (by decide)⟩
  · show Steps p.tables e below (s₁.setTop (mkF m 0 #[.val (.ref a0), .val (.int p1), .val (.int p2)] [])) _
    refine XS.iloadN X0.here hx rfl (hb hby d8_0) rfl ?_
    show Steps p.tables e below (s₁.setTop (mkF m 1 #[.val (.ref a0), .val (.int p1), .val (.int p2)] [(.int p1)])) _
    refine XS.aloadN X0.here hx rfl (hb hby d8_1) rfl rfl ?_
    show Steps p.tables e below (s₁.setTop (mkF m 2 #[.val (.ref a0), .val (.int p1), .val (.int p2)] [(.ref a0), (.int p1)])) _
    refine st1 _ ?_
    show Steps p.tables e below (T1.setTop (mkF m 5 #[.val (.ref a0), .val (.int p1), .val (.int p2)] [(.int xx), (.int p1)])) _
    refine XS.isub X1.here hx rfl (hb hby d8_5) rfl ?_
    show Steps p.tables e below (T1.setTop (mkF m 6 #[.val (.ref a0), .val (.int p1), .val (.int p2)] [(.int (p1 - xx))])) _
    refine XS.iconst X1.here hx rfl (hb hby d8_6) ?_
    show Steps p.tables e below (T1.setTop (mkF m 7 #[.val (.ref a0), .val (.int p1), .val (.int p2)] [(.int (1 : Int32)), (.int (p1 - xx))])) _
    refine XS.iadd X1.here hx rfl (hb hby d8_7) rfl ?_
    show Steps p.tables e below (T1.setTop (mkF m 8 #[.val (.ref a0), .val (.int p1), .val (.int p2)] [(.int ((p1 - xx) + (1 : Int32)))])) _
    refine XS.iloadN X1.here hx rfl (hb hby d8_8) rfl ?_
    show Steps p.tables e below (T1.setTop (mkF m 9 #[.val (.ref a0), .val (.int p1), .val (.int p2)] [(.int p2), (.int ((p1 - xx) + (1 : Int32)))])) _
    refine XS.isub X1.here hx rfl (hb hby d8_9) rfl ?_
    show Steps p.tables e below (T1.setTop (mkF m 10 #[.val (.ref a0), .val (.int p1), .val (.int p2)] [(.int (((p1 - xx) + (1 : Int32)) - p2))])) _
    refine XS.bipush X1.here hx rfl (hb hby d8_10) ?_
    refine own_via (T1.setTop (mkF m 20 #[.val (.ref a0), .val (.int p1), .val (.int p2)] [(.int (if (((p1 - xx) + (1 : Int32)) - p2) < (32 : Int32) then (0 : Int32) else (1 : Int32)))])) (fun k => ?_) ?_
    · by_cases hc12 : (((p1 - xx) + (1 : Int32)) - p2) < (32 : Int32)
      · show Steps p.tables e below (T1.setTop (mkF m 12 #[.val (.ref a0), .val (.int p1), .val (.int p2)] [(.int (32 : Int32)), (.int (((p1 - xx) + (1 : Int32)) - p2))])) _
        refine XS.icmpYes X1.here hx rfl (pc0 := 12) (pc' := 19) rfl (hb hby d8_12) rfl (tlt hc12).1 (by decide) (by decide) ?_
        show Steps p.tables e below (T1.setTop (mkF m 19 #[.val (.ref a0), .val (.int p1), .val (.int p2)] [])) _
        refine XS.iconst X1.here hx rfl (hb hby d8_19) ?_
        try simp only [if_pos hc12] at k
        exact k
      · show Steps p.tables e below (T1.setTop (mkF m 12 #[.val (.ref a0), .val (.int p1), .val (.int p2)] [(.int (32 : Int32)), (.int (((p1 - xx) + (1 : Int32)) - p2))])) _
        refine XS.icmpNo X1.here hx rfl (hb hby d8_12) rfl (flt hc12).1 ?_
        show Steps p.tables e below (T1.setTop (mkF m 15 #[.val (.ref a0), .val (.int p1), .val (.int p2)] [])) _
        refine XS.iconst X1.here hx rfl (hb hby d8_15) ?_
        show Steps p.tables e below (T1.setTop (mkF m 16 #[.val (.ref a0), .val (.int p1), .val (.int p2)] [(.int (1 : Int32))])) _
        refine XS.goto X1.here hx rfl (pc0 := 16) (pc' := 20) rfl (hb hby d8_16) (by decide) (by decide) ?_
        try simp only [if_neg hc12] at k
        exact k
    show Steps p.tables e below (T1.setTop (mkF m 20 #[.val (.ref a0), .val (.int p1), .val (.int p2)] [(.int (if (((p1 - xx) + (1 : Int32)) - p2) < (32 : Int32) then (0 : Int32) else (1 : Int32)))])) _
    exact retN X1 hx (t := .boolean) Bd.returns (by simp) (hb hby d8_20) hr
  · show Qrm8 Z a0 p1 p2 xx h0 n0 _ T1.heap _
    rw [e1]
    exact ⟨rfl, N0, rfl⟩
def own_len (z : Int32) : Int32 := if z = (0 : Int32) then (1 : Int32) else if z = (1 : Int32) then (2 : Int32) else if z = (2 : Int32) then (5 : Int32) else (16 : Int32)
theorem d1_0 : decode method_3_code 0 = .ok (.iload_n 0, 1) := by decide +kernel
theorem d1_1 : decode method_3_code 1 = .ok (.ifCond .ne 7, 3) := by decide +kernel
theorem d1_4 : decode method_3_code 4 = .ok (.iconst 1, 1) := by decide +kernel
theorem d1_5 : decode method_3_code 5 = .ok (.newarray .char, 2) := by decide +kernel
theorem d1_7 : decode method_3_code 7 = .ok (.areturn, 1) := by decide +kernel
theorem d1_8 : decode method_3_code 8 = .ok (.iload_n 0, 1) := by decide +kernel
theorem d1_9 : decode method_3_code 9 = .ok (.iconst 1, 1) := by decide +kernel
theorem d1_10 : decode method_3_code 10 = .ok (.if_icmp .ne 7, 3) := by decide +kernel
theorem d1_13 : decode method_3_code 13 = .ok (.iconst 2, 1) := by decide +kernel
theorem d1_14 : decode method_3_code 14 = .ok (.newarray .char, 2) := by decide +kernel
theorem d1_16 : decode method_3_code 16 = .ok (.areturn, 1) := by decide +kernel
theorem d1_17 : decode method_3_code 17 = .ok (.iload_n 0, 1) := by decide +kernel
theorem d1_18 : decode method_3_code 18 = .ok (.iconst 2, 1) := by decide +kernel
theorem d1_19 : decode method_3_code 19 = .ok (.if_icmp .ne 7, 3) := by decide +kernel
theorem d1_22 : decode method_3_code 22 = .ok (.iconst 5, 1) := by decide +kernel
theorem d1_23 : decode method_3_code 23 = .ok (.newarray .char, 2) := by decide +kernel
theorem d1_25 : decode method_3_code 25 = .ok (.areturn, 1) := by decide +kernel
theorem d1_26 : decode method_3_code 26 = .ok (.bipush 16, 2) := by decide +kernel
theorem d1_28 : decode method_3_code 28 = .ok (.newarray .char, 2) := by decide +kernel
theorem d1_30 : decode method_3_code 30 = .ok (.areturn, 1) := by decide +kernel
theorem pn_1 : plainName "com/example/nimble_needle/nimbleneedle/algorithm/WordSieveSearchesPinLaw" = true := by first | (simp [plainName, overriddenIn]; done) | decide +kernel
theorem ef_rm1 (m : MethodId) (p0 : Int32) : entryFrame m #[(.int p0)] 1 = mkF m 0 #[.val (.int p0)] [] := by first | (simp [entryFrame, mkF, argsToLocals, Value.category]; done) | rfl
def Qrm1 (Z : State) (p0 : Int32) (h0 : Heap) (n0 : Nat) (v : Option Value) (h : Heap) (L : List Loc) : Prop := ∃ b : Addr, ∃ kb : ClassId, v = some (.ref b) ∧ Fr n0 L ∧ n0 ≤ b ∧ h0.size ≤ b ∧ Keep h0 h [] ∧ Arv Z h b kb .char (own_len p0) [] (.int (0 : Int32))
set_option maxRecDepth 65536 in
set_option maxHeartbeats 40000000 in
theorem rm1 (l : Launch) (Z : State) (A0 : Array Value) (hw : ∀ d ∈ tables_1, d.before A0 Z = true) (ws : List Jvm.Cond) (p0 : Int32) (h0 : Heap) (n0 : Nat) (Z0 : n0 ≤ h0.size) :
    MetFree l (⟨"com/example/nimble_needle/nimbleneedle/algorithm/WordSieveSearchesPinLaw", "pattern", "(I)[C"⟩ : MethodName) (head1 (Jvm.Cond.code (⟨"com/example/nimble_needle/nimbleneedle/algorithm/WordSieveSearchesPinLaw", "pattern", "(I)[C"⟩ : MethodName) method_3_code 1 (some (.array .char)) :: ws) ({ frames := 0, cells := 1, slots := 16, locals := 0 } : Room)) (fun a U => a = #[(.int p0)] ∧ Z.Warmed39 U.vm ∧ U.heap = h0) (fun _ _ _ _ _ => True) (fun _ U o U' => ∃ v L, o = .returned v ∧ Qrm1 Z p0 h0 n0 v U'.heap L ∧ FrameEnd U o U' L ({ frames := 0, cells := 1, slots := 16, locals := 0 } : Room).cells ({ frames := 0, cells := 1, slots := 16, locals := 0 } : Room).slots) := by
  refine MetFree.of_bodySF (plainFor_of_name pn_1) hisR ?_
  intro p e s m args below meth c s₁ Bd hml0 hP hK
  obtain ⟨rfl, hZ, hh⟩ := hP
  have hx := Bd.exec
  have hby := Bd.bytes
  have hml : c.maxLocals = 1 := hml0
  have hown : s.vm.findClass "com/example/nimble_needle/nimbleneedle/algorithm/WordSieveSearchesPinLaw" = some m.cls := findClass_of_methodNamed Bd.named
  have hnm := (name_of_methodNamed Bd.named Bd.method).1
  have X0 : Stand p l e ({ frames := 0, cells := 1, slots := 16, locals := 0 } : Room) s m #[(.int p0)] below meth c s₁ [] 0 0 := Stand.of_body Bd
  have e0 : s₁.heap = h0 := by rw [← hh, Bd.state]; rfl
  have N0 := Fr.nil n0
  have K0 : Keep h0 h0 [] := Keep.refl _ _
  have pre0 : ∀ t, Steps p.tables e below (s₁.setTop (mkF m 0 #[.val (.int p0)] [])) t → Steps p.tables e below (s₁.setTop (entryFrame m #[(.int p0)] 1)) t := fun t k => castTop (ef_rm1 m p0) k
  by_cases hc1 : p0 = (0 : Int32)
  · obtain ⟨T1, h1, k1, X1, e1, E1, A1, st1⟩ := newP X0 hx hZ (hw _ (List.mem_of_getElem? (i := 4) rfl)) e0 (g := (mkF m 5 #[.val (.int p0)] [(.int (1 : Int32))])) rfl (hb hby d1_5) rfl (by decide) (cap := 1) (by decide) (by decide) (by decide) (by decide)
    obtain ⟨b1, g1⟩ : ∃ z, z = h0.size := ⟨_, rfl⟩
    rw [← g1] at A1 st1
    have g_b1 : n0 ≤ b1 := Nat.le_trans Z0 (Nat.le_of_eq g1.symm)
    have sz_b1 : h0.size ≤ b1 := Nat.le_trans K0.1 (Nat.le_of_eq g1.symm)
    have Zh1 : n0 ≤ h1.size := Nat.le_trans Z0 E1.1
    have Kh1 : Keep h0 h1 [] := K0.ext E1
    have V_b1 : Arv Z h1 b1 k1 .char (1 : Int32) [] (.int (0 : Int32)) := Arv.new A1 (by decide)
    obtain ⟨fs, hr, hrun, hended, hW, hsame⟩ := X1.leave (v := some (.ref b1)) (fun h => by rw [Bd.returns] at h; cases h)
    refine ⟨_, _, pre0 _ ?_, hrun, hended, _, _, rfl, ?_, ⟨_, rfl⟩, hW, hsame.mono (by decide) (by decide)⟩
    · show Steps p.tables e below (s₁.setTop (mkF m 0 #[.val (.int p0)] [])) _
      refine XS.iloadN X0.here hx rfl (hb hby d1_0) rfl ?_
      show Steps p.tables e below (s₁.setTop (mkF m 1 #[.val (.int p0)] [(.int p0)])) _
      refine XS.ifNo X0.here hx rfl (hb hby d1_1) rfl ((if0 _ _).trans (teq hc1).2) ?_
      show Steps p.tables e below (s₁.setTop (mkF m 4 #[.val (.int p0)] [])) _
      refine XS.iconst X0.here hx rfl (hb hby d1_4) ?_
      show Steps p.tables e below (s₁.setTop (mkF m 5 #[.val (.int p0)] [(.int (1 : Int32))])) _
      refine st1 _ ?_
      show Steps p.tables e below (T1.setTop (mkF m 7 #[.val (.int p0)] [(.ref b1)])) _
      exact own_retR X1 hx Bd.returns rfl rfl rfl (hb hby d1_7) hr
    · show Qrm1 Z p0 h0 n0 _ T1.heap _
      rw [e1]
      exact ⟨b1, k1, rfl, N0, g_b1, sz_b1, Kh1, by rw [own_len, if_pos hc1]; exact V_b1⟩
  · by_cases hc10 : p0 = (1 : Int32)
    · obtain ⟨T2, h2, k2, X2, e2, E2, A2, st2⟩ := newP X0 hx hZ (hw _ (List.mem_of_getElem? (i := 4) rfl)) e0 (g := (mkF m 14 #[.val (.int p0)] [(.int (2 : Int32))])) rfl (hb hby d1_14) rfl (by decide) (cap := 2) (by decide) (by decide) (by decide) (by decide)
      obtain ⟨b2, g2⟩ : ∃ z, z = h0.size := ⟨_, rfl⟩
      rw [← g2] at A2 st2
      have g_b2 : n0 ≤ b2 := Nat.le_trans Z0 (Nat.le_of_eq g2.symm)
      have sz_b2 : h0.size ≤ b2 := Nat.le_trans K0.1 (Nat.le_of_eq g2.symm)
      have Zh2 : n0 ≤ h2.size := Nat.le_trans Z0 E2.1
      have Kh2 : Keep h0 h2 [] := K0.ext E2
      have V_b2 : Arv Z h2 b2 k2 .char (2 : Int32) [] (.int (0 : Int32)) := Arv.new A2 (by decide)
      obtain ⟨fs, hr, hrun, hended, hW, hsame⟩ := X2.leave (v := some (.ref b2)) (fun h => by rw [Bd.returns] at h; cases h)
      refine ⟨_, _, pre0 _ ?_, hrun, hended, _, _, rfl, ?_, ⟨_, rfl⟩, hW, hsame.mono (by decide) (by decide)⟩
      · show Steps p.tables e below (s₁.setTop (mkF m 0 #[.val (.int p0)] [])) _
        refine XS.iloadN X0.here hx rfl (hb hby d1_0) rfl ?_
        show Steps p.tables e below (s₁.setTop (mkF m 1 #[.val (.int p0)] [(.int p0)])) _
        refine XS.ifYes X0.here hx rfl (pc0 := 1) (pc' := 8) rfl (hb hby d1_1) rfl ((if0 _ _).trans (feq hc1).2) (by decide) (by decide) ?_
        show Steps p.tables e below (s₁.setTop (mkF m 8 #[.val (.int p0)] [])) _
        refine XS.iloadN X0.here hx rfl (hb hby d1_8) rfl ?_
        show Steps p.tables e below (s₁.setTop (mkF m 9 #[.val (.int p0)] [(.int p0)])) _
        refine XS.iconst X0.here hx rfl (hb hby d1_9) ?_
        show Steps p.tables e below (s₁.setTop (mkF m 10 #[.val (.int p0)] [(.int (1 : Int32)), (.int p0)])) _
        refine XS.icmpNo X0.here hx rfl (hb hby d1_10) rfl (teq hc10).2 ?_
        show Steps p.tables e below (s₁.setTop (mkF m 13 #[.val (.int p0)] [])) _
        refine XS.iconst X0.here hx rfl (hb hby d1_13) ?_
        show Steps p.tables e below (s₁.setTop (mkF m 14 #[.val (.int p0)] [(.int (2 : Int32))])) _
        refine st2 _ ?_
        show Steps p.tables e below (T2.setTop (mkF m 16 #[.val (.int p0)] [(.ref b2)])) _
        exact own_retR X2 hx Bd.returns rfl rfl rfl (hb hby d1_16) hr
      · show Qrm1 Z p0 h0 n0 _ T2.heap _
        rw [e2]
        exact ⟨b2, k2, rfl, N0, g_b2, sz_b2, Kh2, by rw [own_len, if_neg hc1, if_pos hc10]; exact V_b2⟩
    · by_cases hc19 : p0 = (2 : Int32)
      · obtain ⟨T3, h3, k3, X3, e3, E3, A3, st3⟩ := newP X0 hx hZ (hw _ (List.mem_of_getElem? (i := 4) rfl)) e0 (g := (mkF m 23 #[.val (.int p0)] [(.int (5 : Int32))])) rfl (hb hby d1_23) rfl (by decide) (cap := 5) (by decide) (by decide) (by decide) (by decide)
        obtain ⟨b3, g3⟩ : ∃ z, z = h0.size := ⟨_, rfl⟩
        rw [← g3] at A3 st3
        have g_b3 : n0 ≤ b3 := Nat.le_trans Z0 (Nat.le_of_eq g3.symm)
        have sz_b3 : h0.size ≤ b3 := Nat.le_trans K0.1 (Nat.le_of_eq g3.symm)
        have Zh3 : n0 ≤ h3.size := Nat.le_trans Z0 E3.1
        have Kh3 : Keep h0 h3 [] := K0.ext E3
        have V_b3 : Arv Z h3 b3 k3 .char (5 : Int32) [] (.int (0 : Int32)) := Arv.new A3 (by decide)
        obtain ⟨fs, hr, hrun, hended, hW, hsame⟩ := X3.leave (v := some (.ref b3)) (fun h => by rw [Bd.returns] at h; cases h)
        refine ⟨_, _, pre0 _ ?_, hrun, hended, _, _, rfl, ?_, ⟨_, rfl⟩, hW, hsame.mono (by decide) (by decide)⟩
        · show Steps p.tables e below (s₁.setTop (mkF m 0 #[.val (.int p0)] [])) _
          refine XS.iloadN X0.here hx rfl (hb hby d1_0) rfl ?_
          show Steps p.tables e below (s₁.setTop (mkF m 1 #[.val (.int p0)] [(.int p0)])) _
          refine XS.ifYes X0.here hx rfl (pc0 := 1) (pc' := 8) rfl (hb hby d1_1) rfl ((if0 _ _).trans (feq hc1).2) (by decide) (by decide) ?_
          show Steps p.tables e below (s₁.setTop (mkF m 8 #[.val (.int p0)] [])) _
          refine XS.iloadN X0.here hx rfl (hb hby d1_8) rfl ?_
          show Steps p.tables e below (s₁.setTop (mkF m 9 #[.val (.int p0)] [(.int p0)])) _
          refine XS.iconst X0.here hx rfl (hb hby d1_9) ?_
          show Steps p.tables e below (s₁.setTop (mkF m 10 #[.val (.int p0)] [(.int (1 : Int32)), (.int p0)])) _
          refine XS.icmpYes X0.here hx rfl (pc0 := 10) (pc' := 17) rfl (hb hby d1_10) rfl (feq hc10).2 (by decide) (by decide) ?_
          show Steps p.tables e below (s₁.setTop (mkF m 17 #[.val (.int p0)] [])) _
          refine XS.iloadN X0.here hx rfl (hb hby d1_17) rfl ?_
          show Steps p.tables e below (s₁.setTop (mkF m 18 #[.val (.int p0)] [(.int p0)])) _
          refine XS.iconst X0.here hx rfl (hb hby d1_18) ?_
          show Steps p.tables e below (s₁.setTop (mkF m 19 #[.val (.int p0)] [(.int (2 : Int32)), (.int p0)])) _
          refine XS.icmpNo X0.here hx rfl (hb hby d1_19) rfl (teq hc19).2 ?_
          show Steps p.tables e below (s₁.setTop (mkF m 22 #[.val (.int p0)] [])) _
          refine XS.iconst X0.here hx rfl (hb hby d1_22) ?_
          show Steps p.tables e below (s₁.setTop (mkF m 23 #[.val (.int p0)] [(.int (5 : Int32))])) _
          refine st3 _ ?_
          show Steps p.tables e below (T3.setTop (mkF m 25 #[.val (.int p0)] [(.ref b3)])) _
          exact own_retR X3 hx Bd.returns rfl rfl rfl (hb hby d1_25) hr
        · show Qrm1 Z p0 h0 n0 _ T3.heap _
          rw [e3]
          exact ⟨b3, k3, rfl, N0, g_b3, sz_b3, Kh3, by rw [own_len, if_neg hc1, if_neg hc10, if_pos hc19]; exact V_b3⟩
      · obtain ⟨T4, h4, k4, X4, e4, E4, A4, st4⟩ := newP X0 hx hZ (hw _ (List.mem_of_getElem? (i := 4) rfl)) e0 (g := (mkF m 28 #[.val (.int p0)] [(.int (16 : Int32))])) rfl (hb hby d1_28) rfl (by decide) (cap := 16) (by decide) (by decide) (by decide) (by decide)
        obtain ⟨b4, g4⟩ : ∃ z, z = h0.size := ⟨_, rfl⟩
        rw [← g4] at A4 st4
        have g_b4 : n0 ≤ b4 := Nat.le_trans Z0 (Nat.le_of_eq g4.symm)
        have sz_b4 : h0.size ≤ b4 := Nat.le_trans K0.1 (Nat.le_of_eq g4.symm)
        have Zh4 : n0 ≤ h4.size := Nat.le_trans Z0 E4.1
        have Kh4 : Keep h0 h4 [] := K0.ext E4
        have V_b4 : Arv Z h4 b4 k4 .char (16 : Int32) [] (.int (0 : Int32)) := Arv.new A4 (by decide)
        obtain ⟨fs, hr, hrun, hended, hW, hsame⟩ := X4.leave (v := some (.ref b4)) (fun h => by rw [Bd.returns] at h; cases h)
        refine ⟨_, _, pre0 _ ?_, hrun, hended, _, _, rfl, ?_, ⟨_, rfl⟩, hW, hsame.mono (by decide) (by decide)⟩
        · show Steps p.tables e below (s₁.setTop (mkF m 0 #[.val (.int p0)] [])) _
          refine XS.iloadN X0.here hx rfl (hb hby d1_0) rfl ?_
          show Steps p.tables e below (s₁.setTop (mkF m 1 #[.val (.int p0)] [(.int p0)])) _
          refine XS.ifYes X0.here hx rfl (pc0 := 1) (pc' := 8) rfl (hb hby d1_1) rfl ((if0 _ _).trans (feq hc1).2) (by decide) (by decide) ?_
          show Steps p.tables e below (s₁.setTop (mkF m 8 #[.val (.int p0)] [])) _
          refine XS.iloadN X0.here hx rfl (hb hby d1_8) rfl ?_
          show Steps p.tables e below (s₁.setTop (mkF m 9 #[.val (.int p0)] [(.int p0)])) _
          refine XS.iconst X0.here hx rfl (hb hby d1_9) ?_
          show Steps p.tables e below (s₁.setTop (mkF m 10 #[.val (.int p0)] [(.int (1 : Int32)), (.int p0)])) _
          refine XS.icmpYes X0.here hx rfl (pc0 := 10) (pc' := 17) rfl (hb hby d1_10) rfl (feq hc10).2 (by decide) (by decide) ?_
          show Steps p.tables e below (s₁.setTop (mkF m 17 #[.val (.int p0)] [])) _
          refine XS.iloadN X0.here hx rfl (hb hby d1_17) rfl ?_
          show Steps p.tables e below (s₁.setTop (mkF m 18 #[.val (.int p0)] [(.int p0)])) _
          refine XS.iconst X0.here hx rfl (hb hby d1_18) ?_
          show Steps p.tables e below (s₁.setTop (mkF m 19 #[.val (.int p0)] [(.int (2 : Int32)), (.int p0)])) _
          refine XS.icmpYes X0.here hx rfl (pc0 := 19) (pc' := 26) rfl (hb hby d1_19) rfl (feq hc19).2 (by decide) (by decide) ?_
          show Steps p.tables e below (s₁.setTop (mkF m 26 #[.val (.int p0)] [])) _
          refine XS.bipush X0.here hx rfl (hb hby d1_26) ?_
          show Steps p.tables e below (s₁.setTop (mkF m 28 #[.val (.int p0)] [(.int (16 : Int32))])) _
          refine st4 _ ?_
          show Steps p.tables e below (T4.setTop (mkF m 30 #[.val (.int p0)] [(.ref b4)])) _
          exact own_retR X4 hx Bd.returns rfl rfl rfl (hb hby d1_30) hr
        · show Qrm1 Z p0 h0 n0 _ T4.heap _
          rw [e4]
          exact ⟨b4, k4, rfl, N0, g_b4, sz_b4, Kh4, by rw [own_len, if_neg hc1, if_neg hc10, if_neg hc19]; exact V_b4⟩
theorem pd_0 : parseMethodDescriptor "(II)I" = some ⟨[.int, .int], some .int⟩ := by decide +kernel
theorem pd_1 : parseMethodDescriptor "(C)J" = some ⟨[.char], some .long⟩ := by decide +kernel
theorem d3_0 : decode prog_30_method_2_code 0 = .ok (.aload_n 0, 1) := by decide +kernel
theorem d3_1 : decode prog_30_method_2_code 1 = .ok (.invokespecial 7, 3) := by decide +kernel
theorem d3_4 : decode prog_30_method_2_code 4 = .ok (.aload_n 0, 1) := by decide +kernel
theorem d3_5 : decode prog_30_method_2_code 5 = .ok (.aload_n 1, 1) := by decide +kernel
theorem d3_6 : decode prog_30_method_2_code 6 = .ok (.arraylength, 1) := by decide +kernel
theorem d3_7 : decode prog_30_method_2_code 7 = .ok (.putfield 12, 3) := by decide +kernel
theorem d3_10 : decode prog_30_method_2_code 10 = .ok (.aload_n 0, 1) := by decide +kernel
theorem d3_11 : decode prog_30_method_2_code 11 = .ok (.aload_n 1, 1) := by decide +kernel
theorem d3_12 : decode prog_30_method_2_code 12 = .ok (.iconst 0, 1) := by decide +kernel
theorem d3_13 : decode prog_30_method_2_code 13 = .ok (.caload, 1) := by decide +kernel
theorem d3_14 : decode prog_30_method_2_code 14 = .ok (.putfield 16, 3) := by decide +kernel
theorem d3_17 : decode prog_30_method_2_code 17 = .ok (.aload_n 0, 1) := by decide +kernel
theorem d3_18 : decode prog_30_method_2_code 18 = .ok (.aload_n 3, 1) := by decide +kernel
theorem d3_19 : decode prog_30_method_2_code 19 = .ok (.putfield 20, 3) := by decide +kernel
theorem d3_22 : decode prog_30_method_2_code 22 = .ok (.aload_n 0, 1) := by decide +kernel
theorem d3_23 : decode prog_30_method_2_code 23 = .ok (.iload 4, 2) := by decide +kernel
theorem d3_25 : decode prog_30_method_2_code 25 = .ok (.putfield 24, 3) := by decide +kernel
theorem d3_28 : decode prog_30_method_2_code 28 = .ok (.aload_n 0, 1) := by decide +kernel
theorem d3_29 : decode prog_30_method_2_code 29 = .ok (.iload 5, 2) := by decide +kernel
theorem d3_31 : decode prog_30_method_2_code 31 = .ok (.putfield 28, 3) := by decide +kernel
theorem d3_34 : decode prog_30_method_2_code 34 = .ok (.aload_n 0, 1) := by decide +kernel
theorem d3_35 : decode prog_30_method_2_code 35 = .ok (.iload 4, 2) := by decide +kernel
theorem d3_37 : decode prog_30_method_2_code 37 = .ok (.ifCond .eq 21, 3) := by decide +kernel
theorem d3_40 : decode prog_30_method_2_code 40 = .ok (.sipush 512, 3) := by decide +kernel
theorem d3_43 : decode prog_30_method_2_code 43 = .ok (.bipush 32, 2) := by decide +kernel
theorem d3_45 : decode prog_30_method_2_code 45 = .ok (.aload_n 0, 1) := by decide +kernel
theorem d3_46 : decode prog_30_method_2_code 46 = .ok (.getfield 12, 3) := by decide +kernel
theorem d3_49 : decode prog_30_method_2_code 49 = .ok (.iconst 1, 1) := by decide +kernel
theorem d3_50 : decode prog_30_method_2_code 50 = .ok (.isub, 1) := by decide +kernel
theorem d3_51 : decode prog_30_method_2_code 51 = .ok (.imul, 1) := by decide +kernel
theorem d3_52 : decode prog_30_method_2_code 52 = .ok (.invokestatic 31, 3) := by decide +kernel
theorem d3_55 : decode prog_30_method_2_code 55 = .ok (.goto 6, 3) := by decide +kernel
theorem d3_58 : decode prog_30_method_2_code 58 = .ok (.sipush 256, 3) := by decide +kernel
theorem d3_61 : decode prog_30_method_2_code 61 = .ok (.putfield 37, 3) := by decide +kernel
theorem d3_64 : decode prog_30_method_2_code 64 = .ok (.aload_n 0, 1) := by decide +kernel
theorem d3_65 : decode prog_30_method_2_code 65 = .ok (.aload_n 2, 1) := by decide +kernel
theorem d3_66 : decode prog_30_method_2_code 66 = .ok (.arraylength, 1) := by decide +kernel
theorem d3_67 : decode prog_30_method_2_code 67 = .ok (.iconst 1, 1) := by decide +kernel
theorem d3_68 : decode prog_30_method_2_code 68 = .ok (.if_icmp .le 14, 3) := by decide +kernel
theorem d3_82 : decode prog_30_method_2_code 82 = .ok (.iconst 0, 1) := by decide +kernel
theorem d3_83 : decode prog_30_method_2_code 83 = .ok (.putfield 46, 3) := by decide +kernel
theorem d3_86 : decode prog_30_method_2_code 86 = .ok (.aload_n 0, 1) := by decide +kernel
theorem d3_87 : decode prog_30_method_2_code 87 = .ok (.aload_n 2, 1) := by decide +kernel
theorem d3_88 : decode prog_30_method_2_code 88 = .ok (.iconst 0, 1) := by decide +kernel
theorem d3_89 : decode prog_30_method_2_code 89 = .ok (.iaload, 1) := by decide +kernel
theorem d3_90 : decode prog_30_method_2_code 90 = .ok (.putfield 49, 3) := by decide +kernel
theorem d3_93 : decode prog_30_method_2_code 93 = .ok (.aload_n 0, 1) := by decide +kernel
theorem d3_94 : decode prog_30_method_2_code 94 = .ok (.aload_n 2, 1) := by decide +kernel
theorem d3_95 : decode prog_30_method_2_code 95 = .ok (.iconst 1, 1) := by decide +kernel
theorem d3_96 : decode prog_30_method_2_code 96 = .ok (.aload_n 2, 1) := by decide +kernel
theorem d3_97 : decode prog_30_method_2_code 97 = .ok (.arraylength, 1) := by decide +kernel
theorem d3_98 : decode prog_30_method_2_code 98 = .ok (.iconst 1, 1) := by decide +kernel
theorem d3_99 : decode prog_30_method_2_code 99 = .ok (.isub, 1) := by decide +kernel
theorem d3_100 : decode prog_30_method_2_code 100 = .ok (.invokestatic 31, 3) := by decide +kernel
theorem d3_103 : decode prog_30_method_2_code 103 = .ok (.iaload, 1) := by decide +kernel
theorem d3_104 : decode prog_30_method_2_code 104 = .ok (.putfield 52, 3) := by decide +kernel
theorem d3_107 : decode prog_30_method_2_code 107 = .ok (.aload_n 0, 1) := by decide +kernel
theorem d3_108 : decode prog_30_method_2_code 108 = .ok (.aload_n 2, 1) := by decide +kernel
theorem d3_109 : decode prog_30_method_2_code 109 = .ok (.aload_n 2, 1) := by decide +kernel
theorem d3_110 : decode prog_30_method_2_code 110 = .ok (.arraylength, 1) := by decide +kernel
theorem d3_111 : decode prog_30_method_2_code 111 = .ok (.iconst 1, 1) := by decide +kernel
theorem d3_112 : decode prog_30_method_2_code 112 = .ok (.isub, 1) := by decide +kernel
theorem d3_113 : decode prog_30_method_2_code 113 = .ok (.iaload, 1) := by decide +kernel
theorem d3_114 : decode prog_30_method_2_code 114 = .ok (.putfield 55, 3) := by decide +kernel
theorem d3_117 : decode prog_30_method_2_code 117 = .ok (.aload_n 0, 1) := by decide +kernel
theorem d3_118 : decode prog_30_method_2_code 118 = .ok (.aload_n 1, 1) := by decide +kernel
theorem d3_119 : decode prog_30_method_2_code 119 = .ok (.aload_n 0, 1) := by decide +kernel
theorem d3_120 : decode prog_30_method_2_code 120 = .ok (.getfield 49, 3) := by decide +kernel
theorem d3_123 : decode prog_30_method_2_code 123 = .ok (.caload, 1) := by decide +kernel
theorem d3_124 : decode prog_30_method_2_code 124 = .ok (.invokestatic 58, 3) := by decide +kernel
theorem d3_127 : decode prog_30_method_2_code 127 = .ok (.putfield 62, 3) := by decide +kernel
theorem d3_130 : decode prog_30_method_2_code 130 = .ok (.aload_n 0, 1) := by decide +kernel
theorem d3_131 : decode prog_30_method_2_code 131 = .ok (.aload_n 1, 1) := by decide +kernel
theorem d3_132 : decode prog_30_method_2_code 132 = .ok (.aload_n 0, 1) := by decide +kernel
theorem d3_133 : decode prog_30_method_2_code 133 = .ok (.getfield 52, 3) := by decide +kernel
theorem d3_136 : decode prog_30_method_2_code 136 = .ok (.caload, 1) := by decide +kernel
theorem d3_137 : decode prog_30_method_2_code 137 = .ok (.invokestatic 58, 3) := by decide +kernel
theorem d3_140 : decode prog_30_method_2_code 140 = .ok (.putfield 66, 3) := by decide +kernel
theorem d3_143 : decode prog_30_method_2_code 143 = .ok (.aload_n 0, 1) := by decide +kernel
theorem d3_144 : decode prog_30_method_2_code 144 = .ok (.aload_n 1, 1) := by decide +kernel
theorem d3_145 : decode prog_30_method_2_code 145 = .ok (.aload_n 0, 1) := by decide +kernel
theorem d3_146 : decode prog_30_method_2_code 146 = .ok (.getfield 55, 3) := by decide +kernel
theorem d3_149 : decode prog_30_method_2_code 149 = .ok (.caload, 1) := by decide +kernel
theorem d3_150 : decode prog_30_method_2_code 150 = .ok (.invokestatic 58, 3) := by decide +kernel
theorem d3_153 : decode prog_30_method_2_code 153 = .ok (.putfield 69, 3) := by decide +kernel
theorem d3_156 : decode prog_30_method_2_code 156 = .ok (.aload_n 0, 1) := by decide +kernel
theorem d3_157 : decode prog_30_method_2_code 157 = .ok (.aload_n 0, 1) := by decide +kernel
theorem d3_158 : decode prog_30_method_2_code 158 = .ok (.getfield 49, 3) := by decide +kernel
theorem d3_161 : decode prog_30_method_2_code 161 = .ok (.aload_n 0, 1) := by decide +kernel
theorem d3_162 : decode prog_30_method_2_code 162 = .ok (.getfield 52, 3) := by decide +kernel
theorem d3_165 : decode prog_30_method_2_code 165 = .ok (.aload_n 0, 1) := by decide +kernel
theorem d3_166 : decode prog_30_method_2_code 166 = .ok (.getfield 55, 3) := by decide +kernel
theorem d3_169 : decode prog_30_method_2_code 169 = .ok (.invokestatic 72, 3) := by decide +kernel
theorem d3_172 : decode prog_30_method_2_code 172 = .ok (.invokestatic 72, 3) := by decide +kernel
theorem d3_175 : decode prog_30_method_2_code 175 = .ok (.putfield 75, 3) := by decide +kernel
theorem d3_178 : decode prog_30_method_2_code 178 = .ok (.return_, 1) := by decide +kernel
theorem pn_3 : plainName "com/example/nimble_needle/nimbleneedle/algorithm/WordSieve" = true := by first | (simp [plainName, overriddenIn]; done) | decide +kernel
theorem ef_rm3 (m : MethodId) (a0 : Addr) (a1 : Addr) (a2 : Addr) (p4 : Int32) (p5 : Int32) : entryFrame m #[(.ref a0), (.ref a1), (.ref a2), .null, (.int p4), (.int p5)] 6 = mkF m 0 #[.val (.ref a0), .val (.ref a1), .val (.ref a2), .val .null, .val (.int p4), .val (.int p5)] [] := by first | (simp [entryFrame, mkF, argsToLocals, Value.category]; done) | rfl
def Qrm3 (Z : State) (a0 : Addr) (a1 : Addr) (a2 : Addr) (p4 : Int32) (p5 : Int32) (u_length : Value) (u_first : Value) (u_chars : Value) (u_paired : Value) (u_whole : Value) (u_leastStarts : Value) (u_single : Value) (u_firstPlace : Value) (u_secondPlace : Value) (u_thirdPlace : Value) (u_firstBytes : Value) (u_secondBytes : Value) (u_thirdBytes : Value) (u_lastPlace : Value) (k1 : ClassId) (nn : Int32) (k2 : ClassId) (h0 : Heap) (n0 : Nat) (v : Option Value) (h : Heap) (L : List Loc) : Prop := v = none ∧ Fr n0 L ∧ Keep h0 h [a0] ∧ Exa Z h a0 "com/example/nimble_needle/nimbleneedle/algorithm/WordSieve" ∧ Fld Z h a0 "com/example/nimble_needle/nimbleneedle/algorithm/WordSieve" "length" "I" (.int nn)
set_option maxRecDepth 65536 in
set_option maxHeartbeats 40000000 in
theorem rm3 (l : Launch) (Z : State) (A0 : Array Value) (hw : ∀ d ∈ tables_1, d.before A0 Z = true) (ws : List Jvm.Cond) (a0 : Addr) (a1 : Addr) (a2 : Addr) (p4 : Int32) (p5 : Int32) (u_length : Value) (u_first : Value) (u_chars : Value) (u_paired : Value) (u_whole : Value) (u_leastStarts : Value) (u_single : Value) (u_firstPlace : Value) (u_secondPlace : Value) (u_thirdPlace : Value) (u_firstBytes : Value) (u_secondBytes : Value) (u_thirdBytes : Value) (u_lastPlace : Value) (k1 : ClassId) (nn : Int32) (k2 : ClassId) (h0 : Heap) (n0 : Nat) (Z0 : n0 ≤ h0.size) (E_a0 : Exa Z h0 a0 "com/example/nimble_needle/nimbleneedle/algorithm/WordSieve") (F_length_a0 : Fld Z h0 a0 "com/example/nimble_needle/nimbleneedle/algorithm/WordSieve" "length" "I" u_length) (F_first_a0 : Fld Z h0 a0 "com/example/nimble_needle/nimbleneedle/algorithm/WordSieve" "first" "C" u_first) (F_chars_a0 : Fld Z h0 a0 "com/example/nimble_needle/nimbleneedle/algorithm/WordSieve" "chars" "Lcom/example/nimble_needle/nimbleneedle/algorithm/CharSieve;" u_chars) (F_paired_a0 : Fld Z h0 a0 "com/example/nimble_needle/nimbleneedle/algorithm/WordSieve" "paired" "Z" u_paired) (F_whole_a0 : Fld Z h0 a0 "com/example/nimble_needle/nimbleneedle/algorithm/WordSieve" "whole" "Z" u_whole) (F_leastStarts_a0 : Fld Z h0 a0 "com/example/nimble_needle/nimbleneedle/algorithm/WordSieve" "leastStarts" "I" u_leastStarts) (F_single_a0 : Fld Z h0 a0 "com/example/nimble_needle/nimbleneedle/algorithm/WordSieve" "single" "Z" u_single) (F_firstPlace_a0 : Fld Z h0 a0 "com/example/nimble_needle/nimbleneedle/algorithm/WordSieve" "firstPlace" "I" u_firstPlace) (F_secondPlace_a0 : Fld Z h0 a0 "com/example/nimble_needle/nimbleneedle/algorithm/WordSieve" "secondPlace" "I" u_secondPlace) (F_thirdPlace_a0 : Fld Z h0 a0 "com/example/nimble_needle/nimbleneedle/algorithm/WordSieve" "thirdPlace" "I" u_thirdPlace) (F_firstBytes_a0 : Fld Z h0 a0 "com/example/nimble_needle/nimbleneedle/algorithm/WordSieve" "firstBytes" "J" u_firstBytes) (F_secondBytes_a0 : Fld Z h0 a0 "com/example/nimble_needle/nimbleneedle/algorithm/WordSieve" "secondBytes" "J" u_secondBytes) (F_thirdBytes_a0 : Fld Z h0 a0 "com/example/nimble_needle/nimbleneedle/algorithm/WordSieve" "thirdBytes" "J" u_thirdBytes) (F_lastPlace_a0 : Fld Z h0 a0 "com/example/nimble_needle/nimbleneedle/algorithm/WordSieve" "lastPlace" "I" u_lastPlace) (V_a1 : Arv Z h0 a1 k1 .char nn [] (.int (0 : Int32))) (V_a2 : Arv Z h0 a2 k2 .int (1 : Int32) [(.int (0 : Int32))] (.int (0 : Int32))) (g_a0 : n0 ≤ a0) (ne_a1_a0 : a1 ≠ a0) (ne_a2_a0 : a2 ≠ a0) (hnn : ¬ ((0 : Int32) < 0) ∧ (0 : Int32) < nn) :
    MetFree l (⟨"com/example/nimble_needle/nimbleneedle/algorithm/WordSieve", "<init>", "([C[ILcom/example/nimble_needle/nimbleneedle/algorithm/CharSieve;ZZ)V"⟩ : MethodName) (head1 (Jvm.Cond.code (⟨"com/example/nimble_needle/nimbleneedle/algorithm/WordSieve", "<init>", "([C[ILcom/example/nimble_needle/nimbleneedle/algorithm/CharSieve;ZZ)V"⟩ : MethodName) prog_30_method_2_code 6 none :: ws) ({ frames := 1, cells := 0, slots := 0, locals := 15 } : Room)) (fun a U => a = #[(.ref a0), (.ref a1), (.ref a2), .null, (.int p4), (.int p5)] ∧ Z.Warmed39 U.vm ∧ U.heap = h0) (fun _ _ _ _ _ => True) (fun _ U o U' => ∃ v L, o = .returned v ∧ Qrm3 Z a0 a1 a2 p4 p5 u_length u_first u_chars u_paired u_whole u_leastStarts u_single u_firstPlace u_secondPlace u_thirdPlace u_firstBytes u_secondBytes u_thirdBytes u_lastPlace k1 nn k2 h0 n0 v U'.heap L ∧ FrameEnd U o U' L ({ frames := 1, cells := 0, slots := 0, locals := 15 } : Room).cells ({ frames := 1, cells := 0, slots := 0, locals := 15 } : Room).slots) := by
  refine MetFree.of_bodySF (plainFor_of_name pn_3) hisR ?_
  intro p e s m args below meth c s₁ Bd hml0 hP hK
  obtain ⟨rfl, hZ, hh⟩ := hP
  have hx := Bd.exec
  have hby := Bd.bytes
  have hml : c.maxLocals = 6 := hml0
  have hown : s.vm.findClass "com/example/nimble_needle/nimbleneedle/algorithm/WordSieve" = some m.cls := findClass_of_methodNamed Bd.named
  have hnm := (name_of_methodNamed Bd.named Bd.method).1
  have X0 : Stand p l e ({ frames := 1, cells := 0, slots := 0, locals := 15 } : Room) s m #[(.ref a0), (.ref a1), (.ref a2), .null, (.int p4), (.int p5)] below meth c s₁ [] 0 0 := Stand.of_body Bd
  have e0 : s₁.heap = h0 := by rw [← hh, Bd.state]; rfl
  have N0 := Fr.nil n0
  have K0 : Keep h0 h0 [a0] := Keep.refl _ _
  have pre0 : ∀ t, Steps p.tables e below (s₁.setTop (mkF m 0 #[.val (.ref a0), .val (.ref a1), .val (.ref a2), .val .null, .val (.int p4), .val (.int p5)] [])) t → Steps p.tables e below (s₁.setTop (entryFrame m #[(.ref a0), (.ref a1), (.ref a2), .null, (.int p4), (.int p5)] 6)) t := fun t k => castTop (ef_rm3 m a0 a1 a2 p4 p5) k
  obtain ⟨T1, X1, e1, st1⟩ := initO X0 hx hZ hown (hw _ (List.mem_of_getElem? (i := 15) rfl)) (hw _ (List.mem_of_getElem? (i := 16) rfl)) (hw _ (List.mem_of_getElem? (i := 17) rfl)) e0 (g := (mkF m 1 #[.val (.ref a0), .val (.ref a1), .val (.ref a2), .val .null, .val (.int p4), .val (.int p5)] [(.ref a0)])) rfl (by rw [hml]; rfl) rfl (hb hby d3_1) (by decide) (W := 0) (by show 2 * 0 + _ ≤ _; exact Nat.le_of_eq rfl) (by decide)
  obtain ⟨cl2, Ar2, -, SS2, MM2, -, -⟩ := id V_a1
  obtain ⟨T3, h3, X3, e3, W3, st3⟩ := putF X1 hx hZ hown (host := "") (Or.inl (hw _ (List.mem_of_getElem? (i := 18) rfl))) Via.refl e1 F_length_a0 E_a0 (Or.inr ⟨(hw _ (List.mem_of_getElem? (i := 19) rfl)), rfl, hnm⟩) (hw _ (List.mem_of_getElem? (i := 7) rfl)) (ty := .int) (by decide) rfl rfl (g := (mkF m 7 #[.val (.ref a0), .val (.ref a1), .val (.ref a2), .val .null, .val (.int p4), .val (.int p5)] [(.int nn), (.ref a0)])) rfl rfl (hb hby d3_7)
  have F_length_a0 : Fld Z h3 a0 "com/example/nimble_needle/nimbleneedle/algorithm/WordSieve" "length" "I" (.int nn) := F_length_a0.same W3
  have E_a0 : Exa Z h3 a0 "com/example/nimble_needle/nimbleneedle/algorithm/WordSieve" := E_a0.wr W3
  have F_first_a0 : Fld Z h3 a0 "com/example/nimble_needle/nimbleneedle/algorithm/WordSieve" "first" "C" u_first := F_first_a0.other W3 (Or.inr (slot_ne (Or.inr (hw _ (List.mem_of_getElem? (i := 21) rfl))) (Or.inr (hw _ (List.mem_of_getElem? (i := 19) rfl))) (by decide) (t := .char) (t' := .int) (by decide) (by decide)))
  have F_chars_a0 : Fld Z h3 a0 "com/example/nimble_needle/nimbleneedle/algorithm/WordSieve" "chars" "Lcom/example/nimble_needle/nimbleneedle/algorithm/CharSieve;" u_chars := F_chars_a0.other W3 (Or.inr (slot_ne (Or.inr (hw _ (List.mem_of_getElem? (i := 23) rfl))) (Or.inr (hw _ (List.mem_of_getElem? (i := 19) rfl))) (by decide) (t := (.object "com/example/nimble_needle/nimbleneedle/algorithm/CharSieve")) (t' := .int) (by decide) (by decide)))
  have F_paired_a0 : Fld Z h3 a0 "com/example/nimble_needle/nimbleneedle/algorithm/WordSieve" "paired" "Z" u_paired := F_paired_a0.other W3 (Or.inr (slot_ne (Or.inr (hw _ (List.mem_of_getElem? (i := 25) rfl))) (Or.inr (hw _ (List.mem_of_getElem? (i := 19) rfl))) (by decide) (t := .boolean) (t' := .int) (by decide) (by decide)))
  have F_whole_a0 : Fld Z h3 a0 "com/example/nimble_needle/nimbleneedle/algorithm/WordSieve" "whole" "Z" u_whole := F_whole_a0.other W3 (Or.inr (slot_ne (Or.inr (hw _ (List.mem_of_getElem? (i := 27) rfl))) (Or.inr (hw _ (List.mem_of_getElem? (i := 19) rfl))) (by decide) (t := .boolean) (t' := .int) (by decide) (by decide)))
  have F_leastStarts_a0 : Fld Z h3 a0 "com/example/nimble_needle/nimbleneedle/algorithm/WordSieve" "leastStarts" "I" u_leastStarts := F_leastStarts_a0.other W3 (Or.inr (slot_ne (Or.inr (hw _ (List.mem_of_getElem? (i := 29) rfl))) (Or.inr (hw _ (List.mem_of_getElem? (i := 19) rfl))) (by decide) (t := .int) (t' := .int) (by decide) (by decide)))
  have F_single_a0 : Fld Z h3 a0 "com/example/nimble_needle/nimbleneedle/algorithm/WordSieve" "single" "Z" u_single := F_single_a0.other W3 (Or.inr (slot_ne (Or.inr (hw _ (List.mem_of_getElem? (i := 31) rfl))) (Or.inr (hw _ (List.mem_of_getElem? (i := 19) rfl))) (by decide) (t := .boolean) (t' := .int) (by decide) (by decide)))
  have F_firstPlace_a0 : Fld Z h3 a0 "com/example/nimble_needle/nimbleneedle/algorithm/WordSieve" "firstPlace" "I" u_firstPlace := F_firstPlace_a0.other W3 (Or.inr (slot_ne (Or.inr (hw _ (List.mem_of_getElem? (i := 33) rfl))) (Or.inr (hw _ (List.mem_of_getElem? (i := 19) rfl))) (by decide) (t := .int) (t' := .int) (by decide) (by decide)))
  have F_secondPlace_a0 : Fld Z h3 a0 "com/example/nimble_needle/nimbleneedle/algorithm/WordSieve" "secondPlace" "I" u_secondPlace := F_secondPlace_a0.other W3 (Or.inr (slot_ne (Or.inr (hw _ (List.mem_of_getElem? (i := 39) rfl))) (Or.inr (hw _ (List.mem_of_getElem? (i := 19) rfl))) (by decide) (t := .int) (t' := .int) (by decide) (by decide)))
  have F_thirdPlace_a0 : Fld Z h3 a0 "com/example/nimble_needle/nimbleneedle/algorithm/WordSieve" "thirdPlace" "I" u_thirdPlace := F_thirdPlace_a0.other W3 (Or.inr (slot_ne (Or.inr (hw _ (List.mem_of_getElem? (i := 41) rfl))) (Or.inr (hw _ (List.mem_of_getElem? (i := 19) rfl))) (by decide) (t := .int) (t' := .int) (by decide) (by decide)))
  have F_firstBytes_a0 : Fld Z h3 a0 "com/example/nimble_needle/nimbleneedle/algorithm/WordSieve" "firstBytes" "J" u_firstBytes := F_firstBytes_a0.other W3 (Or.inr (slot_ne (Or.inr (hw _ (List.mem_of_getElem? (i := 47) rfl))) (Or.inr (hw _ (List.mem_of_getElem? (i := 19) rfl))) (by decide) (t := .long) (t' := .int) (by decide) (by decide)))
  have F_secondBytes_a0 : Fld Z h3 a0 "com/example/nimble_needle/nimbleneedle/algorithm/WordSieve" "secondBytes" "J" u_secondBytes := F_secondBytes_a0.other W3 (Or.inr (slot_ne (Or.inr (hw _ (List.mem_of_getElem? (i := 49) rfl))) (Or.inr (hw _ (List.mem_of_getElem? (i := 19) rfl))) (by decide) (t := .long) (t' := .int) (by decide) (by decide)))
  have F_thirdBytes_a0 : Fld Z h3 a0 "com/example/nimble_needle/nimbleneedle/algorithm/WordSieve" "thirdBytes" "J" u_thirdBytes := F_thirdBytes_a0.other W3 (Or.inr (slot_ne (Or.inr (hw _ (List.mem_of_getElem? (i := 51) rfl))) (Or.inr (hw _ (List.mem_of_getElem? (i := 19) rfl))) (by decide) (t := .long) (t' := .int) (by decide) (by decide)))
  have F_lastPlace_a0 : Fld Z h3 a0 "com/example/nimble_needle/nimbleneedle/algorithm/WordSieve" "lastPlace" "I" u_lastPlace := F_lastPlace_a0.other W3 (Or.inr (slot_ne (Or.inr (hw _ (List.mem_of_getElem? (i := 56) rfl))) (Or.inr (hw _ (List.mem_of_getElem? (i := 19) rfl))) (by decide) (t := .int) (t' := .int) (by decide) (by decide)))
  have V_a1 : Arv Z h3 a1 k1 .char nn [] (.int (0 : Int32)) := V_a1.other W3 ne_a1_a0
  have V_a2 : Arv Z h3 a2 k2 .int (1 : Int32) [(.int (0 : Int32))] (.int (0 : Int32)) := V_a2.other W3 ne_a2_a0
  have Zh3 : n0 ≤ h3.size := Nat.le_trans Z0 (Keep.of_wr W3).1
  have Kh3 : Keep h0 h3 [a0] := K0.wr W3 (Or.inl (by simp))
  have N3 := Fr.snoc X3 N0 g_a0
  obtain ⟨cl4, Ar4, -, SS4, MM4, HH4, -⟩ := id V_a1
  have hin4 := inb_of SS4 hnn
  have hat4 : cl4.slots[((0 : Int32)).toNatClampNeg]? = some (.int (0 : Int32)) := HH4.at hin4 rfl
  obtain ⟨T5, h5, X5, e5, W5, st5⟩ := putFN X3 hx hZ hown (hw _ (List.mem_of_getElem? (i := 20) rfl)) Via.refl e3 F_first_a0 E_a0 (Or.inr ⟨(hw _ (List.mem_of_getElem? (i := 21) rfl)), rfl, hnm⟩) (hw _ (List.mem_of_getElem? (i := 7) rfl)) (ty := .char) (v' := (.int (nar .char (0 : Int32)))) (by decide) rfl (fits_nar_char _) (g := (mkF m 14 #[.val (.ref a0), .val (.ref a1), .val (.ref a2), .val .null, .val (.int p4), .val (.int p5)] [(.int (0 : Int32)), (.ref a0)])) rfl rfl (hb hby d3_14)
  have F_first_a0 : Fld Z h5 a0 "com/example/nimble_needle/nimbleneedle/algorithm/WordSieve" "first" "C" (.int (nar .char (0 : Int32))) := F_first_a0.same W5
  have E_a0 : Exa Z h5 a0 "com/example/nimble_needle/nimbleneedle/algorithm/WordSieve" := E_a0.wr W5
  have F_length_a0 : Fld Z h5 a0 "com/example/nimble_needle/nimbleneedle/algorithm/WordSieve" "length" "I" (.int nn) := F_length_a0.other W5 (Or.inr (slot_ne (Or.inr (hw _ (List.mem_of_getElem? (i := 19) rfl))) (Or.inr (hw _ (List.mem_of_getElem? (i := 21) rfl))) (by decide) (t := .int) (t' := .char) (by decide) (by decide)))
  have F_chars_a0 : Fld Z h5 a0 "com/example/nimble_needle/nimbleneedle/algorithm/WordSieve" "chars" "Lcom/example/nimble_needle/nimbleneedle/algorithm/CharSieve;" u_chars := F_chars_a0.other W5 (Or.inr (slot_ne (Or.inr (hw _ (List.mem_of_getElem? (i := 23) rfl))) (Or.inr (hw _ (List.mem_of_getElem? (i := 21) rfl))) (by decide) (t := (.object "com/example/nimble_needle/nimbleneedle/algorithm/CharSieve")) (t' := .char) (by decide) (by decide)))
  have F_paired_a0 : Fld Z h5 a0 "com/example/nimble_needle/nimbleneedle/algorithm/WordSieve" "paired" "Z" u_paired := F_paired_a0.other W5 (Or.inr (slot_ne (Or.inr (hw _ (List.mem_of_getElem? (i := 25) rfl))) (Or.inr (hw _ (List.mem_of_getElem? (i := 21) rfl))) (by decide) (t := .boolean) (t' := .char) (by decide) (by decide)))
  have F_whole_a0 : Fld Z h5 a0 "com/example/nimble_needle/nimbleneedle/algorithm/WordSieve" "whole" "Z" u_whole := F_whole_a0.other W5 (Or.inr (slot_ne (Or.inr (hw _ (List.mem_of_getElem? (i := 27) rfl))) (Or.inr (hw _ (List.mem_of_getElem? (i := 21) rfl))) (by decide) (t := .boolean) (t' := .char) (by decide) (by decide)))
  have F_leastStarts_a0 : Fld Z h5 a0 "com/example/nimble_needle/nimbleneedle/algorithm/WordSieve" "leastStarts" "I" u_leastStarts := F_leastStarts_a0.other W5 (Or.inr (slot_ne (Or.inr (hw _ (List.mem_of_getElem? (i := 29) rfl))) (Or.inr (hw _ (List.mem_of_getElem? (i := 21) rfl))) (by decide) (t := .int) (t' := .char) (by decide) (by decide)))
  have F_single_a0 : Fld Z h5 a0 "com/example/nimble_needle/nimbleneedle/algorithm/WordSieve" "single" "Z" u_single := F_single_a0.other W5 (Or.inr (slot_ne (Or.inr (hw _ (List.mem_of_getElem? (i := 31) rfl))) (Or.inr (hw _ (List.mem_of_getElem? (i := 21) rfl))) (by decide) (t := .boolean) (t' := .char) (by decide) (by decide)))
  have F_firstPlace_a0 : Fld Z h5 a0 "com/example/nimble_needle/nimbleneedle/algorithm/WordSieve" "firstPlace" "I" u_firstPlace := F_firstPlace_a0.other W5 (Or.inr (slot_ne (Or.inr (hw _ (List.mem_of_getElem? (i := 33) rfl))) (Or.inr (hw _ (List.mem_of_getElem? (i := 21) rfl))) (by decide) (t := .int) (t' := .char) (by decide) (by decide)))
  have F_secondPlace_a0 : Fld Z h5 a0 "com/example/nimble_needle/nimbleneedle/algorithm/WordSieve" "secondPlace" "I" u_secondPlace := F_secondPlace_a0.other W5 (Or.inr (slot_ne (Or.inr (hw _ (List.mem_of_getElem? (i := 39) rfl))) (Or.inr (hw _ (List.mem_of_getElem? (i := 21) rfl))) (by decide) (t := .int) (t' := .char) (by decide) (by decide)))
  have F_thirdPlace_a0 : Fld Z h5 a0 "com/example/nimble_needle/nimbleneedle/algorithm/WordSieve" "thirdPlace" "I" u_thirdPlace := F_thirdPlace_a0.other W5 (Or.inr (slot_ne (Or.inr (hw _ (List.mem_of_getElem? (i := 41) rfl))) (Or.inr (hw _ (List.mem_of_getElem? (i := 21) rfl))) (by decide) (t := .int) (t' := .char) (by decide) (by decide)))
  have F_firstBytes_a0 : Fld Z h5 a0 "com/example/nimble_needle/nimbleneedle/algorithm/WordSieve" "firstBytes" "J" u_firstBytes := F_firstBytes_a0.other W5 (Or.inr (slot_ne (Or.inr (hw _ (List.mem_of_getElem? (i := 47) rfl))) (Or.inr (hw _ (List.mem_of_getElem? (i := 21) rfl))) (by decide) (t := .long) (t' := .char) (by decide) (by decide)))
  have F_secondBytes_a0 : Fld Z h5 a0 "com/example/nimble_needle/nimbleneedle/algorithm/WordSieve" "secondBytes" "J" u_secondBytes := F_secondBytes_a0.other W5 (Or.inr (slot_ne (Or.inr (hw _ (List.mem_of_getElem? (i := 49) rfl))) (Or.inr (hw _ (List.mem_of_getElem? (i := 21) rfl))) (by decide) (t := .long) (t' := .char) (by decide) (by decide)))
  have F_thirdBytes_a0 : Fld Z h5 a0 "com/example/nimble_needle/nimbleneedle/algorithm/WordSieve" "thirdBytes" "J" u_thirdBytes := F_thirdBytes_a0.other W5 (Or.inr (slot_ne (Or.inr (hw _ (List.mem_of_getElem? (i := 51) rfl))) (Or.inr (hw _ (List.mem_of_getElem? (i := 21) rfl))) (by decide) (t := .long) (t' := .char) (by decide) (by decide)))
  have F_lastPlace_a0 : Fld Z h5 a0 "com/example/nimble_needle/nimbleneedle/algorithm/WordSieve" "lastPlace" "I" u_lastPlace := F_lastPlace_a0.other W5 (Or.inr (slot_ne (Or.inr (hw _ (List.mem_of_getElem? (i := 56) rfl))) (Or.inr (hw _ (List.mem_of_getElem? (i := 21) rfl))) (by decide) (t := .int) (t' := .char) (by decide) (by decide)))
  have V_a1 : Arv Z h5 a1 k1 .char nn [] (.int (0 : Int32)) := V_a1.other W5 ne_a1_a0
  have V_a2 : Arv Z h5 a2 k2 .int (1 : Int32) [(.int (0 : Int32))] (.int (0 : Int32)) := V_a2.other W5 ne_a2_a0
  have Zh5 : n0 ≤ h5.size := Nat.le_trans Zh3 (Keep.of_wr W5).1
  have Kh5 : Keep h0 h5 [a0] := Kh3.wr W5 (Or.inl (by simp))
  have N5 := Fr.snoc X5 N3 g_a0
  obtain ⟨T6, h6, X6, e6, W6, st6⟩ := putF X5 hx hZ hown (host := "") (Or.inl (hw _ (List.mem_of_getElem? (i := 22) rfl))) Via.refl e5 F_chars_a0 E_a0 (Or.inr ⟨(hw _ (List.mem_of_getElem? (i := 23) rfl)), rfl, hnm⟩) (hw _ (List.mem_of_getElem? (i := 7) rfl)) (ty := (.object "com/example/nimble_needle/nimbleneedle/algorithm/CharSieve")) (by decide) rfl rfl (g := (mkF m 19 #[.val (.ref a0), .val (.ref a1), .val (.ref a2), .val .null, .val (.int p4), .val (.int p5)] [.null, (.ref a0)])) rfl rfl (hb hby d3_19)
  have F_chars_a0 : Fld Z h6 a0 "com/example/nimble_needle/nimbleneedle/algorithm/WordSieve" "chars" "Lcom/example/nimble_needle/nimbleneedle/algorithm/CharSieve;" .null := F_chars_a0.same W6
  have E_a0 : Exa Z h6 a0 "com/example/nimble_needle/nimbleneedle/algorithm/WordSieve" := E_a0.wr W6
  have F_length_a0 : Fld Z h6 a0 "com/example/nimble_needle/nimbleneedle/algorithm/WordSieve" "length" "I" (.int nn) := F_length_a0.other W6 (Or.inr (slot_ne (Or.inr (hw _ (List.mem_of_getElem? (i := 19) rfl))) (Or.inr (hw _ (List.mem_of_getElem? (i := 23) rfl))) (by decide) (t := .int) (t' := (.object "com/example/nimble_needle/nimbleneedle/algorithm/CharSieve")) (by decide) (by decide)))
  have F_paired_a0 : Fld Z h6 a0 "com/example/nimble_needle/nimbleneedle/algorithm/WordSieve" "paired" "Z" u_paired := F_paired_a0.other W6 (Or.inr (slot_ne (Or.inr (hw _ (List.mem_of_getElem? (i := 25) rfl))) (Or.inr (hw _ (List.mem_of_getElem? (i := 23) rfl))) (by decide) (t := .boolean) (t' := (.object "com/example/nimble_needle/nimbleneedle/algorithm/CharSieve")) (by decide) (by decide)))
  have F_whole_a0 : Fld Z h6 a0 "com/example/nimble_needle/nimbleneedle/algorithm/WordSieve" "whole" "Z" u_whole := F_whole_a0.other W6 (Or.inr (slot_ne (Or.inr (hw _ (List.mem_of_getElem? (i := 27) rfl))) (Or.inr (hw _ (List.mem_of_getElem? (i := 23) rfl))) (by decide) (t := .boolean) (t' := (.object "com/example/nimble_needle/nimbleneedle/algorithm/CharSieve")) (by decide) (by decide)))
  have F_leastStarts_a0 : Fld Z h6 a0 "com/example/nimble_needle/nimbleneedle/algorithm/WordSieve" "leastStarts" "I" u_leastStarts := F_leastStarts_a0.other W6 (Or.inr (slot_ne (Or.inr (hw _ (List.mem_of_getElem? (i := 29) rfl))) (Or.inr (hw _ (List.mem_of_getElem? (i := 23) rfl))) (by decide) (t := .int) (t' := (.object "com/example/nimble_needle/nimbleneedle/algorithm/CharSieve")) (by decide) (by decide)))
  have F_single_a0 : Fld Z h6 a0 "com/example/nimble_needle/nimbleneedle/algorithm/WordSieve" "single" "Z" u_single := F_single_a0.other W6 (Or.inr (slot_ne (Or.inr (hw _ (List.mem_of_getElem? (i := 31) rfl))) (Or.inr (hw _ (List.mem_of_getElem? (i := 23) rfl))) (by decide) (t := .boolean) (t' := (.object "com/example/nimble_needle/nimbleneedle/algorithm/CharSieve")) (by decide) (by decide)))
  have F_firstPlace_a0 : Fld Z h6 a0 "com/example/nimble_needle/nimbleneedle/algorithm/WordSieve" "firstPlace" "I" u_firstPlace := F_firstPlace_a0.other W6 (Or.inr (slot_ne (Or.inr (hw _ (List.mem_of_getElem? (i := 33) rfl))) (Or.inr (hw _ (List.mem_of_getElem? (i := 23) rfl))) (by decide) (t := .int) (t' := (.object "com/example/nimble_needle/nimbleneedle/algorithm/CharSieve")) (by decide) (by decide)))
  have F_secondPlace_a0 : Fld Z h6 a0 "com/example/nimble_needle/nimbleneedle/algorithm/WordSieve" "secondPlace" "I" u_secondPlace := F_secondPlace_a0.other W6 (Or.inr (slot_ne (Or.inr (hw _ (List.mem_of_getElem? (i := 39) rfl))) (Or.inr (hw _ (List.mem_of_getElem? (i := 23) rfl))) (by decide) (t := .int) (t' := (.object "com/example/nimble_needle/nimbleneedle/algorithm/CharSieve")) (by decide) (by decide)))
  have F_thirdPlace_a0 : Fld Z h6 a0 "com/example/nimble_needle/nimbleneedle/algorithm/WordSieve" "thirdPlace" "I" u_thirdPlace := F_thirdPlace_a0.other W6 (Or.inr (slot_ne (Or.inr (hw _ (List.mem_of_getElem? (i := 41) rfl))) (Or.inr (hw _ (List.mem_of_getElem? (i := 23) rfl))) (by decide) (t := .int) (t' := (.object "com/example/nimble_needle/nimbleneedle/algorithm/CharSieve")) (by decide) (by decide)))
  have F_firstBytes_a0 : Fld Z h6 a0 "com/example/nimble_needle/nimbleneedle/algorithm/WordSieve" "firstBytes" "J" u_firstBytes := F_firstBytes_a0.other W6 (Or.inr (slot_ne (Or.inr (hw _ (List.mem_of_getElem? (i := 47) rfl))) (Or.inr (hw _ (List.mem_of_getElem? (i := 23) rfl))) (by decide) (t := .long) (t' := (.object "com/example/nimble_needle/nimbleneedle/algorithm/CharSieve")) (by decide) (by decide)))
  have F_secondBytes_a0 : Fld Z h6 a0 "com/example/nimble_needle/nimbleneedle/algorithm/WordSieve" "secondBytes" "J" u_secondBytes := F_secondBytes_a0.other W6 (Or.inr (slot_ne (Or.inr (hw _ (List.mem_of_getElem? (i := 49) rfl))) (Or.inr (hw _ (List.mem_of_getElem? (i := 23) rfl))) (by decide) (t := .long) (t' := (.object "com/example/nimble_needle/nimbleneedle/algorithm/CharSieve")) (by decide) (by decide)))
  have F_thirdBytes_a0 : Fld Z h6 a0 "com/example/nimble_needle/nimbleneedle/algorithm/WordSieve" "thirdBytes" "J" u_thirdBytes := F_thirdBytes_a0.other W6 (Or.inr (slot_ne (Or.inr (hw _ (List.mem_of_getElem? (i := 51) rfl))) (Or.inr (hw _ (List.mem_of_getElem? (i := 23) rfl))) (by decide) (t := .long) (t' := (.object "com/example/nimble_needle/nimbleneedle/algorithm/CharSieve")) (by decide) (by decide)))
  have F_lastPlace_a0 : Fld Z h6 a0 "com/example/nimble_needle/nimbleneedle/algorithm/WordSieve" "lastPlace" "I" u_lastPlace := F_lastPlace_a0.other W6 (Or.inr (slot_ne (Or.inr (hw _ (List.mem_of_getElem? (i := 56) rfl))) (Or.inr (hw _ (List.mem_of_getElem? (i := 23) rfl))) (by decide) (t := .int) (t' := (.object "com/example/nimble_needle/nimbleneedle/algorithm/CharSieve")) (by decide) (by decide)))
  have V_a1 : Arv Z h6 a1 k1 .char nn [] (.int (0 : Int32)) := V_a1.other W6 ne_a1_a0
  have V_a2 : Arv Z h6 a2 k2 .int (1 : Int32) [(.int (0 : Int32))] (.int (0 : Int32)) := V_a2.other W6 ne_a2_a0
  have Zh6 : n0 ≤ h6.size := Nat.le_trans Zh5 (Keep.of_wr W6).1
  have Kh6 : Keep h0 h6 [a0] := Kh5.wr W6 (Or.inl (by simp))
  have N6 := Fr.snoc X6 N5 g_a0
  obtain ⟨T7, h7, X7, e7, W7, st7⟩ := putFN X6 hx hZ hown (hw _ (List.mem_of_getElem? (i := 24) rfl)) Via.refl e6 F_paired_a0 E_a0 (Or.inr ⟨(hw _ (List.mem_of_getElem? (i := 25) rfl)), rfl, hnm⟩) (hw _ (List.mem_of_getElem? (i := 7) rfl)) (ty := .boolean) (v' := (.int (nar .boolean p4))) (by decide) rfl (fits_nar_bool _) (g := (mkF m 25 #[.val (.ref a0), .val (.ref a1), .val (.ref a2), .val .null, .val (.int p4), .val (.int p5)] [(.int p4), (.ref a0)])) rfl rfl (hb hby d3_25)
  have F_paired_a0 : Fld Z h7 a0 "com/example/nimble_needle/nimbleneedle/algorithm/WordSieve" "paired" "Z" (.int (nar .boolean p4)) := F_paired_a0.same W7
  have E_a0 : Exa Z h7 a0 "com/example/nimble_needle/nimbleneedle/algorithm/WordSieve" := E_a0.wr W7
  have F_length_a0 : Fld Z h7 a0 "com/example/nimble_needle/nimbleneedle/algorithm/WordSieve" "length" "I" (.int nn) := F_length_a0.other W7 (Or.inr (slot_ne (Or.inr (hw _ (List.mem_of_getElem? (i := 19) rfl))) (Or.inr (hw _ (List.mem_of_getElem? (i := 25) rfl))) (by decide) (t := .int) (t' := .boolean) (by decide) (by decide)))
  have F_whole_a0 : Fld Z h7 a0 "com/example/nimble_needle/nimbleneedle/algorithm/WordSieve" "whole" "Z" u_whole := F_whole_a0.other W7 (Or.inr (slot_ne (Or.inr (hw _ (List.mem_of_getElem? (i := 27) rfl))) (Or.inr (hw _ (List.mem_of_getElem? (i := 25) rfl))) (by decide) (t := .boolean) (t' := .boolean) (by decide) (by decide)))
  have F_leastStarts_a0 : Fld Z h7 a0 "com/example/nimble_needle/nimbleneedle/algorithm/WordSieve" "leastStarts" "I" u_leastStarts := F_leastStarts_a0.other W7 (Or.inr (slot_ne (Or.inr (hw _ (List.mem_of_getElem? (i := 29) rfl))) (Or.inr (hw _ (List.mem_of_getElem? (i := 25) rfl))) (by decide) (t := .int) (t' := .boolean) (by decide) (by decide)))
  have F_single_a0 : Fld Z h7 a0 "com/example/nimble_needle/nimbleneedle/algorithm/WordSieve" "single" "Z" u_single := F_single_a0.other W7 (Or.inr (slot_ne (Or.inr (hw _ (List.mem_of_getElem? (i := 31) rfl))) (Or.inr (hw _ (List.mem_of_getElem? (i := 25) rfl))) (by decide) (t := .boolean) (t' := .boolean) (by decide) (by decide)))
  have F_firstPlace_a0 : Fld Z h7 a0 "com/example/nimble_needle/nimbleneedle/algorithm/WordSieve" "firstPlace" "I" u_firstPlace := F_firstPlace_a0.other W7 (Or.inr (slot_ne (Or.inr (hw _ (List.mem_of_getElem? (i := 33) rfl))) (Or.inr (hw _ (List.mem_of_getElem? (i := 25) rfl))) (by decide) (t := .int) (t' := .boolean) (by decide) (by decide)))
  have F_secondPlace_a0 : Fld Z h7 a0 "com/example/nimble_needle/nimbleneedle/algorithm/WordSieve" "secondPlace" "I" u_secondPlace := F_secondPlace_a0.other W7 (Or.inr (slot_ne (Or.inr (hw _ (List.mem_of_getElem? (i := 39) rfl))) (Or.inr (hw _ (List.mem_of_getElem? (i := 25) rfl))) (by decide) (t := .int) (t' := .boolean) (by decide) (by decide)))
  have F_thirdPlace_a0 : Fld Z h7 a0 "com/example/nimble_needle/nimbleneedle/algorithm/WordSieve" "thirdPlace" "I" u_thirdPlace := F_thirdPlace_a0.other W7 (Or.inr (slot_ne (Or.inr (hw _ (List.mem_of_getElem? (i := 41) rfl))) (Or.inr (hw _ (List.mem_of_getElem? (i := 25) rfl))) (by decide) (t := .int) (t' := .boolean) (by decide) (by decide)))
  have F_firstBytes_a0 : Fld Z h7 a0 "com/example/nimble_needle/nimbleneedle/algorithm/WordSieve" "firstBytes" "J" u_firstBytes := F_firstBytes_a0.other W7 (Or.inr (slot_ne (Or.inr (hw _ (List.mem_of_getElem? (i := 47) rfl))) (Or.inr (hw _ (List.mem_of_getElem? (i := 25) rfl))) (by decide) (t := .long) (t' := .boolean) (by decide) (by decide)))
  have F_secondBytes_a0 : Fld Z h7 a0 "com/example/nimble_needle/nimbleneedle/algorithm/WordSieve" "secondBytes" "J" u_secondBytes := F_secondBytes_a0.other W7 (Or.inr (slot_ne (Or.inr (hw _ (List.mem_of_getElem? (i := 49) rfl))) (Or.inr (hw _ (List.mem_of_getElem? (i := 25) rfl))) (by decide) (t := .long) (t' := .boolean) (by decide) (by decide)))
  have F_thirdBytes_a0 : Fld Z h7 a0 "com/example/nimble_needle/nimbleneedle/algorithm/WordSieve" "thirdBytes" "J" u_thirdBytes := F_thirdBytes_a0.other W7 (Or.inr (slot_ne (Or.inr (hw _ (List.mem_of_getElem? (i := 51) rfl))) (Or.inr (hw _ (List.mem_of_getElem? (i := 25) rfl))) (by decide) (t := .long) (t' := .boolean) (by decide) (by decide)))
  have F_lastPlace_a0 : Fld Z h7 a0 "com/example/nimble_needle/nimbleneedle/algorithm/WordSieve" "lastPlace" "I" u_lastPlace := F_lastPlace_a0.other W7 (Or.inr (slot_ne (Or.inr (hw _ (List.mem_of_getElem? (i := 56) rfl))) (Or.inr (hw _ (List.mem_of_getElem? (i := 25) rfl))) (by decide) (t := .int) (t' := .boolean) (by decide) (by decide)))
  have V_a1 : Arv Z h7 a1 k1 .char nn [] (.int (0 : Int32)) := V_a1.other W7 ne_a1_a0
  have V_a2 : Arv Z h7 a2 k2 .int (1 : Int32) [(.int (0 : Int32))] (.int (0 : Int32)) := V_a2.other W7 ne_a2_a0
  have Zh7 : n0 ≤ h7.size := Nat.le_trans Zh6 (Keep.of_wr W7).1
  have Kh7 : Keep h0 h7 [a0] := Kh6.wr W7 (Or.inl (by simp))
  have N7 := Fr.snoc X7 N6 g_a0
  obtain ⟨T8, h8, X8, e8, W8, st8⟩ := putFN X7 hx hZ hown (hw _ (List.mem_of_getElem? (i := 26) rfl)) Via.refl e7 F_whole_a0 E_a0 (Or.inr ⟨(hw _ (List.mem_of_getElem? (i := 27) rfl)), rfl, hnm⟩) (hw _ (List.mem_of_getElem? (i := 7) rfl)) (ty := .boolean) (v' := (.int (nar .boolean p5))) (by decide) rfl (fits_nar_bool _) (g := (mkF m 31 #[.val (.ref a0), .val (.ref a1), .val (.ref a2), .val .null, .val (.int p4), .val (.int p5)] [(.int p5), (.ref a0)])) rfl rfl (hb hby d3_31)
  have F_whole_a0 : Fld Z h8 a0 "com/example/nimble_needle/nimbleneedle/algorithm/WordSieve" "whole" "Z" (.int (nar .boolean p5)) := F_whole_a0.same W8
  have E_a0 : Exa Z h8 a0 "com/example/nimble_needle/nimbleneedle/algorithm/WordSieve" := E_a0.wr W8
  have F_length_a0 : Fld Z h8 a0 "com/example/nimble_needle/nimbleneedle/algorithm/WordSieve" "length" "I" (.int nn) := F_length_a0.other W8 (Or.inr (slot_ne (Or.inr (hw _ (List.mem_of_getElem? (i := 19) rfl))) (Or.inr (hw _ (List.mem_of_getElem? (i := 27) rfl))) (by decide) (t := .int) (t' := .boolean) (by decide) (by decide)))
  have F_leastStarts_a0 : Fld Z h8 a0 "com/example/nimble_needle/nimbleneedle/algorithm/WordSieve" "leastStarts" "I" u_leastStarts := F_leastStarts_a0.other W8 (Or.inr (slot_ne (Or.inr (hw _ (List.mem_of_getElem? (i := 29) rfl))) (Or.inr (hw _ (List.mem_of_getElem? (i := 27) rfl))) (by decide) (t := .int) (t' := .boolean) (by decide) (by decide)))
  have F_single_a0 : Fld Z h8 a0 "com/example/nimble_needle/nimbleneedle/algorithm/WordSieve" "single" "Z" u_single := F_single_a0.other W8 (Or.inr (slot_ne (Or.inr (hw _ (List.mem_of_getElem? (i := 31) rfl))) (Or.inr (hw _ (List.mem_of_getElem? (i := 27) rfl))) (by decide) (t := .boolean) (t' := .boolean) (by decide) (by decide)))
  have F_firstPlace_a0 : Fld Z h8 a0 "com/example/nimble_needle/nimbleneedle/algorithm/WordSieve" "firstPlace" "I" u_firstPlace := F_firstPlace_a0.other W8 (Or.inr (slot_ne (Or.inr (hw _ (List.mem_of_getElem? (i := 33) rfl))) (Or.inr (hw _ (List.mem_of_getElem? (i := 27) rfl))) (by decide) (t := .int) (t' := .boolean) (by decide) (by decide)))
  have F_secondPlace_a0 : Fld Z h8 a0 "com/example/nimble_needle/nimbleneedle/algorithm/WordSieve" "secondPlace" "I" u_secondPlace := F_secondPlace_a0.other W8 (Or.inr (slot_ne (Or.inr (hw _ (List.mem_of_getElem? (i := 39) rfl))) (Or.inr (hw _ (List.mem_of_getElem? (i := 27) rfl))) (by decide) (t := .int) (t' := .boolean) (by decide) (by decide)))
  have F_thirdPlace_a0 : Fld Z h8 a0 "com/example/nimble_needle/nimbleneedle/algorithm/WordSieve" "thirdPlace" "I" u_thirdPlace := F_thirdPlace_a0.other W8 (Or.inr (slot_ne (Or.inr (hw _ (List.mem_of_getElem? (i := 41) rfl))) (Or.inr (hw _ (List.mem_of_getElem? (i := 27) rfl))) (by decide) (t := .int) (t' := .boolean) (by decide) (by decide)))
  have F_firstBytes_a0 : Fld Z h8 a0 "com/example/nimble_needle/nimbleneedle/algorithm/WordSieve" "firstBytes" "J" u_firstBytes := F_firstBytes_a0.other W8 (Or.inr (slot_ne (Or.inr (hw _ (List.mem_of_getElem? (i := 47) rfl))) (Or.inr (hw _ (List.mem_of_getElem? (i := 27) rfl))) (by decide) (t := .long) (t' := .boolean) (by decide) (by decide)))
  have F_secondBytes_a0 : Fld Z h8 a0 "com/example/nimble_needle/nimbleneedle/algorithm/WordSieve" "secondBytes" "J" u_secondBytes := F_secondBytes_a0.other W8 (Or.inr (slot_ne (Or.inr (hw _ (List.mem_of_getElem? (i := 49) rfl))) (Or.inr (hw _ (List.mem_of_getElem? (i := 27) rfl))) (by decide) (t := .long) (t' := .boolean) (by decide) (by decide)))
  have F_thirdBytes_a0 : Fld Z h8 a0 "com/example/nimble_needle/nimbleneedle/algorithm/WordSieve" "thirdBytes" "J" u_thirdBytes := F_thirdBytes_a0.other W8 (Or.inr (slot_ne (Or.inr (hw _ (List.mem_of_getElem? (i := 51) rfl))) (Or.inr (hw _ (List.mem_of_getElem? (i := 27) rfl))) (by decide) (t := .long) (t' := .boolean) (by decide) (by decide)))
  have F_lastPlace_a0 : Fld Z h8 a0 "com/example/nimble_needle/nimbleneedle/algorithm/WordSieve" "lastPlace" "I" u_lastPlace := F_lastPlace_a0.other W8 (Or.inr (slot_ne (Or.inr (hw _ (List.mem_of_getElem? (i := 56) rfl))) (Or.inr (hw _ (List.mem_of_getElem? (i := 27) rfl))) (by decide) (t := .int) (t' := .boolean) (by decide) (by decide)))
  have V_a1 : Arv Z h8 a1 k1 .char nn [] (.int (0 : Int32)) := V_a1.other W8 ne_a1_a0
  have V_a2 : Arv Z h8 a2 k2 .int (1 : Int32) [(.int (0 : Int32))] (.int (0 : Int32)) := V_a2.other W8 ne_a2_a0
  have Zh8 : n0 ≤ h8.size := Nat.le_trans Zh7 (Keep.of_wr W8).1
  have Kh8 : Keep h0 h8 [a0] := Kh7.wr W8 (Or.inl (by simp))
  have N8 := Fr.snoc X8 N7 g_a0
  by_cases hc37 : p4 = (0 : Int32)
  · obtain ⟨T9, h9, X9, e9, W9, st9⟩ := putF X8 hx hZ hown (host := "") (Or.inl (hw _ (List.mem_of_getElem? (i := 28) rfl))) Via.refl e8 F_leastStarts_a0 E_a0 (Or.inr ⟨(hw _ (List.mem_of_getElem? (i := 29) rfl)), rfl, hnm⟩) (hw _ (List.mem_of_getElem? (i := 7) rfl)) (ty := .int) (by decide) rfl rfl (g := (mkF m 61 #[.val (.ref a0), .val (.ref a1), .val (.ref a2), .val .null, .val (.int p4), .val (.int p5)] [(.int (256 : Int32)), (.ref a0)])) rfl rfl (hb hby d3_61)
    have F_leastStarts_a0 : Fld Z h9 a0 "com/example/nimble_needle/nimbleneedle/algorithm/WordSieve" "leastStarts" "I" (.int (256 : Int32)) := F_leastStarts_a0.same W9
    have E_a0 : Exa Z h9 a0 "com/example/nimble_needle/nimbleneedle/algorithm/WordSieve" := E_a0.wr W9
    have F_length_a0 : Fld Z h9 a0 "com/example/nimble_needle/nimbleneedle/algorithm/WordSieve" "length" "I" (.int nn) := F_length_a0.other W9 (Or.inr (slot_ne (Or.inr (hw _ (List.mem_of_getElem? (i := 19) rfl))) (Or.inr (hw _ (List.mem_of_getElem? (i := 29) rfl))) (by decide) (t := .int) (t' := .int) (by decide) (by decide)))
    have F_single_a0 : Fld Z h9 a0 "com/example/nimble_needle/nimbleneedle/algorithm/WordSieve" "single" "Z" u_single := F_single_a0.other W9 (Or.inr (slot_ne (Or.inr (hw _ (List.mem_of_getElem? (i := 31) rfl))) (Or.inr (hw _ (List.mem_of_getElem? (i := 29) rfl))) (by decide) (t := .boolean) (t' := .int) (by decide) (by decide)))
    have F_firstPlace_a0 : Fld Z h9 a0 "com/example/nimble_needle/nimbleneedle/algorithm/WordSieve" "firstPlace" "I" u_firstPlace := F_firstPlace_a0.other W9 (Or.inr (slot_ne (Or.inr (hw _ (List.mem_of_getElem? (i := 33) rfl))) (Or.inr (hw _ (List.mem_of_getElem? (i := 29) rfl))) (by decide) (t := .int) (t' := .int) (by decide) (by decide)))
    have F_secondPlace_a0 : Fld Z h9 a0 "com/example/nimble_needle/nimbleneedle/algorithm/WordSieve" "secondPlace" "I" u_secondPlace := F_secondPlace_a0.other W9 (Or.inr (slot_ne (Or.inr (hw _ (List.mem_of_getElem? (i := 39) rfl))) (Or.inr (hw _ (List.mem_of_getElem? (i := 29) rfl))) (by decide) (t := .int) (t' := .int) (by decide) (by decide)))
    have F_thirdPlace_a0 : Fld Z h9 a0 "com/example/nimble_needle/nimbleneedle/algorithm/WordSieve" "thirdPlace" "I" u_thirdPlace := F_thirdPlace_a0.other W9 (Or.inr (slot_ne (Or.inr (hw _ (List.mem_of_getElem? (i := 41) rfl))) (Or.inr (hw _ (List.mem_of_getElem? (i := 29) rfl))) (by decide) (t := .int) (t' := .int) (by decide) (by decide)))
    have F_firstBytes_a0 : Fld Z h9 a0 "com/example/nimble_needle/nimbleneedle/algorithm/WordSieve" "firstBytes" "J" u_firstBytes := F_firstBytes_a0.other W9 (Or.inr (slot_ne (Or.inr (hw _ (List.mem_of_getElem? (i := 47) rfl))) (Or.inr (hw _ (List.mem_of_getElem? (i := 29) rfl))) (by decide) (t := .long) (t' := .int) (by decide) (by decide)))
    have F_secondBytes_a0 : Fld Z h9 a0 "com/example/nimble_needle/nimbleneedle/algorithm/WordSieve" "secondBytes" "J" u_secondBytes := F_secondBytes_a0.other W9 (Or.inr (slot_ne (Or.inr (hw _ (List.mem_of_getElem? (i := 49) rfl))) (Or.inr (hw _ (List.mem_of_getElem? (i := 29) rfl))) (by decide) (t := .long) (t' := .int) (by decide) (by decide)))
    have F_thirdBytes_a0 : Fld Z h9 a0 "com/example/nimble_needle/nimbleneedle/algorithm/WordSieve" "thirdBytes" "J" u_thirdBytes := F_thirdBytes_a0.other W9 (Or.inr (slot_ne (Or.inr (hw _ (List.mem_of_getElem? (i := 51) rfl))) (Or.inr (hw _ (List.mem_of_getElem? (i := 29) rfl))) (by decide) (t := .long) (t' := .int) (by decide) (by decide)))
    have F_lastPlace_a0 : Fld Z h9 a0 "com/example/nimble_needle/nimbleneedle/algorithm/WordSieve" "lastPlace" "I" u_lastPlace := F_lastPlace_a0.other W9 (Or.inr (slot_ne (Or.inr (hw _ (List.mem_of_getElem? (i := 56) rfl))) (Or.inr (hw _ (List.mem_of_getElem? (i := 29) rfl))) (by decide) (t := .int) (t' := .int) (by decide) (by decide)))
    have V_a1 : Arv Z h9 a1 k1 .char nn [] (.int (0 : Int32)) := V_a1.other W9 ne_a1_a0
    have V_a2 : Arv Z h9 a2 k2 .int (1 : Int32) [(.int (0 : Int32))] (.int (0 : Int32)) := V_a2.other W9 ne_a2_a0
    have Zh9 : n0 ≤ h9.size := Nat.le_trans Zh8 (Keep.of_wr W9).1
    have Kh9 : Keep h0 h9 [a0] := Kh8.wr W9 (Or.inl (by simp))
    have N9 := Fr.snoc X9 N8 g_a0
    obtain ⟨cl10, Ar10, -, SS10, MM10, -, -⟩ := id V_a2
    obtain ⟨T11, h11, X11, e11, W11, st11⟩ := putFN X9 hx hZ hown (hw _ (List.mem_of_getElem? (i := 30) rfl)) Via.refl e9 F_single_a0 E_a0 (Or.inr ⟨(hw _ (List.mem_of_getElem? (i := 31) rfl)), rfl, hnm⟩) (hw _ (List.mem_of_getElem? (i := 7) rfl)) (ty := .boolean) (v' := (.int (nar .boolean (0 : Int32)))) (by decide) rfl (fits_nar_bool _) (g := (mkF m 83 #[.val (.ref a0), .val (.ref a1), .val (.ref a2), .val .null, .val (.int p4), .val (.int p5)] [(.int (0 : Int32)), (.ref a0)])) rfl rfl (hb hby d3_83)
    have F_single_a0 : Fld Z h11 a0 "com/example/nimble_needle/nimbleneedle/algorithm/WordSieve" "single" "Z" (.int (nar .boolean (0 : Int32))) := F_single_a0.same W11
    have E_a0 : Exa Z h11 a0 "com/example/nimble_needle/nimbleneedle/algorithm/WordSieve" := E_a0.wr W11
    have F_length_a0 : Fld Z h11 a0 "com/example/nimble_needle/nimbleneedle/algorithm/WordSieve" "length" "I" (.int nn) := F_length_a0.other W11 (Or.inr (slot_ne (Or.inr (hw _ (List.mem_of_getElem? (i := 19) rfl))) (Or.inr (hw _ (List.mem_of_getElem? (i := 31) rfl))) (by decide) (t := .int) (t' := .boolean) (by decide) (by decide)))
    have F_firstPlace_a0 : Fld Z h11 a0 "com/example/nimble_needle/nimbleneedle/algorithm/WordSieve" "firstPlace" "I" u_firstPlace := F_firstPlace_a0.other W11 (Or.inr (slot_ne (Or.inr (hw _ (List.mem_of_getElem? (i := 33) rfl))) (Or.inr (hw _ (List.mem_of_getElem? (i := 31) rfl))) (by decide) (t := .int) (t' := .boolean) (by decide) (by decide)))
    have F_secondPlace_a0 : Fld Z h11 a0 "com/example/nimble_needle/nimbleneedle/algorithm/WordSieve" "secondPlace" "I" u_secondPlace := F_secondPlace_a0.other W11 (Or.inr (slot_ne (Or.inr (hw _ (List.mem_of_getElem? (i := 39) rfl))) (Or.inr (hw _ (List.mem_of_getElem? (i := 31) rfl))) (by decide) (t := .int) (t' := .boolean) (by decide) (by decide)))
    have F_thirdPlace_a0 : Fld Z h11 a0 "com/example/nimble_needle/nimbleneedle/algorithm/WordSieve" "thirdPlace" "I" u_thirdPlace := F_thirdPlace_a0.other W11 (Or.inr (slot_ne (Or.inr (hw _ (List.mem_of_getElem? (i := 41) rfl))) (Or.inr (hw _ (List.mem_of_getElem? (i := 31) rfl))) (by decide) (t := .int) (t' := .boolean) (by decide) (by decide)))
    have F_firstBytes_a0 : Fld Z h11 a0 "com/example/nimble_needle/nimbleneedle/algorithm/WordSieve" "firstBytes" "J" u_firstBytes := F_firstBytes_a0.other W11 (Or.inr (slot_ne (Or.inr (hw _ (List.mem_of_getElem? (i := 47) rfl))) (Or.inr (hw _ (List.mem_of_getElem? (i := 31) rfl))) (by decide) (t := .long) (t' := .boolean) (by decide) (by decide)))
    have F_secondBytes_a0 : Fld Z h11 a0 "com/example/nimble_needle/nimbleneedle/algorithm/WordSieve" "secondBytes" "J" u_secondBytes := F_secondBytes_a0.other W11 (Or.inr (slot_ne (Or.inr (hw _ (List.mem_of_getElem? (i := 49) rfl))) (Or.inr (hw _ (List.mem_of_getElem? (i := 31) rfl))) (by decide) (t := .long) (t' := .boolean) (by decide) (by decide)))
    have F_thirdBytes_a0 : Fld Z h11 a0 "com/example/nimble_needle/nimbleneedle/algorithm/WordSieve" "thirdBytes" "J" u_thirdBytes := F_thirdBytes_a0.other W11 (Or.inr (slot_ne (Or.inr (hw _ (List.mem_of_getElem? (i := 51) rfl))) (Or.inr (hw _ (List.mem_of_getElem? (i := 31) rfl))) (by decide) (t := .long) (t' := .boolean) (by decide) (by decide)))
    have F_lastPlace_a0 : Fld Z h11 a0 "com/example/nimble_needle/nimbleneedle/algorithm/WordSieve" "lastPlace" "I" u_lastPlace := F_lastPlace_a0.other W11 (Or.inr (slot_ne (Or.inr (hw _ (List.mem_of_getElem? (i := 56) rfl))) (Or.inr (hw _ (List.mem_of_getElem? (i := 31) rfl))) (by decide) (t := .int) (t' := .boolean) (by decide) (by decide)))
    have V_a1 : Arv Z h11 a1 k1 .char nn [] (.int (0 : Int32)) := V_a1.other W11 ne_a1_a0
    have V_a2 : Arv Z h11 a2 k2 .int (1 : Int32) [(.int (0 : Int32))] (.int (0 : Int32)) := V_a2.other W11 ne_a2_a0
    have Zh11 : n0 ≤ h11.size := Nat.le_trans Zh9 (Keep.of_wr W11).1
    have Kh11 : Keep h0 h11 [a0] := Kh9.wr W11 (Or.inl (by simp))
    have N11 := Fr.snoc X11 N9 g_a0
    obtain ⟨cl12, Ar12, -, SS12, MM12, HH12, -⟩ := id V_a2
    have hin12 := inb_of SS12 (j := (0 : Int32)) ⟨by decide, by decide⟩
    have hat12 : cl12.slots[((0 : Int32)).toNatClampNeg]? = some (.int (0 : Int32)) := HH12.at hin12 rfl
    obtain ⟨T13, h13, X13, e13, W13, st13⟩ := putF X11 hx hZ hown (host := "") (Or.inl (hw _ (List.mem_of_getElem? (i := 32) rfl))) Via.refl e11 F_firstPlace_a0 E_a0 (Or.inr ⟨(hw _ (List.mem_of_getElem? (i := 33) rfl)), rfl, hnm⟩) (hw _ (List.mem_of_getElem? (i := 7) rfl)) (ty := .int) (by decide) rfl rfl (g := (mkF m 90 #[.val (.ref a0), .val (.ref a1), .val (.ref a2), .val .null, .val (.int p4), .val (.int p5)] [(.int (0 : Int32)), (.ref a0)])) rfl rfl (hb hby d3_90)
    have F_firstPlace_a0 : Fld Z h13 a0 "com/example/nimble_needle/nimbleneedle/algorithm/WordSieve" "firstPlace" "I" (.int (0 : Int32)) := F_firstPlace_a0.same W13
    have E_a0 : Exa Z h13 a0 "com/example/nimble_needle/nimbleneedle/algorithm/WordSieve" := E_a0.wr W13
    have F_length_a0 : Fld Z h13 a0 "com/example/nimble_needle/nimbleneedle/algorithm/WordSieve" "length" "I" (.int nn) := F_length_a0.other W13 (Or.inr (slot_ne (Or.inr (hw _ (List.mem_of_getElem? (i := 19) rfl))) (Or.inr (hw _ (List.mem_of_getElem? (i := 33) rfl))) (by decide) (t := .int) (t' := .int) (by decide) (by decide)))
    have F_secondPlace_a0 : Fld Z h13 a0 "com/example/nimble_needle/nimbleneedle/algorithm/WordSieve" "secondPlace" "I" u_secondPlace := F_secondPlace_a0.other W13 (Or.inr (slot_ne (Or.inr (hw _ (List.mem_of_getElem? (i := 39) rfl))) (Or.inr (hw _ (List.mem_of_getElem? (i := 33) rfl))) (by decide) (t := .int) (t' := .int) (by decide) (by decide)))
    have F_thirdPlace_a0 : Fld Z h13 a0 "com/example/nimble_needle/nimbleneedle/algorithm/WordSieve" "thirdPlace" "I" u_thirdPlace := F_thirdPlace_a0.other W13 (Or.inr (slot_ne (Or.inr (hw _ (List.mem_of_getElem? (i := 41) rfl))) (Or.inr (hw _ (List.mem_of_getElem? (i := 33) rfl))) (by decide) (t := .int) (t' := .int) (by decide) (by decide)))
    have F_firstBytes_a0 : Fld Z h13 a0 "com/example/nimble_needle/nimbleneedle/algorithm/WordSieve" "firstBytes" "J" u_firstBytes := F_firstBytes_a0.other W13 (Or.inr (slot_ne (Or.inr (hw _ (List.mem_of_getElem? (i := 47) rfl))) (Or.inr (hw _ (List.mem_of_getElem? (i := 33) rfl))) (by decide) (t := .long) (t' := .int) (by decide) (by decide)))
    have F_secondBytes_a0 : Fld Z h13 a0 "com/example/nimble_needle/nimbleneedle/algorithm/WordSieve" "secondBytes" "J" u_secondBytes := F_secondBytes_a0.other W13 (Or.inr (slot_ne (Or.inr (hw _ (List.mem_of_getElem? (i := 49) rfl))) (Or.inr (hw _ (List.mem_of_getElem? (i := 33) rfl))) (by decide) (t := .long) (t' := .int) (by decide) (by decide)))
    have F_thirdBytes_a0 : Fld Z h13 a0 "com/example/nimble_needle/nimbleneedle/algorithm/WordSieve" "thirdBytes" "J" u_thirdBytes := F_thirdBytes_a0.other W13 (Or.inr (slot_ne (Or.inr (hw _ (List.mem_of_getElem? (i := 51) rfl))) (Or.inr (hw _ (List.mem_of_getElem? (i := 33) rfl))) (by decide) (t := .long) (t' := .int) (by decide) (by decide)))
    have F_lastPlace_a0 : Fld Z h13 a0 "com/example/nimble_needle/nimbleneedle/algorithm/WordSieve" "lastPlace" "I" u_lastPlace := F_lastPlace_a0.other W13 (Or.inr (slot_ne (Or.inr (hw _ (List.mem_of_getElem? (i := 56) rfl))) (Or.inr (hw _ (List.mem_of_getElem? (i := 33) rfl))) (by decide) (t := .int) (t' := .int) (by decide) (by decide)))
    have V_a1 : Arv Z h13 a1 k1 .char nn [] (.int (0 : Int32)) := V_a1.other W13 ne_a1_a0
    have V_a2 : Arv Z h13 a2 k2 .int (1 : Int32) [(.int (0 : Int32))] (.int (0 : Int32)) := V_a2.other W13 ne_a2_a0
    have Zh13 : n0 ≤ h13.size := Nat.le_trans Zh11 (Keep.of_wr W13).1
    have Kh13 : Keep h0 h13 [a0] := Kh11.wr W13 (Or.inl (by simp))
    have N13 := Fr.snoc X13 N11 g_a0
    obtain ⟨cl14, Ar14, -, SS14, MM14, -, -⟩ := id V_a2
    obtain ⟨_, _, ⟨T15, L15, k15, n15⟩, -, X15, ⟨Lc15, hQ15, l15, y15, z15⟩, st15⟩ := Jvm.LawKit.callS X13 hx (y := (⟨"java/lang/Math", "min", "(II)I"⟩ : MethodName)) hown (mvT hZ (hw _ (List.mem_of_getElem? (i := 34) rfl))) (mvT hZ (hw _ (List.mem_of_getElem? (i := 35) rfl))) (mvT hZ (hw _ (List.mem_of_getElem? (i := 36) rfl))) (mvT hZ (hw _ (List.mem_of_getElem? (i := 37) rfl))) (by decide) (backOf (W := 2) (rm5 l Z A0 hw [] (1 : Int32) ((1 : Int32) - (1 : Int32))  h13 n0 Zh13 ) hZ (hw _ (List.mem_of_getElem? (i := 37) rfl)) (hw _ (List.mem_of_getElem? (i := 36) rfl)) (by decide) (by decide)) (g := (mkF m 100 #[.val (.ref a0), .val (.ref a1), .val (.ref a2), .val .null, .val (.int p4), .val (.int p5)] [(.int ((1 : Int32) - (1 : Int32))), (.int (1 : Int32)), (.ref a2), (.ref a0)])) rfl (by rw [hml]; rfl) (argsL := [(.int (1 : Int32)), (.int ((1 : Int32) - (1 : Int32)))]) (rest := [(.ref a2), (.ref a0)]) (lenOf pd_0 rfl) rfl (by show 2 * 0 + _ ≤ _; exact Nat.le_of_eq rfl) (hb hby d3_100) (fun _ _ => ⟨rfl, e13, (by decide : 0 + 0 ≤ _), (by decide : 0 + 0 ≤ _)⟩)
    dsimp only [Pt.U, Pt.locs, Pt.cells, Pt.slots] at X15 l15 y15 z15 st15 hQ15
    subst l15 y15 z15
    obtain ⟨rfl, N15q, eh15⟩ := hQ15
    have N15 := Fr.app N13 N15q
    obtain ⟨cl16, Ar16, -, SS16, MM16, HH16, -⟩ := id V_a2
    have hin16 := inb_of SS16 (j := (if ((1 : Int32) - (1 : Int32)) < (1 : Int32) then ((1 : Int32) - (1 : Int32)) else (1 : Int32))) ⟨by decide, by decide⟩
    have hat16 : cl16.slots[((if ((1 : Int32) - (1 : Int32)) < (1 : Int32) then ((1 : Int32) - (1 : Int32)) else (1 : Int32))).toNatClampNeg]? = some (.int (0 : Int32)) := HH16.at hin16 rfl
    obtain ⟨T17, h17, X17, e17, W17, st17⟩ := putF X15 hx hZ hown (host := "") (Or.inl (hw _ (List.mem_of_getElem? (i := 38) rfl))) Via.refl eh15 F_secondPlace_a0 E_a0 (Or.inr ⟨(hw _ (List.mem_of_getElem? (i := 39) rfl)), rfl, hnm⟩) (hw _ (List.mem_of_getElem? (i := 7) rfl)) (ty := .int) (by decide) rfl rfl (g := (mkF m 104 #[.val (.ref a0), .val (.ref a1), .val (.ref a2), .val .null, .val (.int p4), .val (.int p5)] [(.int (0 : Int32)), (.ref a0)])) rfl rfl (hb hby d3_104)
    have F_secondPlace_a0 : Fld Z h17 a0 "com/example/nimble_needle/nimbleneedle/algorithm/WordSieve" "secondPlace" "I" (.int (0 : Int32)) := F_secondPlace_a0.same W17
    have E_a0 : Exa Z h17 a0 "com/example/nimble_needle/nimbleneedle/algorithm/WordSieve" := E_a0.wr W17
    have F_length_a0 : Fld Z h17 a0 "com/example/nimble_needle/nimbleneedle/algorithm/WordSieve" "length" "I" (.int nn) := F_length_a0.other W17 (Or.inr (slot_ne (Or.inr (hw _ (List.mem_of_getElem? (i := 19) rfl))) (Or.inr (hw _ (List.mem_of_getElem? (i := 39) rfl))) (by decide) (t := .int) (t' := .int) (by decide) (by decide)))
    have F_firstPlace_a0 : Fld Z h17 a0 "com/example/nimble_needle/nimbleneedle/algorithm/WordSieve" "firstPlace" "I" (.int (0 : Int32)) := F_firstPlace_a0.other W17 (Or.inr (slot_ne (Or.inr (hw _ (List.mem_of_getElem? (i := 33) rfl))) (Or.inr (hw _ (List.mem_of_getElem? (i := 39) rfl))) (by decide) (t := .int) (t' := .int) (by decide) (by decide)))
    have F_thirdPlace_a0 : Fld Z h17 a0 "com/example/nimble_needle/nimbleneedle/algorithm/WordSieve" "thirdPlace" "I" u_thirdPlace := F_thirdPlace_a0.other W17 (Or.inr (slot_ne (Or.inr (hw _ (List.mem_of_getElem? (i := 41) rfl))) (Or.inr (hw _ (List.mem_of_getElem? (i := 39) rfl))) (by decide) (t := .int) (t' := .int) (by decide) (by decide)))
    have F_firstBytes_a0 : Fld Z h17 a0 "com/example/nimble_needle/nimbleneedle/algorithm/WordSieve" "firstBytes" "J" u_firstBytes := F_firstBytes_a0.other W17 (Or.inr (slot_ne (Or.inr (hw _ (List.mem_of_getElem? (i := 47) rfl))) (Or.inr (hw _ (List.mem_of_getElem? (i := 39) rfl))) (by decide) (t := .long) (t' := .int) (by decide) (by decide)))
    have F_secondBytes_a0 : Fld Z h17 a0 "com/example/nimble_needle/nimbleneedle/algorithm/WordSieve" "secondBytes" "J" u_secondBytes := F_secondBytes_a0.other W17 (Or.inr (slot_ne (Or.inr (hw _ (List.mem_of_getElem? (i := 49) rfl))) (Or.inr (hw _ (List.mem_of_getElem? (i := 39) rfl))) (by decide) (t := .long) (t' := .int) (by decide) (by decide)))
    have F_thirdBytes_a0 : Fld Z h17 a0 "com/example/nimble_needle/nimbleneedle/algorithm/WordSieve" "thirdBytes" "J" u_thirdBytes := F_thirdBytes_a0.other W17 (Or.inr (slot_ne (Or.inr (hw _ (List.mem_of_getElem? (i := 51) rfl))) (Or.inr (hw _ (List.mem_of_getElem? (i := 39) rfl))) (by decide) (t := .long) (t' := .int) (by decide) (by decide)))
    have F_lastPlace_a0 : Fld Z h17 a0 "com/example/nimble_needle/nimbleneedle/algorithm/WordSieve" "lastPlace" "I" u_lastPlace := F_lastPlace_a0.other W17 (Or.inr (slot_ne (Or.inr (hw _ (List.mem_of_getElem? (i := 56) rfl))) (Or.inr (hw _ (List.mem_of_getElem? (i := 39) rfl))) (by decide) (t := .int) (t' := .int) (by decide) (by decide)))
    have V_a1 : Arv Z h17 a1 k1 .char nn [] (.int (0 : Int32)) := V_a1.other W17 ne_a1_a0
    have V_a2 : Arv Z h17 a2 k2 .int (1 : Int32) [(.int (0 : Int32))] (.int (0 : Int32)) := V_a2.other W17 ne_a2_a0
    have Zh17 : n0 ≤ h17.size := Nat.le_trans Zh13 (Keep.of_wr W17).1
    have Kh17 : Keep h0 h17 [a0] := Kh13.wr W17 (Or.inl (by simp))
    have N17 := Fr.snoc X17 N15 g_a0
    obtain ⟨cl18, Ar18, -, SS18, MM18, -, -⟩ := id V_a2
    obtain ⟨cl19, Ar19, -, SS19, MM19, HH19, -⟩ := id V_a2
    have hin19 := inb_of SS19 (j := ((1 : Int32) - (1 : Int32))) ⟨by decide, by decide⟩
    have hat19 : cl19.slots[(((1 : Int32) - (1 : Int32))).toNatClampNeg]? = some (.int (0 : Int32)) := HH19.at hin19 rfl
    obtain ⟨T20, h20, X20, e20, W20, st20⟩ := putF X17 hx hZ hown (host := "") (Or.inl (hw _ (List.mem_of_getElem? (i := 40) rfl))) Via.refl e17 F_thirdPlace_a0 E_a0 (Or.inr ⟨(hw _ (List.mem_of_getElem? (i := 41) rfl)), rfl, hnm⟩) (hw _ (List.mem_of_getElem? (i := 7) rfl)) (ty := .int) (by decide) rfl rfl (g := (mkF m 114 #[.val (.ref a0), .val (.ref a1), .val (.ref a2), .val .null, .val (.int p4), .val (.int p5)] [(.int (0 : Int32)), (.ref a0)])) rfl rfl (hb hby d3_114)
    have F_thirdPlace_a0 : Fld Z h20 a0 "com/example/nimble_needle/nimbleneedle/algorithm/WordSieve" "thirdPlace" "I" (.int (0 : Int32)) := F_thirdPlace_a0.same W20
    have E_a0 : Exa Z h20 a0 "com/example/nimble_needle/nimbleneedle/algorithm/WordSieve" := E_a0.wr W20
    have F_length_a0 : Fld Z h20 a0 "com/example/nimble_needle/nimbleneedle/algorithm/WordSieve" "length" "I" (.int nn) := F_length_a0.other W20 (Or.inr (slot_ne (Or.inr (hw _ (List.mem_of_getElem? (i := 19) rfl))) (Or.inr (hw _ (List.mem_of_getElem? (i := 41) rfl))) (by decide) (t := .int) (t' := .int) (by decide) (by decide)))
    have F_firstPlace_a0 : Fld Z h20 a0 "com/example/nimble_needle/nimbleneedle/algorithm/WordSieve" "firstPlace" "I" (.int (0 : Int32)) := F_firstPlace_a0.other W20 (Or.inr (slot_ne (Or.inr (hw _ (List.mem_of_getElem? (i := 33) rfl))) (Or.inr (hw _ (List.mem_of_getElem? (i := 41) rfl))) (by decide) (t := .int) (t' := .int) (by decide) (by decide)))
    have F_secondPlace_a0 : Fld Z h20 a0 "com/example/nimble_needle/nimbleneedle/algorithm/WordSieve" "secondPlace" "I" (.int (0 : Int32)) := F_secondPlace_a0.other W20 (Or.inr (slot_ne (Or.inr (hw _ (List.mem_of_getElem? (i := 39) rfl))) (Or.inr (hw _ (List.mem_of_getElem? (i := 41) rfl))) (by decide) (t := .int) (t' := .int) (by decide) (by decide)))
    have F_firstBytes_a0 : Fld Z h20 a0 "com/example/nimble_needle/nimbleneedle/algorithm/WordSieve" "firstBytes" "J" u_firstBytes := F_firstBytes_a0.other W20 (Or.inr (slot_ne (Or.inr (hw _ (List.mem_of_getElem? (i := 47) rfl))) (Or.inr (hw _ (List.mem_of_getElem? (i := 41) rfl))) (by decide) (t := .long) (t' := .int) (by decide) (by decide)))
    have F_secondBytes_a0 : Fld Z h20 a0 "com/example/nimble_needle/nimbleneedle/algorithm/WordSieve" "secondBytes" "J" u_secondBytes := F_secondBytes_a0.other W20 (Or.inr (slot_ne (Or.inr (hw _ (List.mem_of_getElem? (i := 49) rfl))) (Or.inr (hw _ (List.mem_of_getElem? (i := 41) rfl))) (by decide) (t := .long) (t' := .int) (by decide) (by decide)))
    have F_thirdBytes_a0 : Fld Z h20 a0 "com/example/nimble_needle/nimbleneedle/algorithm/WordSieve" "thirdBytes" "J" u_thirdBytes := F_thirdBytes_a0.other W20 (Or.inr (slot_ne (Or.inr (hw _ (List.mem_of_getElem? (i := 51) rfl))) (Or.inr (hw _ (List.mem_of_getElem? (i := 41) rfl))) (by decide) (t := .long) (t' := .int) (by decide) (by decide)))
    have F_lastPlace_a0 : Fld Z h20 a0 "com/example/nimble_needle/nimbleneedle/algorithm/WordSieve" "lastPlace" "I" u_lastPlace := F_lastPlace_a0.other W20 (Or.inr (slot_ne (Or.inr (hw _ (List.mem_of_getElem? (i := 56) rfl))) (Or.inr (hw _ (List.mem_of_getElem? (i := 41) rfl))) (by decide) (t := .int) (t' := .int) (by decide) (by decide)))
    have V_a1 : Arv Z h20 a1 k1 .char nn [] (.int (0 : Int32)) := V_a1.other W20 ne_a1_a0
    have V_a2 : Arv Z h20 a2 k2 .int (1 : Int32) [(.int (0 : Int32))] (.int (0 : Int32)) := V_a2.other W20 ne_a2_a0
    have Zh20 : n0 ≤ h20.size := Nat.le_trans Zh17 (Keep.of_wr W20).1
    have Kh20 : Keep h0 h20 [a0] := Kh17.wr W20 (Or.inl (by simp))
    have N20 := Fr.snoc X20 N17 g_a0
    obtain ⟨T21, X21, e21, st21⟩ := getF X20 hx hZ hown (host := "") (Or.inl (hw _ (List.mem_of_getElem? (i := 32) rfl))) Via.refl e20 F_firstPlace_a0 (g := (mkF m 120 #[.val (.ref a0), .val (.ref a1), .val (.ref a2), .val .null, .val (.int p4), .val (.int p5)] [(.ref a0), (.ref a1), (.ref a0)])) rfl rfl (hb hby d3_120)
    obtain ⟨cl22, Ar22, -, SS22, MM22, HH22, -⟩ := id V_a1
    have hin22 := inb_of SS22 hnn
    have hat22 : cl22.slots[((0 : Int32)).toNatClampNeg]? = some (.int (0 : Int32)) := HH22.at hin22 rfl
    obtain ⟨_, _, ⟨T23, L23, k23, n23⟩, -, X23, ⟨Lc23, hQ23, l23, y23, z23⟩, st23⟩ := Jvm.LawKit.callS X21 hx (y := (⟨"com/example/nimble_needle/nimbleneedle/algorithm/WordSieve", "inEveryByte", "(C)J"⟩ : MethodName)) hown (mvT hZ (hw _ (List.mem_of_getElem? (i := 42) rfl))) (mvT hZ (hw _ (List.mem_of_getElem? (i := 43) rfl))) (mvT hZ (hw _ (List.mem_of_getElem? (i := 8) rfl))) (mvT hZ (hw _ (List.mem_of_getElem? (i := 44) rfl))) (by decide) (backOf (W := 1) (rm6 l Z A0 hw [] (0 : Int32)  h20 n0 Zh20 ) hZ (hw _ (List.mem_of_getElem? (i := 44) rfl)) (hw _ (List.mem_of_getElem? (i := 8) rfl)) (by decide) (by decide)) (g := (mkF m 124 #[.val (.ref a0), .val (.ref a1), .val (.ref a2), .val .null, .val (.int p4), .val (.int p5)] [(.int (0 : Int32)), (.ref a0)])) rfl (by rw [hml]; rfl) (argsL := [(.int (0 : Int32))]) (rest := [(.ref a0)]) (lenOf pd_1 rfl) rfl (by show 2 * 0 + _ ≤ _; exact Nat.le_of_eq rfl) (hb hby d3_124) (fun _ _ => ⟨rfl, e21, (by decide : 0 + 0 ≤ _), (by decide : 0 + 0 ≤ _)⟩)
    dsimp only [Pt.U, Pt.locs, Pt.cells, Pt.slots] at X23 l23 y23 z23 st23 hQ23
    subst l23 y23 z23
    obtain ⟨rfl, N23q, eh23⟩ := hQ23
    have N23 := Fr.app N20 N23q
    obtain ⟨T24, h24, X24, e24, W24, st24⟩ := putF X23 hx hZ hown (host := "") (Or.inl (hw _ (List.mem_of_getElem? (i := 46) rfl))) Via.refl eh23 F_firstBytes_a0 E_a0 (Or.inr ⟨(hw _ (List.mem_of_getElem? (i := 47) rfl)), rfl, hnm⟩) (hw _ (List.mem_of_getElem? (i := 7) rfl)) (ty := .long) (by decide) rfl rfl (g := (mkF m 127 #[.val (.ref a0), .val (.ref a1), .val (.ref a2), .val .null, .val (.int p4), .val (.int p5)] [(.long (((if (255 : Int32) < (0 : Int32) then (63 : Int32) else (0 : Int32)).toInt64) * (72340172838076673 : Int64))), (.ref a0)])) rfl rfl (hb hby d3_127)
    have F_firstBytes_a0 : Fld Z h24 a0 "com/example/nimble_needle/nimbleneedle/algorithm/WordSieve" "firstBytes" "J" (.long (((if (255 : Int32) < (0 : Int32) then (63 : Int32) else (0 : Int32)).toInt64) * (72340172838076673 : Int64))) := F_firstBytes_a0.same W24
    have E_a0 : Exa Z h24 a0 "com/example/nimble_needle/nimbleneedle/algorithm/WordSieve" := E_a0.wr W24
    have F_length_a0 : Fld Z h24 a0 "com/example/nimble_needle/nimbleneedle/algorithm/WordSieve" "length" "I" (.int nn) := F_length_a0.other W24 (Or.inr (slot_ne (Or.inr (hw _ (List.mem_of_getElem? (i := 19) rfl))) (Or.inr (hw _ (List.mem_of_getElem? (i := 47) rfl))) (by decide) (t := .int) (t' := .long) (by decide) (by decide)))
    have F_firstPlace_a0 : Fld Z h24 a0 "com/example/nimble_needle/nimbleneedle/algorithm/WordSieve" "firstPlace" "I" (.int (0 : Int32)) := F_firstPlace_a0.other W24 (Or.inr (slot_ne (Or.inr (hw _ (List.mem_of_getElem? (i := 33) rfl))) (Or.inr (hw _ (List.mem_of_getElem? (i := 47) rfl))) (by decide) (t := .int) (t' := .long) (by decide) (by decide)))
    have F_secondPlace_a0 : Fld Z h24 a0 "com/example/nimble_needle/nimbleneedle/algorithm/WordSieve" "secondPlace" "I" (.int (0 : Int32)) := F_secondPlace_a0.other W24 (Or.inr (slot_ne (Or.inr (hw _ (List.mem_of_getElem? (i := 39) rfl))) (Or.inr (hw _ (List.mem_of_getElem? (i := 47) rfl))) (by decide) (t := .int) (t' := .long) (by decide) (by decide)))
    have F_thirdPlace_a0 : Fld Z h24 a0 "com/example/nimble_needle/nimbleneedle/algorithm/WordSieve" "thirdPlace" "I" (.int (0 : Int32)) := F_thirdPlace_a0.other W24 (Or.inr (slot_ne (Or.inr (hw _ (List.mem_of_getElem? (i := 41) rfl))) (Or.inr (hw _ (List.mem_of_getElem? (i := 47) rfl))) (by decide) (t := .int) (t' := .long) (by decide) (by decide)))
    have F_secondBytes_a0 : Fld Z h24 a0 "com/example/nimble_needle/nimbleneedle/algorithm/WordSieve" "secondBytes" "J" u_secondBytes := F_secondBytes_a0.other W24 (Or.inr (slot_ne (Or.inr (hw _ (List.mem_of_getElem? (i := 49) rfl))) (Or.inr (hw _ (List.mem_of_getElem? (i := 47) rfl))) (by decide) (t := .long) (t' := .long) (by decide) (by decide)))
    have F_thirdBytes_a0 : Fld Z h24 a0 "com/example/nimble_needle/nimbleneedle/algorithm/WordSieve" "thirdBytes" "J" u_thirdBytes := F_thirdBytes_a0.other W24 (Or.inr (slot_ne (Or.inr (hw _ (List.mem_of_getElem? (i := 51) rfl))) (Or.inr (hw _ (List.mem_of_getElem? (i := 47) rfl))) (by decide) (t := .long) (t' := .long) (by decide) (by decide)))
    have F_lastPlace_a0 : Fld Z h24 a0 "com/example/nimble_needle/nimbleneedle/algorithm/WordSieve" "lastPlace" "I" u_lastPlace := F_lastPlace_a0.other W24 (Or.inr (slot_ne (Or.inr (hw _ (List.mem_of_getElem? (i := 56) rfl))) (Or.inr (hw _ (List.mem_of_getElem? (i := 47) rfl))) (by decide) (t := .int) (t' := .long) (by decide) (by decide)))
    have V_a1 : Arv Z h24 a1 k1 .char nn [] (.int (0 : Int32)) := V_a1.other W24 ne_a1_a0
    have V_a2 : Arv Z h24 a2 k2 .int (1 : Int32) [(.int (0 : Int32))] (.int (0 : Int32)) := V_a2.other W24 ne_a2_a0
    have Zh24 : n0 ≤ h24.size := Nat.le_trans Zh20 (Keep.of_wr W24).1
    have Kh24 : Keep h0 h24 [a0] := Kh20.wr W24 (Or.inl (by simp))
    have N24 := Fr.snoc X24 N23 g_a0
    obtain ⟨T25, X25, e25, st25⟩ := getF X24 hx hZ hown (host := "") (Or.inl (hw _ (List.mem_of_getElem? (i := 38) rfl))) Via.refl e24 F_secondPlace_a0 (g := (mkF m 133 #[.val (.ref a0), .val (.ref a1), .val (.ref a2), .val .null, .val (.int p4), .val (.int p5)] [(.ref a0), (.ref a1), (.ref a0)])) rfl rfl (hb hby d3_133)
    obtain ⟨cl26, Ar26, -, SS26, MM26, HH26, -⟩ := id V_a1
    have hin26 := inb_of SS26 hnn
    have hat26 : cl26.slots[((0 : Int32)).toNatClampNeg]? = some (.int (0 : Int32)) := HH26.at hin26 rfl
    obtain ⟨_, _, ⟨T27, L27, k27, n27⟩, -, X27, ⟨Lc27, hQ27, l27, y27, z27⟩, st27⟩ := Jvm.LawKit.callS X25 hx (y := (⟨"com/example/nimble_needle/nimbleneedle/algorithm/WordSieve", "inEveryByte", "(C)J"⟩ : MethodName)) hown (mvT hZ (hw _ (List.mem_of_getElem? (i := 42) rfl))) (mvT hZ (hw _ (List.mem_of_getElem? (i := 43) rfl))) (mvT hZ (hw _ (List.mem_of_getElem? (i := 8) rfl))) (mvT hZ (hw _ (List.mem_of_getElem? (i := 44) rfl))) (by decide) (backOf (W := 1) (rm6 l Z A0 hw [] (0 : Int32)  h24 n0 Zh24 ) hZ (hw _ (List.mem_of_getElem? (i := 44) rfl)) (hw _ (List.mem_of_getElem? (i := 8) rfl)) (by decide) (by decide)) (g := (mkF m 137 #[.val (.ref a0), .val (.ref a1), .val (.ref a2), .val .null, .val (.int p4), .val (.int p5)] [(.int (0 : Int32)), (.ref a0)])) rfl (by rw [hml]; rfl) (argsL := [(.int (0 : Int32))]) (rest := [(.ref a0)]) (lenOf pd_1 rfl) rfl (by show 2 * 0 + _ ≤ _; exact Nat.le_of_eq rfl) (hb hby d3_137) (fun _ _ => ⟨rfl, e25, (by decide : 0 + 0 ≤ _), (by decide : 0 + 0 ≤ _)⟩)
    dsimp only [Pt.U, Pt.locs, Pt.cells, Pt.slots] at X27 l27 y27 z27 st27 hQ27
    subst l27 y27 z27
    obtain ⟨rfl, N27q, eh27⟩ := hQ27
    have N27 := Fr.app N24 N27q
    obtain ⟨T28, h28, X28, e28, W28, st28⟩ := putF X27 hx hZ hown (host := "") (Or.inl (hw _ (List.mem_of_getElem? (i := 48) rfl))) Via.refl eh27 F_secondBytes_a0 E_a0 (Or.inr ⟨(hw _ (List.mem_of_getElem? (i := 49) rfl)), rfl, hnm⟩) (hw _ (List.mem_of_getElem? (i := 7) rfl)) (ty := .long) (by decide) rfl rfl (g := (mkF m 140 #[.val (.ref a0), .val (.ref a1), .val (.ref a2), .val .null, .val (.int p4), .val (.int p5)] [(.long (((if (255 : Int32) < (0 : Int32) then (63 : Int32) else (0 : Int32)).toInt64) * (72340172838076673 : Int64))), (.ref a0)])) rfl rfl (hb hby d3_140)
    have F_secondBytes_a0 : Fld Z h28 a0 "com/example/nimble_needle/nimbleneedle/algorithm/WordSieve" "secondBytes" "J" (.long (((if (255 : Int32) < (0 : Int32) then (63 : Int32) else (0 : Int32)).toInt64) * (72340172838076673 : Int64))) := F_secondBytes_a0.same W28
    have E_a0 : Exa Z h28 a0 "com/example/nimble_needle/nimbleneedle/algorithm/WordSieve" := E_a0.wr W28
    have F_length_a0 : Fld Z h28 a0 "com/example/nimble_needle/nimbleneedle/algorithm/WordSieve" "length" "I" (.int nn) := F_length_a0.other W28 (Or.inr (slot_ne (Or.inr (hw _ (List.mem_of_getElem? (i := 19) rfl))) (Or.inr (hw _ (List.mem_of_getElem? (i := 49) rfl))) (by decide) (t := .int) (t' := .long) (by decide) (by decide)))
    have F_firstPlace_a0 : Fld Z h28 a0 "com/example/nimble_needle/nimbleneedle/algorithm/WordSieve" "firstPlace" "I" (.int (0 : Int32)) := F_firstPlace_a0.other W28 (Or.inr (slot_ne (Or.inr (hw _ (List.mem_of_getElem? (i := 33) rfl))) (Or.inr (hw _ (List.mem_of_getElem? (i := 49) rfl))) (by decide) (t := .int) (t' := .long) (by decide) (by decide)))
    have F_secondPlace_a0 : Fld Z h28 a0 "com/example/nimble_needle/nimbleneedle/algorithm/WordSieve" "secondPlace" "I" (.int (0 : Int32)) := F_secondPlace_a0.other W28 (Or.inr (slot_ne (Or.inr (hw _ (List.mem_of_getElem? (i := 39) rfl))) (Or.inr (hw _ (List.mem_of_getElem? (i := 49) rfl))) (by decide) (t := .int) (t' := .long) (by decide) (by decide)))
    have F_thirdPlace_a0 : Fld Z h28 a0 "com/example/nimble_needle/nimbleneedle/algorithm/WordSieve" "thirdPlace" "I" (.int (0 : Int32)) := F_thirdPlace_a0.other W28 (Or.inr (slot_ne (Or.inr (hw _ (List.mem_of_getElem? (i := 41) rfl))) (Or.inr (hw _ (List.mem_of_getElem? (i := 49) rfl))) (by decide) (t := .int) (t' := .long) (by decide) (by decide)))
    have F_thirdBytes_a0 : Fld Z h28 a0 "com/example/nimble_needle/nimbleneedle/algorithm/WordSieve" "thirdBytes" "J" u_thirdBytes := F_thirdBytes_a0.other W28 (Or.inr (slot_ne (Or.inr (hw _ (List.mem_of_getElem? (i := 51) rfl))) (Or.inr (hw _ (List.mem_of_getElem? (i := 49) rfl))) (by decide) (t := .long) (t' := .long) (by decide) (by decide)))
    have F_lastPlace_a0 : Fld Z h28 a0 "com/example/nimble_needle/nimbleneedle/algorithm/WordSieve" "lastPlace" "I" u_lastPlace := F_lastPlace_a0.other W28 (Or.inr (slot_ne (Or.inr (hw _ (List.mem_of_getElem? (i := 56) rfl))) (Or.inr (hw _ (List.mem_of_getElem? (i := 49) rfl))) (by decide) (t := .int) (t' := .long) (by decide) (by decide)))
    have V_a1 : Arv Z h28 a1 k1 .char nn [] (.int (0 : Int32)) := V_a1.other W28 ne_a1_a0
    have V_a2 : Arv Z h28 a2 k2 .int (1 : Int32) [(.int (0 : Int32))] (.int (0 : Int32)) := V_a2.other W28 ne_a2_a0
    have Zh28 : n0 ≤ h28.size := Nat.le_trans Zh24 (Keep.of_wr W28).1
    have Kh28 : Keep h0 h28 [a0] := Kh24.wr W28 (Or.inl (by simp))
    have N28 := Fr.snoc X28 N27 g_a0
    obtain ⟨T29, X29, e29, st29⟩ := getF X28 hx hZ hown (host := "") (Or.inl (hw _ (List.mem_of_getElem? (i := 40) rfl))) Via.refl e28 F_thirdPlace_a0 (g := (mkF m 146 #[.val (.ref a0), .val (.ref a1), .val (.ref a2), .val .null, .val (.int p4), .val (.int p5)] [(.ref a0), (.ref a1), (.ref a0)])) rfl rfl (hb hby d3_146)
    obtain ⟨cl30, Ar30, -, SS30, MM30, HH30, -⟩ := id V_a1
    have hin30 := inb_of SS30 hnn
    have hat30 : cl30.slots[((0 : Int32)).toNatClampNeg]? = some (.int (0 : Int32)) := HH30.at hin30 rfl
    obtain ⟨_, _, ⟨T31, L31, k31, n31⟩, -, X31, ⟨Lc31, hQ31, l31, y31, z31⟩, st31⟩ := Jvm.LawKit.callS X29 hx (y := (⟨"com/example/nimble_needle/nimbleneedle/algorithm/WordSieve", "inEveryByte", "(C)J"⟩ : MethodName)) hown (mvT hZ (hw _ (List.mem_of_getElem? (i := 42) rfl))) (mvT hZ (hw _ (List.mem_of_getElem? (i := 43) rfl))) (mvT hZ (hw _ (List.mem_of_getElem? (i := 8) rfl))) (mvT hZ (hw _ (List.mem_of_getElem? (i := 44) rfl))) (by decide) (backOf (W := 1) (rm6 l Z A0 hw [] (0 : Int32)  h28 n0 Zh28 ) hZ (hw _ (List.mem_of_getElem? (i := 44) rfl)) (hw _ (List.mem_of_getElem? (i := 8) rfl)) (by decide) (by decide)) (g := (mkF m 150 #[.val (.ref a0), .val (.ref a1), .val (.ref a2), .val .null, .val (.int p4), .val (.int p5)] [(.int (0 : Int32)), (.ref a0)])) rfl (by rw [hml]; rfl) (argsL := [(.int (0 : Int32))]) (rest := [(.ref a0)]) (lenOf pd_1 rfl) rfl (by show 2 * 0 + _ ≤ _; exact Nat.le_of_eq rfl) (hb hby d3_150) (fun _ _ => ⟨rfl, e29, (by decide : 0 + 0 ≤ _), (by decide : 0 + 0 ≤ _)⟩)
    dsimp only [Pt.U, Pt.locs, Pt.cells, Pt.slots] at X31 l31 y31 z31 st31 hQ31
    subst l31 y31 z31
    obtain ⟨rfl, N31q, eh31⟩ := hQ31
    have N31 := Fr.app N28 N31q
    obtain ⟨T32, h32, X32, e32, W32, st32⟩ := putF X31 hx hZ hown (host := "") (Or.inl (hw _ (List.mem_of_getElem? (i := 50) rfl))) Via.refl eh31 F_thirdBytes_a0 E_a0 (Or.inr ⟨(hw _ (List.mem_of_getElem? (i := 51) rfl)), rfl, hnm⟩) (hw _ (List.mem_of_getElem? (i := 7) rfl)) (ty := .long) (by decide) rfl rfl (g := (mkF m 153 #[.val (.ref a0), .val (.ref a1), .val (.ref a2), .val .null, .val (.int p4), .val (.int p5)] [(.long (((if (255 : Int32) < (0 : Int32) then (63 : Int32) else (0 : Int32)).toInt64) * (72340172838076673 : Int64))), (.ref a0)])) rfl rfl (hb hby d3_153)
    have F_thirdBytes_a0 : Fld Z h32 a0 "com/example/nimble_needle/nimbleneedle/algorithm/WordSieve" "thirdBytes" "J" (.long (((if (255 : Int32) < (0 : Int32) then (63 : Int32) else (0 : Int32)).toInt64) * (72340172838076673 : Int64))) := F_thirdBytes_a0.same W32
    have E_a0 : Exa Z h32 a0 "com/example/nimble_needle/nimbleneedle/algorithm/WordSieve" := E_a0.wr W32
    have F_length_a0 : Fld Z h32 a0 "com/example/nimble_needle/nimbleneedle/algorithm/WordSieve" "length" "I" (.int nn) := F_length_a0.other W32 (Or.inr (slot_ne (Or.inr (hw _ (List.mem_of_getElem? (i := 19) rfl))) (Or.inr (hw _ (List.mem_of_getElem? (i := 51) rfl))) (by decide) (t := .int) (t' := .long) (by decide) (by decide)))
    have F_firstPlace_a0 : Fld Z h32 a0 "com/example/nimble_needle/nimbleneedle/algorithm/WordSieve" "firstPlace" "I" (.int (0 : Int32)) := F_firstPlace_a0.other W32 (Or.inr (slot_ne (Or.inr (hw _ (List.mem_of_getElem? (i := 33) rfl))) (Or.inr (hw _ (List.mem_of_getElem? (i := 51) rfl))) (by decide) (t := .int) (t' := .long) (by decide) (by decide)))
    have F_secondPlace_a0 : Fld Z h32 a0 "com/example/nimble_needle/nimbleneedle/algorithm/WordSieve" "secondPlace" "I" (.int (0 : Int32)) := F_secondPlace_a0.other W32 (Or.inr (slot_ne (Or.inr (hw _ (List.mem_of_getElem? (i := 39) rfl))) (Or.inr (hw _ (List.mem_of_getElem? (i := 51) rfl))) (by decide) (t := .int) (t' := .long) (by decide) (by decide)))
    have F_thirdPlace_a0 : Fld Z h32 a0 "com/example/nimble_needle/nimbleneedle/algorithm/WordSieve" "thirdPlace" "I" (.int (0 : Int32)) := F_thirdPlace_a0.other W32 (Or.inr (slot_ne (Or.inr (hw _ (List.mem_of_getElem? (i := 41) rfl))) (Or.inr (hw _ (List.mem_of_getElem? (i := 51) rfl))) (by decide) (t := .int) (t' := .long) (by decide) (by decide)))
    have F_lastPlace_a0 : Fld Z h32 a0 "com/example/nimble_needle/nimbleneedle/algorithm/WordSieve" "lastPlace" "I" u_lastPlace := F_lastPlace_a0.other W32 (Or.inr (slot_ne (Or.inr (hw _ (List.mem_of_getElem? (i := 56) rfl))) (Or.inr (hw _ (List.mem_of_getElem? (i := 51) rfl))) (by decide) (t := .int) (t' := .long) (by decide) (by decide)))
    have V_a1 : Arv Z h32 a1 k1 .char nn [] (.int (0 : Int32)) := V_a1.other W32 ne_a1_a0
    have V_a2 : Arv Z h32 a2 k2 .int (1 : Int32) [(.int (0 : Int32))] (.int (0 : Int32)) := V_a2.other W32 ne_a2_a0
    have Zh32 : n0 ≤ h32.size := Nat.le_trans Zh28 (Keep.of_wr W32).1
    have Kh32 : Keep h0 h32 [a0] := Kh28.wr W32 (Or.inl (by simp))
    have N32 := Fr.snoc X32 N31 g_a0
    obtain ⟨T33, X33, e33, st33⟩ := getF X32 hx hZ hown (host := "") (Or.inl (hw _ (List.mem_of_getElem? (i := 32) rfl))) Via.refl e32 F_firstPlace_a0 (g := (mkF m 158 #[.val (.ref a0), .val (.ref a1), .val (.ref a2), .val .null, .val (.int p4), .val (.int p5)] [(.ref a0), (.ref a0)])) rfl rfl (hb hby d3_158)
    obtain ⟨T34, X34, e34, st34⟩ := getF X33 hx hZ hown (host := "") (Or.inl (hw _ (List.mem_of_getElem? (i := 38) rfl))) Via.refl e33 F_secondPlace_a0 (g := (mkF m 162 #[.val (.ref a0), .val (.ref a1), .val (.ref a2), .val .null, .val (.int p4), .val (.int p5)] [(.ref a0), (.int (0 : Int32)), (.ref a0)])) rfl rfl (hb hby d3_162)
    obtain ⟨T35, X35, e35, st35⟩ := getF X34 hx hZ hown (host := "") (Or.inl (hw _ (List.mem_of_getElem? (i := 40) rfl))) Via.refl e34 F_thirdPlace_a0 (g := (mkF m 166 #[.val (.ref a0), .val (.ref a1), .val (.ref a2), .val .null, .val (.int p4), .val (.int p5)] [(.ref a0), (.int (0 : Int32)), (.int (0 : Int32)), (.ref a0)])) rfl rfl (hb hby d3_166)
    obtain ⟨_, _, ⟨T36, L36, k36, n36⟩, -, X36, ⟨Lc36, hQ36, l36, y36, z36⟩, st36⟩ := Jvm.LawKit.callS X35 hx (y := (⟨"java/lang/Math", "max", "(II)I"⟩ : MethodName)) hown (mvT hZ (hw _ (List.mem_of_getElem? (i := 52) rfl))) (mvT hZ (hw _ (List.mem_of_getElem? (i := 53) rfl))) (mvT hZ (hw _ (List.mem_of_getElem? (i := 36) rfl))) (mvT hZ (hw _ (List.mem_of_getElem? (i := 54) rfl))) (by decide) (backOf (W := 2) (rm7 l Z A0 hw [] (0 : Int32) (0 : Int32)  h32 n0 Zh32 ) hZ (hw _ (List.mem_of_getElem? (i := 54) rfl)) (hw _ (List.mem_of_getElem? (i := 36) rfl)) (by decide) (by decide)) (g := (mkF m 169 #[.val (.ref a0), .val (.ref a1), .val (.ref a2), .val .null, .val (.int p4), .val (.int p5)] [(.int (0 : Int32)), (.int (0 : Int32)), (.int (0 : Int32)), (.ref a0)])) rfl (by rw [hml]; rfl) (argsL := [(.int (0 : Int32)), (.int (0 : Int32))]) (rest := [(.int (0 : Int32)), (.ref a0)]) (lenOf pd_0 rfl) rfl (by show 2 * 0 + _ ≤ _; exact Nat.le_of_eq rfl) (hb hby d3_169) (fun _ _ => ⟨rfl, e35, (by decide : 0 + 0 ≤ _), (by decide : 0 + 0 ≤ _)⟩)
    dsimp only [Pt.U, Pt.locs, Pt.cells, Pt.slots] at X36 l36 y36 z36 st36 hQ36
    subst l36 y36 z36
    obtain ⟨rfl, N36q, eh36⟩ := hQ36
    have N36 := Fr.app N32 N36q
    obtain ⟨_, _, ⟨T37, L37, k37, n37⟩, -, X37, ⟨Lc37, hQ37, l37, y37, z37⟩, st37⟩ := Jvm.LawKit.callS X36 hx (y := (⟨"java/lang/Math", "max", "(II)I"⟩ : MethodName)) hown (mvT hZ (hw _ (List.mem_of_getElem? (i := 52) rfl))) (mvT hZ (hw _ (List.mem_of_getElem? (i := 53) rfl))) (mvT hZ (hw _ (List.mem_of_getElem? (i := 36) rfl))) (mvT hZ (hw _ (List.mem_of_getElem? (i := 54) rfl))) (by decide) (backOf (W := 1) (rm7 l Z A0 hw [] (0 : Int32) (if (0 : Int32) < (0 : Int32) then (0 : Int32) else (0 : Int32))  h32 n0 Zh32 ) hZ (hw _ (List.mem_of_getElem? (i := 54) rfl)) (hw _ (List.mem_of_getElem? (i := 36) rfl)) (by decide) (by decide)) (g := (mkF m 172 #[.val (.ref a0), .val (.ref a1), .val (.ref a2), .val .null, .val (.int p4), .val (.int p5)] [(.int (if (0 : Int32) < (0 : Int32) then (0 : Int32) else (0 : Int32))), (.int (0 : Int32)), (.ref a0)])) rfl (by rw [hml]; rfl) (argsL := [(.int (0 : Int32)), (.int (if (0 : Int32) < (0 : Int32) then (0 : Int32) else (0 : Int32)))]) (rest := [(.ref a0)]) (lenOf pd_0 rfl) rfl (by show 2 * 0 + _ ≤ _; exact Nat.le_of_eq rfl) (hb hby d3_172) (fun _ _ => ⟨rfl, eh36, (by decide : 0 + 0 ≤ _), (by decide : 0 + 0 ≤ _)⟩)
    dsimp only [Pt.U, Pt.locs, Pt.cells, Pt.slots] at X37 l37 y37 z37 st37 hQ37
    subst l37 y37 z37
    obtain ⟨rfl, N37q, eh37⟩ := hQ37
    have N37 := Fr.app N36 N37q
    obtain ⟨T38, h38, X38, e38, W38, st38⟩ := putF X37 hx hZ hown (host := "") (Or.inl (hw _ (List.mem_of_getElem? (i := 55) rfl))) Via.refl eh37 F_lastPlace_a0 E_a0 (Or.inr ⟨(hw _ (List.mem_of_getElem? (i := 56) rfl)), rfl, hnm⟩) (hw _ (List.mem_of_getElem? (i := 7) rfl)) (ty := .int) (by decide) rfl rfl (g := (mkF m 175 #[.val (.ref a0), .val (.ref a1), .val (.ref a2), .val .null, .val (.int p4), .val (.int p5)] [(.int (if (0 : Int32) < (if (0 : Int32) < (0 : Int32) then (0 : Int32) else (0 : Int32)) then (if (0 : Int32) < (0 : Int32) then (0 : Int32) else (0 : Int32)) else (0 : Int32))), (.ref a0)])) rfl rfl (hb hby d3_175)
    have F_lastPlace_a0 : Fld Z h38 a0 "com/example/nimble_needle/nimbleneedle/algorithm/WordSieve" "lastPlace" "I" (.int (if (0 : Int32) < (if (0 : Int32) < (0 : Int32) then (0 : Int32) else (0 : Int32)) then (if (0 : Int32) < (0 : Int32) then (0 : Int32) else (0 : Int32)) else (0 : Int32))) := F_lastPlace_a0.same W38
    have E_a0 : Exa Z h38 a0 "com/example/nimble_needle/nimbleneedle/algorithm/WordSieve" := E_a0.wr W38
    have F_length_a0 : Fld Z h38 a0 "com/example/nimble_needle/nimbleneedle/algorithm/WordSieve" "length" "I" (.int nn) := F_length_a0.other W38 (Or.inr (slot_ne (Or.inr (hw _ (List.mem_of_getElem? (i := 19) rfl))) (Or.inr (hw _ (List.mem_of_getElem? (i := 56) rfl))) (by decide) (t := .int) (t' := .int) (by decide) (by decide)))
    have F_firstPlace_a0 : Fld Z h38 a0 "com/example/nimble_needle/nimbleneedle/algorithm/WordSieve" "firstPlace" "I" (.int (0 : Int32)) := F_firstPlace_a0.other W38 (Or.inr (slot_ne (Or.inr (hw _ (List.mem_of_getElem? (i := 33) rfl))) (Or.inr (hw _ (List.mem_of_getElem? (i := 56) rfl))) (by decide) (t := .int) (t' := .int) (by decide) (by decide)))
    have F_secondPlace_a0 : Fld Z h38 a0 "com/example/nimble_needle/nimbleneedle/algorithm/WordSieve" "secondPlace" "I" (.int (0 : Int32)) := F_secondPlace_a0.other W38 (Or.inr (slot_ne (Or.inr (hw _ (List.mem_of_getElem? (i := 39) rfl))) (Or.inr (hw _ (List.mem_of_getElem? (i := 56) rfl))) (by decide) (t := .int) (t' := .int) (by decide) (by decide)))
    have F_thirdPlace_a0 : Fld Z h38 a0 "com/example/nimble_needle/nimbleneedle/algorithm/WordSieve" "thirdPlace" "I" (.int (0 : Int32)) := F_thirdPlace_a0.other W38 (Or.inr (slot_ne (Or.inr (hw _ (List.mem_of_getElem? (i := 41) rfl))) (Or.inr (hw _ (List.mem_of_getElem? (i := 56) rfl))) (by decide) (t := .int) (t' := .int) (by decide) (by decide)))
    have V_a1 : Arv Z h38 a1 k1 .char nn [] (.int (0 : Int32)) := V_a1.other W38 ne_a1_a0
    have V_a2 : Arv Z h38 a2 k2 .int (1 : Int32) [(.int (0 : Int32))] (.int (0 : Int32)) := V_a2.other W38 ne_a2_a0
    have Zh38 : n0 ≤ h38.size := Nat.le_trans Zh32 (Keep.of_wr W38).1
    have Kh38 : Keep h0 h38 [a0] := Kh32.wr W38 (Or.inl (by simp))
    have N38 := Fr.snoc X38 N37 g_a0
    obtain ⟨fs, hr, hrun, hended, hW, hsame⟩ := X38.leave (v := none) (fun _ => rfl)
    refine ⟨_, _, pre0 _ ?_, hrun, hended, _, _, rfl, ?_, ⟨_, rfl⟩, hW, hsame.mono (by decide) (by decide)⟩
    · show Steps p.tables e below (s₁.setTop (mkF m 0 #[.val (.ref a0), .val (.ref a1), .val (.ref a2), .val .null, .val (.int p4), .val (.int p5)] [])) _
      refine XS.aloadN X0.here hx rfl (hb hby d3_0) rfl rfl ?_
      show Steps p.tables e below (s₁.setTop (mkF m 1 #[.val (.ref a0), .val (.ref a1), .val (.ref a2), .val .null, .val (.int p4), .val (.int p5)] [(.ref a0)])) _
      refine st1 _ ?_
      show Steps p.tables e below (T1.setTop (mkF m 4 #[.val (.ref a0), .val (.ref a1), .val (.ref a2), .val .null, .val (.int p4), .val (.int p5)] [])) _
      refine XS.aloadN X1.here hx rfl (hb hby d3_4) rfl rfl ?_
      show Steps p.tables e below (T1.setTop (mkF m 5 #[.val (.ref a0), .val (.ref a1), .val (.ref a2), .val .null, .val (.int p4), .val (.int p5)] [(.ref a0)])) _
      refine XS.aloadN X1.here hx rfl (hb hby d3_5) rfl rfl ?_
      show Steps p.tables e below (T1.setTop (mkF m 6 #[.val (.ref a0), .val (.ref a1), .val (.ref a2), .val .null, .val (.int p4), .val (.int p5)] [(.ref a1), (.ref a0)])) _
      refine X1.arraylength hx (by rw [e1]; exact Ar2.1) (State.isArrayOf_alike hZ.alike Ar2.2.1) (g := (mkF m 6 #[.val (.ref a0), .val (.ref a1), .val (.ref a2), .val .null, .val (.int p4), .val (.int p5)] [(.ref a1), (.ref a0)])) rfl rfl (hb hby d3_6) _ ?_
      rw [len_of SS2 MM2]
      show Steps p.tables e below (T1.setTop (mkF m 7 #[.val (.ref a0), .val (.ref a1), .val (.ref a2), .val .null, .val (.int p4), .val (.int p5)] [(.int nn), (.ref a0)])) _
      refine st3 _ ?_
      show Steps p.tables e below (T3.setTop (mkF m 10 #[.val (.ref a0), .val (.ref a1), .val (.ref a2), .val .null, .val (.int p4), .val (.int p5)] [])) _
      refine XS.aloadN X3.here hx rfl (hb hby d3_10) rfl rfl ?_
      show Steps p.tables e below (T3.setTop (mkF m 11 #[.val (.ref a0), .val (.ref a1), .val (.ref a2), .val .null, .val (.int p4), .val (.int p5)] [(.ref a0)])) _
      refine XS.aloadN X3.here hx rfl (hb hby d3_11) rfl rfl ?_
      show Steps p.tables e below (T3.setTop (mkF m 12 #[.val (.ref a0), .val (.ref a1), .val (.ref a2), .val .null, .val (.int p4), .val (.int p5)] [(.ref a1), (.ref a0)])) _
      refine XS.iconst X3.here hx rfl (hb hby d3_12) ?_
      show Steps p.tables e below (T3.setTop (mkF m 13 #[.val (.ref a0), .val (.ref a1), .val (.ref a2), .val .null, .val (.int p4), .val (.int p5)] [(.int (0 : Int32)), (.ref a1), (.ref a0)])) _
      refine X3.caload hx (j := (0 : Int32)) (v := (.int (0 : Int32))) (by rw [e3]; exact Ar4.1) (State.isArrayOf_alike hZ.alike Ar4.2.1) Ar4.2.2 hin4 hat4 (g := (mkF m 13 #[.val (.ref a0), .val (.ref a1), .val (.ref a2), .val .null, .val (.int p4), .val (.int p5)] [(.int (0 : Int32)), (.ref a1), (.ref a0)])) rfl rfl (hb hby d3_13) _ ?_
      show Steps p.tables e below (T3.setTop (mkF m 14 #[.val (.ref a0), .val (.ref a1), .val (.ref a2), .val .null, .val (.int p4), .val (.int p5)] [(.int (0 : Int32)), (.ref a0)])) _
      refine st5 _ ?_
      show Steps p.tables e below (T5.setTop (mkF m 17 #[.val (.ref a0), .val (.ref a1), .val (.ref a2), .val .null, .val (.int p4), .val (.int p5)] [])) _
      refine XS.aloadN X5.here hx rfl (hb hby d3_17) rfl rfl ?_
      show Steps p.tables e below (T5.setTop (mkF m 18 #[.val (.ref a0), .val (.ref a1), .val (.ref a2), .val .null, .val (.int p4), .val (.int p5)] [(.ref a0)])) _
      refine XS.aloadN X5.here hx rfl (hb hby d3_18) rfl rfl ?_
      show Steps p.tables e below (T5.setTop (mkF m 19 #[.val (.ref a0), .val (.ref a1), .val (.ref a2), .val .null, .val (.int p4), .val (.int p5)] [.null, (.ref a0)])) _
      refine st6 _ ?_
      show Steps p.tables e below (T6.setTop (mkF m 22 #[.val (.ref a0), .val (.ref a1), .val (.ref a2), .val .null, .val (.int p4), .val (.int p5)] [])) _
      refine XS.aloadN X6.here hx rfl (hb hby d3_22) rfl rfl ?_
      show Steps p.tables e below (T6.setTop (mkF m 23 #[.val (.ref a0), .val (.ref a1), .val (.ref a2), .val .null, .val (.int p4), .val (.int p5)] [(.ref a0)])) _
      refine XS.iload X6.here hx rfl (hb hby d3_23) rfl ?_
      show Steps p.tables e below (T6.setTop (mkF m 25 #[.val (.ref a0), .val (.ref a1), .val (.ref a2), .val .null, .val (.int p4), .val (.int p5)] [(.int p4), (.ref a0)])) _
      refine st7 _ ?_
      show Steps p.tables e below (T7.setTop (mkF m 28 #[.val (.ref a0), .val (.ref a1), .val (.ref a2), .val .null, .val (.int p4), .val (.int p5)] [])) _
      refine XS.aloadN X7.here hx rfl (hb hby d3_28) rfl rfl ?_
      show Steps p.tables e below (T7.setTop (mkF m 29 #[.val (.ref a0), .val (.ref a1), .val (.ref a2), .val .null, .val (.int p4), .val (.int p5)] [(.ref a0)])) _
      refine XS.iload X7.here hx rfl (hb hby d3_29) rfl ?_
      show Steps p.tables e below (T7.setTop (mkF m 31 #[.val (.ref a0), .val (.ref a1), .val (.ref a2), .val .null, .val (.int p4), .val (.int p5)] [(.int p5), (.ref a0)])) _
      refine st8 _ ?_
      show Steps p.tables e below (T8.setTop (mkF m 34 #[.val (.ref a0), .val (.ref a1), .val (.ref a2), .val .null, .val (.int p4), .val (.int p5)] [])) _
      refine XS.aloadN X8.here hx rfl (hb hby d3_34) rfl rfl ?_
      show Steps p.tables e below (T8.setTop (mkF m 35 #[.val (.ref a0), .val (.ref a1), .val (.ref a2), .val .null, .val (.int p4), .val (.int p5)] [(.ref a0)])) _
      refine XS.iload X8.here hx rfl (hb hby d3_35) rfl ?_
      show Steps p.tables e below (T8.setTop (mkF m 37 #[.val (.ref a0), .val (.ref a1), .val (.ref a2), .val .null, .val (.int p4), .val (.int p5)] [(.int p4), (.ref a0)])) _
      refine XS.ifYes X8.here hx rfl (pc0 := 37) (pc' := 58) rfl (hb hby d3_37) rfl ((if0 _ _).trans (teq hc37).1) (by decide) (by decide) ?_
      show Steps p.tables e below (T8.setTop (mkF m 58 #[.val (.ref a0), .val (.ref a1), .val (.ref a2), .val .null, .val (.int p4), .val (.int p5)] [(.ref a0)])) _
      refine XS.sipush X8.here hx rfl (hb hby d3_58) ?_
      show Steps p.tables e below (T8.setTop (mkF m 61 #[.val (.ref a0), .val (.ref a1), .val (.ref a2), .val .null, .val (.int p4), .val (.int p5)] [(.int (256 : Int32)), (.ref a0)])) _
      refine st9 _ ?_
      show Steps p.tables e below (T9.setTop (mkF m 64 #[.val (.ref a0), .val (.ref a1), .val (.ref a2), .val .null, .val (.int p4), .val (.int p5)] [])) _
      refine XS.aloadN X9.here hx rfl (hb hby d3_64) rfl rfl ?_
      show Steps p.tables e below (T9.setTop (mkF m 65 #[.val (.ref a0), .val (.ref a1), .val (.ref a2), .val .null, .val (.int p4), .val (.int p5)] [(.ref a0)])) _
      refine XS.aloadN X9.here hx rfl (hb hby d3_65) rfl rfl ?_
      show Steps p.tables e below (T9.setTop (mkF m 66 #[.val (.ref a0), .val (.ref a1), .val (.ref a2), .val .null, .val (.int p4), .val (.int p5)] [(.ref a2), (.ref a0)])) _
      refine X9.arraylength hx (by rw [e9]; exact Ar10.1) (State.isArrayOf_alike hZ.alike Ar10.2.1) (g := (mkF m 66 #[.val (.ref a0), .val (.ref a1), .val (.ref a2), .val .null, .val (.int p4), .val (.int p5)] [(.ref a2), (.ref a0)])) rfl rfl (hb hby d3_66) _ ?_
      rw [len_of SS10 MM10]
      show Steps p.tables e below (T9.setTop (mkF m 67 #[.val (.ref a0), .val (.ref a1), .val (.ref a2), .val .null, .val (.int p4), .val (.int p5)] [(.int (1 : Int32)), (.ref a0)])) _
      refine XS.iconst X9.here hx rfl (hb hby d3_67) ?_
      show Steps p.tables e below (T9.setTop (mkF m 68 #[.val (.ref a0), .val (.ref a1), .val (.ref a2), .val .null, .val (.int p4), .val (.int p5)] [(.int (1 : Int32)), (.int (1 : Int32)), (.ref a0)])) _
      refine XS.icmpYes X9.here hx rfl (pc0 := 68) (pc' := 82) rfl (hb hby d3_68) rfl (flt (by decide : ¬ ((1 : Int32) < (1 : Int32)))).2.2.2 (by decide) (by decide) ?_
      show Steps p.tables e below (T9.setTop (mkF m 82 #[.val (.ref a0), .val (.ref a1), .val (.ref a2), .val .null, .val (.int p4), .val (.int p5)] [(.ref a0)])) _
      refine XS.iconst X9.here hx rfl (hb hby d3_82) ?_
      show Steps p.tables e below (T9.setTop (mkF m 83 #[.val (.ref a0), .val (.ref a1), .val (.ref a2), .val .null, .val (.int p4), .val (.int p5)] [(.int (0 : Int32)), (.ref a0)])) _
      refine st11 _ ?_
      show Steps p.tables e below (T11.setTop (mkF m 86 #[.val (.ref a0), .val (.ref a1), .val (.ref a2), .val .null, .val (.int p4), .val (.int p5)] [])) _
      refine XS.aloadN X11.here hx rfl (hb hby d3_86) rfl rfl ?_
      show Steps p.tables e below (T11.setTop (mkF m 87 #[.val (.ref a0), .val (.ref a1), .val (.ref a2), .val .null, .val (.int p4), .val (.int p5)] [(.ref a0)])) _
      refine XS.aloadN X11.here hx rfl (hb hby d3_87) rfl rfl ?_
      show Steps p.tables e below (T11.setTop (mkF m 88 #[.val (.ref a0), .val (.ref a1), .val (.ref a2), .val .null, .val (.int p4), .val (.int p5)] [(.ref a2), (.ref a0)])) _
      refine XS.iconst X11.here hx rfl (hb hby d3_88) ?_
      show Steps p.tables e below (T11.setTop (mkF m 89 #[.val (.ref a0), .val (.ref a1), .val (.ref a2), .val .null, .val (.int p4), .val (.int p5)] [(.int (0 : Int32)), (.ref a2), (.ref a0)])) _
      refine X11.iaload hx (j := (0 : Int32)) (v := (.int (0 : Int32))) (by rw [e11]; exact Ar12.1) (State.isArrayOf_alike hZ.alike Ar12.2.1) Ar12.2.2 hin12 hat12 (g := (mkF m 89 #[.val (.ref a0), .val (.ref a1), .val (.ref a2), .val .null, .val (.int p4), .val (.int p5)] [(.int (0 : Int32)), (.ref a2), (.ref a0)])) rfl rfl (hb hby d3_89) _ ?_
      show Steps p.tables e below (T11.setTop (mkF m 90 #[.val (.ref a0), .val (.ref a1), .val (.ref a2), .val .null, .val (.int p4), .val (.int p5)] [(.int (0 : Int32)), (.ref a0)])) _
      refine st13 _ ?_
      show Steps p.tables e below (T13.setTop (mkF m 93 #[.val (.ref a0), .val (.ref a1), .val (.ref a2), .val .null, .val (.int p4), .val (.int p5)] [])) _
      refine XS.aloadN X13.here hx rfl (hb hby d3_93) rfl rfl ?_
      show Steps p.tables e below (T13.setTop (mkF m 94 #[.val (.ref a0), .val (.ref a1), .val (.ref a2), .val .null, .val (.int p4), .val (.int p5)] [(.ref a0)])) _
      refine XS.aloadN X13.here hx rfl (hb hby d3_94) rfl rfl ?_
      show Steps p.tables e below (T13.setTop (mkF m 95 #[.val (.ref a0), .val (.ref a1), .val (.ref a2), .val .null, .val (.int p4), .val (.int p5)] [(.ref a2), (.ref a0)])) _
      refine XS.iconst X13.here hx rfl (hb hby d3_95) ?_
      show Steps p.tables e below (T13.setTop (mkF m 96 #[.val (.ref a0), .val (.ref a1), .val (.ref a2), .val .null, .val (.int p4), .val (.int p5)] [(.int (1 : Int32)), (.ref a2), (.ref a0)])) _
      refine XS.aloadN X13.here hx rfl (hb hby d3_96) rfl rfl ?_
      show Steps p.tables e below (T13.setTop (mkF m 97 #[.val (.ref a0), .val (.ref a1), .val (.ref a2), .val .null, .val (.int p4), .val (.int p5)] [(.ref a2), (.int (1 : Int32)), (.ref a2), (.ref a0)])) _
      refine X13.arraylength hx (by rw [e13]; exact Ar14.1) (State.isArrayOf_alike hZ.alike Ar14.2.1) (g := (mkF m 97 #[.val (.ref a0), .val (.ref a1), .val (.ref a2), .val .null, .val (.int p4), .val (.int p5)] [(.ref a2), (.int (1 : Int32)), (.ref a2), (.ref a0)])) rfl rfl (hb hby d3_97) _ ?_
      rw [len_of SS14 MM14]
      show Steps p.tables e below (T13.setTop (mkF m 98 #[.val (.ref a0), .val (.ref a1), .val (.ref a2), .val .null, .val (.int p4), .val (.int p5)] [(.int (1 : Int32)), (.int (1 : Int32)), (.ref a2), (.ref a0)])) _
      refine XS.iconst X13.here hx rfl (hb hby d3_98) ?_
      show Steps p.tables e below (T13.setTop (mkF m 99 #[.val (.ref a0), .val (.ref a1), .val (.ref a2), .val .null, .val (.int p4), .val (.int p5)] [(.int (1 : Int32)), (.int (1 : Int32)), (.int (1 : Int32)), (.ref a2), (.ref a0)])) _
      refine XS.isub X13.here hx rfl (hb hby d3_99) rfl ?_
      show Steps p.tables e below (T13.setTop (mkF m 100 #[.val (.ref a0), .val (.ref a1), .val (.ref a2), .val .null, .val (.int p4), .val (.int p5)] [(.int ((1 : Int32) - (1 : Int32))), (.int (1 : Int32)), (.ref a2), (.ref a0)])) _
      refine st15 _ ?_
      show Steps p.tables e below (T15.setTop (mkF m 103 #[.val (.ref a0), .val (.ref a1), .val (.ref a2), .val .null, .val (.int p4), .val (.int p5)] [(.int (if ((1 : Int32) - (1 : Int32)) < (1 : Int32) then ((1 : Int32) - (1 : Int32)) else (1 : Int32))), (.ref a2), (.ref a0)])) _
      refine X15.iaload hx (j := (if ((1 : Int32) - (1 : Int32)) < (1 : Int32) then ((1 : Int32) - (1 : Int32)) else (1 : Int32))) (v := (.int (0 : Int32))) (by rw [eh15]; exact Ar16.1) (State.isArrayOf_alike hZ.alike Ar16.2.1) Ar16.2.2 hin16 hat16 (g := (mkF m 103 #[.val (.ref a0), .val (.ref a1), .val (.ref a2), .val .null, .val (.int p4), .val (.int p5)] [(.int (if ((1 : Int32) - (1 : Int32)) < (1 : Int32) then ((1 : Int32) - (1 : Int32)) else (1 : Int32))), (.ref a2), (.ref a0)])) rfl rfl (hb hby d3_103) _ ?_
      show Steps p.tables e below (T15.setTop (mkF m 104 #[.val (.ref a0), .val (.ref a1), .val (.ref a2), .val .null, .val (.int p4), .val (.int p5)] [(.int (0 : Int32)), (.ref a0)])) _
      refine st17 _ ?_
      show Steps p.tables e below (T17.setTop (mkF m 107 #[.val (.ref a0), .val (.ref a1), .val (.ref a2), .val .null, .val (.int p4), .val (.int p5)] [])) _
      refine XS.aloadN X17.here hx rfl (hb hby d3_107) rfl rfl ?_
      show Steps p.tables e below (T17.setTop (mkF m 108 #[.val (.ref a0), .val (.ref a1), .val (.ref a2), .val .null, .val (.int p4), .val (.int p5)] [(.ref a0)])) _
      refine XS.aloadN X17.here hx rfl (hb hby d3_108) rfl rfl ?_
      show Steps p.tables e below (T17.setTop (mkF m 109 #[.val (.ref a0), .val (.ref a1), .val (.ref a2), .val .null, .val (.int p4), .val (.int p5)] [(.ref a2), (.ref a0)])) _
      refine XS.aloadN X17.here hx rfl (hb hby d3_109) rfl rfl ?_
      show Steps p.tables e below (T17.setTop (mkF m 110 #[.val (.ref a0), .val (.ref a1), .val (.ref a2), .val .null, .val (.int p4), .val (.int p5)] [(.ref a2), (.ref a2), (.ref a0)])) _
      refine X17.arraylength hx (by rw [e17]; exact Ar18.1) (State.isArrayOf_alike hZ.alike Ar18.2.1) (g := (mkF m 110 #[.val (.ref a0), .val (.ref a1), .val (.ref a2), .val .null, .val (.int p4), .val (.int p5)] [(.ref a2), (.ref a2), (.ref a0)])) rfl rfl (hb hby d3_110) _ ?_
      rw [len_of SS18 MM18]
      show Steps p.tables e below (T17.setTop (mkF m 111 #[.val (.ref a0), .val (.ref a1), .val (.ref a2), .val .null, .val (.int p4), .val (.int p5)] [(.int (1 : Int32)), (.ref a2), (.ref a0)])) _
      refine XS.iconst X17.here hx rfl (hb hby d3_111) ?_
      show Steps p.tables e below (T17.setTop (mkF m 112 #[.val (.ref a0), .val (.ref a1), .val (.ref a2), .val .null, .val (.int p4), .val (.int p5)] [(.int (1 : Int32)), (.int (1 : Int32)), (.ref a2), (.ref a0)])) _
      refine XS.isub X17.here hx rfl (hb hby d3_112) rfl ?_
      show Steps p.tables e below (T17.setTop (mkF m 113 #[.val (.ref a0), .val (.ref a1), .val (.ref a2), .val .null, .val (.int p4), .val (.int p5)] [(.int ((1 : Int32) - (1 : Int32))), (.ref a2), (.ref a0)])) _
      refine X17.iaload hx (j := ((1 : Int32) - (1 : Int32))) (v := (.int (0 : Int32))) (by rw [e17]; exact Ar19.1) (State.isArrayOf_alike hZ.alike Ar19.2.1) Ar19.2.2 hin19 hat19 (g := (mkF m 113 #[.val (.ref a0), .val (.ref a1), .val (.ref a2), .val .null, .val (.int p4), .val (.int p5)] [(.int ((1 : Int32) - (1 : Int32))), (.ref a2), (.ref a0)])) rfl rfl (hb hby d3_113) _ ?_
      show Steps p.tables e below (T17.setTop (mkF m 114 #[.val (.ref a0), .val (.ref a1), .val (.ref a2), .val .null, .val (.int p4), .val (.int p5)] [(.int (0 : Int32)), (.ref a0)])) _
      refine st20 _ ?_
      show Steps p.tables e below (T20.setTop (mkF m 117 #[.val (.ref a0), .val (.ref a1), .val (.ref a2), .val .null, .val (.int p4), .val (.int p5)] [])) _
      refine XS.aloadN X20.here hx rfl (hb hby d3_117) rfl rfl ?_
      show Steps p.tables e below (T20.setTop (mkF m 118 #[.val (.ref a0), .val (.ref a1), .val (.ref a2), .val .null, .val (.int p4), .val (.int p5)] [(.ref a0)])) _
      refine XS.aloadN X20.here hx rfl (hb hby d3_118) rfl rfl ?_
      show Steps p.tables e below (T20.setTop (mkF m 119 #[.val (.ref a0), .val (.ref a1), .val (.ref a2), .val .null, .val (.int p4), .val (.int p5)] [(.ref a1), (.ref a0)])) _
      refine XS.aloadN X20.here hx rfl (hb hby d3_119) rfl rfl ?_
      show Steps p.tables e below (T20.setTop (mkF m 120 #[.val (.ref a0), .val (.ref a1), .val (.ref a2), .val .null, .val (.int p4), .val (.int p5)] [(.ref a0), (.ref a1), (.ref a0)])) _
      refine st21 _ ?_
      show Steps p.tables e below (T21.setTop (mkF m 123 #[.val (.ref a0), .val (.ref a1), .val (.ref a2), .val .null, .val (.int p4), .val (.int p5)] [(.int (0 : Int32)), (.ref a1), (.ref a0)])) _
      refine X21.caload hx (j := (0 : Int32)) (v := (.int (0 : Int32))) (by rw [e21]; exact Ar22.1) (State.isArrayOf_alike hZ.alike Ar22.2.1) Ar22.2.2 hin22 hat22 (g := (mkF m 123 #[.val (.ref a0), .val (.ref a1), .val (.ref a2), .val .null, .val (.int p4), .val (.int p5)] [(.int (0 : Int32)), (.ref a1), (.ref a0)])) rfl rfl (hb hby d3_123) _ ?_
      show Steps p.tables e below (T21.setTop (mkF m 124 #[.val (.ref a0), .val (.ref a1), .val (.ref a2), .val .null, .val (.int p4), .val (.int p5)] [(.int (0 : Int32)), (.ref a0)])) _
      refine st23 _ ?_
      show Steps p.tables e below (T23.setTop (mkF m 127 #[.val (.ref a0), .val (.ref a1), .val (.ref a2), .val .null, .val (.int p4), .val (.int p5)] [(.long (((if (255 : Int32) < (0 : Int32) then (63 : Int32) else (0 : Int32)).toInt64) * (72340172838076673 : Int64))), (.ref a0)])) _
      refine st24 _ ?_
      show Steps p.tables e below (T24.setTop (mkF m 130 #[.val (.ref a0), .val (.ref a1), .val (.ref a2), .val .null, .val (.int p4), .val (.int p5)] [])) _
      refine XS.aloadN X24.here hx rfl (hb hby d3_130) rfl rfl ?_
      show Steps p.tables e below (T24.setTop (mkF m 131 #[.val (.ref a0), .val (.ref a1), .val (.ref a2), .val .null, .val (.int p4), .val (.int p5)] [(.ref a0)])) _
      refine XS.aloadN X24.here hx rfl (hb hby d3_131) rfl rfl ?_
      show Steps p.tables e below (T24.setTop (mkF m 132 #[.val (.ref a0), .val (.ref a1), .val (.ref a2), .val .null, .val (.int p4), .val (.int p5)] [(.ref a1), (.ref a0)])) _
      refine XS.aloadN X24.here hx rfl (hb hby d3_132) rfl rfl ?_
      show Steps p.tables e below (T24.setTop (mkF m 133 #[.val (.ref a0), .val (.ref a1), .val (.ref a2), .val .null, .val (.int p4), .val (.int p5)] [(.ref a0), (.ref a1), (.ref a0)])) _
      refine st25 _ ?_
      show Steps p.tables e below (T25.setTop (mkF m 136 #[.val (.ref a0), .val (.ref a1), .val (.ref a2), .val .null, .val (.int p4), .val (.int p5)] [(.int (0 : Int32)), (.ref a1), (.ref a0)])) _
      refine X25.caload hx (j := (0 : Int32)) (v := (.int (0 : Int32))) (by rw [e25]; exact Ar26.1) (State.isArrayOf_alike hZ.alike Ar26.2.1) Ar26.2.2 hin26 hat26 (g := (mkF m 136 #[.val (.ref a0), .val (.ref a1), .val (.ref a2), .val .null, .val (.int p4), .val (.int p5)] [(.int (0 : Int32)), (.ref a1), (.ref a0)])) rfl rfl (hb hby d3_136) _ ?_
      show Steps p.tables e below (T25.setTop (mkF m 137 #[.val (.ref a0), .val (.ref a1), .val (.ref a2), .val .null, .val (.int p4), .val (.int p5)] [(.int (0 : Int32)), (.ref a0)])) _
      refine st27 _ ?_
      show Steps p.tables e below (T27.setTop (mkF m 140 #[.val (.ref a0), .val (.ref a1), .val (.ref a2), .val .null, .val (.int p4), .val (.int p5)] [(.long (((if (255 : Int32) < (0 : Int32) then (63 : Int32) else (0 : Int32)).toInt64) * (72340172838076673 : Int64))), (.ref a0)])) _
      refine st28 _ ?_
      show Steps p.tables e below (T28.setTop (mkF m 143 #[.val (.ref a0), .val (.ref a1), .val (.ref a2), .val .null, .val (.int p4), .val (.int p5)] [])) _
      refine XS.aloadN X28.here hx rfl (hb hby d3_143) rfl rfl ?_
      show Steps p.tables e below (T28.setTop (mkF m 144 #[.val (.ref a0), .val (.ref a1), .val (.ref a2), .val .null, .val (.int p4), .val (.int p5)] [(.ref a0)])) _
      refine XS.aloadN X28.here hx rfl (hb hby d3_144) rfl rfl ?_
      show Steps p.tables e below (T28.setTop (mkF m 145 #[.val (.ref a0), .val (.ref a1), .val (.ref a2), .val .null, .val (.int p4), .val (.int p5)] [(.ref a1), (.ref a0)])) _
      refine XS.aloadN X28.here hx rfl (hb hby d3_145) rfl rfl ?_
      show Steps p.tables e below (T28.setTop (mkF m 146 #[.val (.ref a0), .val (.ref a1), .val (.ref a2), .val .null, .val (.int p4), .val (.int p5)] [(.ref a0), (.ref a1), (.ref a0)])) _
      refine st29 _ ?_
      show Steps p.tables e below (T29.setTop (mkF m 149 #[.val (.ref a0), .val (.ref a1), .val (.ref a2), .val .null, .val (.int p4), .val (.int p5)] [(.int (0 : Int32)), (.ref a1), (.ref a0)])) _
      refine X29.caload hx (j := (0 : Int32)) (v := (.int (0 : Int32))) (by rw [e29]; exact Ar30.1) (State.isArrayOf_alike hZ.alike Ar30.2.1) Ar30.2.2 hin30 hat30 (g := (mkF m 149 #[.val (.ref a0), .val (.ref a1), .val (.ref a2), .val .null, .val (.int p4), .val (.int p5)] [(.int (0 : Int32)), (.ref a1), (.ref a0)])) rfl rfl (hb hby d3_149) _ ?_
      show Steps p.tables e below (T29.setTop (mkF m 150 #[.val (.ref a0), .val (.ref a1), .val (.ref a2), .val .null, .val (.int p4), .val (.int p5)] [(.int (0 : Int32)), (.ref a0)])) _
      refine st31 _ ?_
      show Steps p.tables e below (T31.setTop (mkF m 153 #[.val (.ref a0), .val (.ref a1), .val (.ref a2), .val .null, .val (.int p4), .val (.int p5)] [(.long (((if (255 : Int32) < (0 : Int32) then (63 : Int32) else (0 : Int32)).toInt64) * (72340172838076673 : Int64))), (.ref a0)])) _
      refine st32 _ ?_
      show Steps p.tables e below (T32.setTop (mkF m 156 #[.val (.ref a0), .val (.ref a1), .val (.ref a2), .val .null, .val (.int p4), .val (.int p5)] [])) _
      refine XS.aloadN X32.here hx rfl (hb hby d3_156) rfl rfl ?_
      show Steps p.tables e below (T32.setTop (mkF m 157 #[.val (.ref a0), .val (.ref a1), .val (.ref a2), .val .null, .val (.int p4), .val (.int p5)] [(.ref a0)])) _
      refine XS.aloadN X32.here hx rfl (hb hby d3_157) rfl rfl ?_
      show Steps p.tables e below (T32.setTop (mkF m 158 #[.val (.ref a0), .val (.ref a1), .val (.ref a2), .val .null, .val (.int p4), .val (.int p5)] [(.ref a0), (.ref a0)])) _
      refine st33 _ ?_
      show Steps p.tables e below (T33.setTop (mkF m 161 #[.val (.ref a0), .val (.ref a1), .val (.ref a2), .val .null, .val (.int p4), .val (.int p5)] [(.int (0 : Int32)), (.ref a0)])) _
      refine XS.aloadN X33.here hx rfl (hb hby d3_161) rfl rfl ?_
      show Steps p.tables e below (T33.setTop (mkF m 162 #[.val (.ref a0), .val (.ref a1), .val (.ref a2), .val .null, .val (.int p4), .val (.int p5)] [(.ref a0), (.int (0 : Int32)), (.ref a0)])) _
      refine st34 _ ?_
      show Steps p.tables e below (T34.setTop (mkF m 165 #[.val (.ref a0), .val (.ref a1), .val (.ref a2), .val .null, .val (.int p4), .val (.int p5)] [(.int (0 : Int32)), (.int (0 : Int32)), (.ref a0)])) _
      refine XS.aloadN X34.here hx rfl (hb hby d3_165) rfl rfl ?_
      show Steps p.tables e below (T34.setTop (mkF m 166 #[.val (.ref a0), .val (.ref a1), .val (.ref a2), .val .null, .val (.int p4), .val (.int p5)] [(.ref a0), (.int (0 : Int32)), (.int (0 : Int32)), (.ref a0)])) _
      refine st35 _ ?_
      show Steps p.tables e below (T35.setTop (mkF m 169 #[.val (.ref a0), .val (.ref a1), .val (.ref a2), .val .null, .val (.int p4), .val (.int p5)] [(.int (0 : Int32)), (.int (0 : Int32)), (.int (0 : Int32)), (.ref a0)])) _
      refine st36 _ ?_
      show Steps p.tables e below (T36.setTop (mkF m 172 #[.val (.ref a0), .val (.ref a1), .val (.ref a2), .val .null, .val (.int p4), .val (.int p5)] [(.int (if (0 : Int32) < (0 : Int32) then (0 : Int32) else (0 : Int32))), (.int (0 : Int32)), (.ref a0)])) _
      refine st37 _ ?_
      show Steps p.tables e below (T37.setTop (mkF m 175 #[.val (.ref a0), .val (.ref a1), .val (.ref a2), .val .null, .val (.int p4), .val (.int p5)] [(.int (if (0 : Int32) < (if (0 : Int32) < (0 : Int32) then (0 : Int32) else (0 : Int32)) then (if (0 : Int32) < (0 : Int32) then (0 : Int32) else (0 : Int32)) else (0 : Int32))), (.ref a0)])) _
      refine st38 _ ?_
      show Steps p.tables e below (T38.setTop (mkF m 178 #[.val (.ref a0), .val (.ref a1), .val (.ref a2), .val .null, .val (.int p4), .val (.int p5)] [])) _
      exact X38.returnOut hx Bd.returns (hb hby d3_178) hr
    · show Qrm3 Z a0 a1 a2 p4 p5 u_length u_first u_chars u_paired u_whole u_leastStarts u_single u_firstPlace u_secondPlace u_thirdPlace u_firstBytes u_secondBytes u_thirdBytes u_lastPlace k1 nn k2 h0 n0 _ T38.heap _
      rw [e38]
      exact ⟨rfl, N38, Kh38, E_a0, F_length_a0⟩
  · obtain ⟨T39, X39, e39, st39⟩ := getF X8 hx hZ hown (host := "") (Or.inl (hw _ (List.mem_of_getElem? (i := 18) rfl))) Via.refl e8 F_length_a0 (g := (mkF m 46 #[.val (.ref a0), .val (.ref a1), .val (.ref a2), .val .null, .val (.int p4), .val (.int p5)] [(.ref a0), (.int (32 : Int32)), (.int (512 : Int32)), (.ref a0)])) rfl rfl (hb hby d3_46)
    obtain ⟨_, _, ⟨T40, L40, k40, n40⟩, -, X40, ⟨Lc40, hQ40, l40, y40, z40⟩, st40⟩ := Jvm.LawKit.callS X39 hx (y := (⟨"java/lang/Math", "min", "(II)I"⟩ : MethodName)) hown (mvT hZ (hw _ (List.mem_of_getElem? (i := 34) rfl))) (mvT hZ (hw _ (List.mem_of_getElem? (i := 35) rfl))) (mvT hZ (hw _ (List.mem_of_getElem? (i := 36) rfl))) (mvT hZ (hw _ (List.mem_of_getElem? (i := 37) rfl))) (by decide) (backOf (W := 1) (rm5 l Z A0 hw [] (512 : Int32) ((32 : Int32) * (nn - (1 : Int32)))  h8 n0 Zh8 ) hZ (hw _ (List.mem_of_getElem? (i := 37) rfl)) (hw _ (List.mem_of_getElem? (i := 36) rfl)) (by decide) (by decide)) (g := (mkF m 52 #[.val (.ref a0), .val (.ref a1), .val (.ref a2), .val .null, .val (.int p4), .val (.int p5)] [(.int ((32 : Int32) * (nn - (1 : Int32)))), (.int (512 : Int32)), (.ref a0)])) rfl (by rw [hml]; rfl) (argsL := [(.int (512 : Int32)), (.int ((32 : Int32) * (nn - (1 : Int32))))]) (rest := [(.ref a0)]) (lenOf pd_0 rfl) rfl (by show 2 * 0 + _ ≤ _; exact Nat.le_of_eq rfl) (hb hby d3_52) (fun _ _ => ⟨rfl, e39, (by decide : 0 + 0 ≤ _), (by decide : 0 + 0 ≤ _)⟩)
    dsimp only [Pt.U, Pt.locs, Pt.cells, Pt.slots] at X40 l40 y40 z40 st40 hQ40
    subst l40 y40 z40
    obtain ⟨rfl, N40q, eh40⟩ := hQ40
    have N40 := Fr.app N8 N40q
    obtain ⟨T41, h41, X41, e41, W41, st41⟩ := putF X40 hx hZ hown (host := "") (Or.inl (hw _ (List.mem_of_getElem? (i := 28) rfl))) Via.refl eh40 F_leastStarts_a0 E_a0 (Or.inr ⟨(hw _ (List.mem_of_getElem? (i := 29) rfl)), rfl, hnm⟩) (hw _ (List.mem_of_getElem? (i := 7) rfl)) (ty := .int) (by decide) rfl rfl (g := (mkF m 61 #[.val (.ref a0), .val (.ref a1), .val (.ref a2), .val .null, .val (.int p4), .val (.int p5)] [(.int (if ((32 : Int32) * (nn - (1 : Int32))) < (512 : Int32) then ((32 : Int32) * (nn - (1 : Int32))) else (512 : Int32))), (.ref a0)])) rfl rfl (hb hby d3_61)
    have F_leastStarts_a0 : Fld Z h41 a0 "com/example/nimble_needle/nimbleneedle/algorithm/WordSieve" "leastStarts" "I" (.int (if ((32 : Int32) * (nn - (1 : Int32))) < (512 : Int32) then ((32 : Int32) * (nn - (1 : Int32))) else (512 : Int32))) := F_leastStarts_a0.same W41
    have E_a0 : Exa Z h41 a0 "com/example/nimble_needle/nimbleneedle/algorithm/WordSieve" := E_a0.wr W41
    have F_length_a0 : Fld Z h41 a0 "com/example/nimble_needle/nimbleneedle/algorithm/WordSieve" "length" "I" (.int nn) := F_length_a0.other W41 (Or.inr (slot_ne (Or.inr (hw _ (List.mem_of_getElem? (i := 19) rfl))) (Or.inr (hw _ (List.mem_of_getElem? (i := 29) rfl))) (by decide) (t := .int) (t' := .int) (by decide) (by decide)))
    have F_single_a0 : Fld Z h41 a0 "com/example/nimble_needle/nimbleneedle/algorithm/WordSieve" "single" "Z" u_single := F_single_a0.other W41 (Or.inr (slot_ne (Or.inr (hw _ (List.mem_of_getElem? (i := 31) rfl))) (Or.inr (hw _ (List.mem_of_getElem? (i := 29) rfl))) (by decide) (t := .boolean) (t' := .int) (by decide) (by decide)))
    have F_firstPlace_a0 : Fld Z h41 a0 "com/example/nimble_needle/nimbleneedle/algorithm/WordSieve" "firstPlace" "I" u_firstPlace := F_firstPlace_a0.other W41 (Or.inr (slot_ne (Or.inr (hw _ (List.mem_of_getElem? (i := 33) rfl))) (Or.inr (hw _ (List.mem_of_getElem? (i := 29) rfl))) (by decide) (t := .int) (t' := .int) (by decide) (by decide)))
    have F_secondPlace_a0 : Fld Z h41 a0 "com/example/nimble_needle/nimbleneedle/algorithm/WordSieve" "secondPlace" "I" u_secondPlace := F_secondPlace_a0.other W41 (Or.inr (slot_ne (Or.inr (hw _ (List.mem_of_getElem? (i := 39) rfl))) (Or.inr (hw _ (List.mem_of_getElem? (i := 29) rfl))) (by decide) (t := .int) (t' := .int) (by decide) (by decide)))
    have F_thirdPlace_a0 : Fld Z h41 a0 "com/example/nimble_needle/nimbleneedle/algorithm/WordSieve" "thirdPlace" "I" u_thirdPlace := F_thirdPlace_a0.other W41 (Or.inr (slot_ne (Or.inr (hw _ (List.mem_of_getElem? (i := 41) rfl))) (Or.inr (hw _ (List.mem_of_getElem? (i := 29) rfl))) (by decide) (t := .int) (t' := .int) (by decide) (by decide)))
    have F_firstBytes_a0 : Fld Z h41 a0 "com/example/nimble_needle/nimbleneedle/algorithm/WordSieve" "firstBytes" "J" u_firstBytes := F_firstBytes_a0.other W41 (Or.inr (slot_ne (Or.inr (hw _ (List.mem_of_getElem? (i := 47) rfl))) (Or.inr (hw _ (List.mem_of_getElem? (i := 29) rfl))) (by decide) (t := .long) (t' := .int) (by decide) (by decide)))
    have F_secondBytes_a0 : Fld Z h41 a0 "com/example/nimble_needle/nimbleneedle/algorithm/WordSieve" "secondBytes" "J" u_secondBytes := F_secondBytes_a0.other W41 (Or.inr (slot_ne (Or.inr (hw _ (List.mem_of_getElem? (i := 49) rfl))) (Or.inr (hw _ (List.mem_of_getElem? (i := 29) rfl))) (by decide) (t := .long) (t' := .int) (by decide) (by decide)))
    have F_thirdBytes_a0 : Fld Z h41 a0 "com/example/nimble_needle/nimbleneedle/algorithm/WordSieve" "thirdBytes" "J" u_thirdBytes := F_thirdBytes_a0.other W41 (Or.inr (slot_ne (Or.inr (hw _ (List.mem_of_getElem? (i := 51) rfl))) (Or.inr (hw _ (List.mem_of_getElem? (i := 29) rfl))) (by decide) (t := .long) (t' := .int) (by decide) (by decide)))
    have F_lastPlace_a0 : Fld Z h41 a0 "com/example/nimble_needle/nimbleneedle/algorithm/WordSieve" "lastPlace" "I" u_lastPlace := F_lastPlace_a0.other W41 (Or.inr (slot_ne (Or.inr (hw _ (List.mem_of_getElem? (i := 56) rfl))) (Or.inr (hw _ (List.mem_of_getElem? (i := 29) rfl))) (by decide) (t := .int) (t' := .int) (by decide) (by decide)))
    have V_a1 : Arv Z h41 a1 k1 .char nn [] (.int (0 : Int32)) := V_a1.other W41 ne_a1_a0
    have V_a2 : Arv Z h41 a2 k2 .int (1 : Int32) [(.int (0 : Int32))] (.int (0 : Int32)) := V_a2.other W41 ne_a2_a0
    have Zh41 : n0 ≤ h41.size := Nat.le_trans Zh8 (Keep.of_wr W41).1
    have Kh41 : Keep h0 h41 [a0] := Kh8.wr W41 (Or.inl (by simp))
    have N41 := Fr.snoc X41 N40 g_a0
    obtain ⟨cl42, Ar42, -, SS42, MM42, -, -⟩ := id V_a2
    obtain ⟨T43, h43, X43, e43, W43, st43⟩ := putFN X41 hx hZ hown (hw _ (List.mem_of_getElem? (i := 30) rfl)) Via.refl e41 F_single_a0 E_a0 (Or.inr ⟨(hw _ (List.mem_of_getElem? (i := 31) rfl)), rfl, hnm⟩) (hw _ (List.mem_of_getElem? (i := 7) rfl)) (ty := .boolean) (v' := (.int (nar .boolean (0 : Int32)))) (by decide) rfl (fits_nar_bool _) (g := (mkF m 83 #[.val (.ref a0), .val (.ref a1), .val (.ref a2), .val .null, .val (.int p4), .val (.int p5)] [(.int (0 : Int32)), (.ref a0)])) rfl rfl (hb hby d3_83)
    have F_single_a0 : Fld Z h43 a0 "com/example/nimble_needle/nimbleneedle/algorithm/WordSieve" "single" "Z" (.int (nar .boolean (0 : Int32))) := F_single_a0.same W43
    have E_a0 : Exa Z h43 a0 "com/example/nimble_needle/nimbleneedle/algorithm/WordSieve" := E_a0.wr W43
    have F_length_a0 : Fld Z h43 a0 "com/example/nimble_needle/nimbleneedle/algorithm/WordSieve" "length" "I" (.int nn) := F_length_a0.other W43 (Or.inr (slot_ne (Or.inr (hw _ (List.mem_of_getElem? (i := 19) rfl))) (Or.inr (hw _ (List.mem_of_getElem? (i := 31) rfl))) (by decide) (t := .int) (t' := .boolean) (by decide) (by decide)))
    have F_firstPlace_a0 : Fld Z h43 a0 "com/example/nimble_needle/nimbleneedle/algorithm/WordSieve" "firstPlace" "I" u_firstPlace := F_firstPlace_a0.other W43 (Or.inr (slot_ne (Or.inr (hw _ (List.mem_of_getElem? (i := 33) rfl))) (Or.inr (hw _ (List.mem_of_getElem? (i := 31) rfl))) (by decide) (t := .int) (t' := .boolean) (by decide) (by decide)))
    have F_secondPlace_a0 : Fld Z h43 a0 "com/example/nimble_needle/nimbleneedle/algorithm/WordSieve" "secondPlace" "I" u_secondPlace := F_secondPlace_a0.other W43 (Or.inr (slot_ne (Or.inr (hw _ (List.mem_of_getElem? (i := 39) rfl))) (Or.inr (hw _ (List.mem_of_getElem? (i := 31) rfl))) (by decide) (t := .int) (t' := .boolean) (by decide) (by decide)))
    have F_thirdPlace_a0 : Fld Z h43 a0 "com/example/nimble_needle/nimbleneedle/algorithm/WordSieve" "thirdPlace" "I" u_thirdPlace := F_thirdPlace_a0.other W43 (Or.inr (slot_ne (Or.inr (hw _ (List.mem_of_getElem? (i := 41) rfl))) (Or.inr (hw _ (List.mem_of_getElem? (i := 31) rfl))) (by decide) (t := .int) (t' := .boolean) (by decide) (by decide)))
    have F_firstBytes_a0 : Fld Z h43 a0 "com/example/nimble_needle/nimbleneedle/algorithm/WordSieve" "firstBytes" "J" u_firstBytes := F_firstBytes_a0.other W43 (Or.inr (slot_ne (Or.inr (hw _ (List.mem_of_getElem? (i := 47) rfl))) (Or.inr (hw _ (List.mem_of_getElem? (i := 31) rfl))) (by decide) (t := .long) (t' := .boolean) (by decide) (by decide)))
    have F_secondBytes_a0 : Fld Z h43 a0 "com/example/nimble_needle/nimbleneedle/algorithm/WordSieve" "secondBytes" "J" u_secondBytes := F_secondBytes_a0.other W43 (Or.inr (slot_ne (Or.inr (hw _ (List.mem_of_getElem? (i := 49) rfl))) (Or.inr (hw _ (List.mem_of_getElem? (i := 31) rfl))) (by decide) (t := .long) (t' := .boolean) (by decide) (by decide)))
    have F_thirdBytes_a0 : Fld Z h43 a0 "com/example/nimble_needle/nimbleneedle/algorithm/WordSieve" "thirdBytes" "J" u_thirdBytes := F_thirdBytes_a0.other W43 (Or.inr (slot_ne (Or.inr (hw _ (List.mem_of_getElem? (i := 51) rfl))) (Or.inr (hw _ (List.mem_of_getElem? (i := 31) rfl))) (by decide) (t := .long) (t' := .boolean) (by decide) (by decide)))
    have F_lastPlace_a0 : Fld Z h43 a0 "com/example/nimble_needle/nimbleneedle/algorithm/WordSieve" "lastPlace" "I" u_lastPlace := F_lastPlace_a0.other W43 (Or.inr (slot_ne (Or.inr (hw _ (List.mem_of_getElem? (i := 56) rfl))) (Or.inr (hw _ (List.mem_of_getElem? (i := 31) rfl))) (by decide) (t := .int) (t' := .boolean) (by decide) (by decide)))
    have V_a1 : Arv Z h43 a1 k1 .char nn [] (.int (0 : Int32)) := V_a1.other W43 ne_a1_a0
    have V_a2 : Arv Z h43 a2 k2 .int (1 : Int32) [(.int (0 : Int32))] (.int (0 : Int32)) := V_a2.other W43 ne_a2_a0
    have Zh43 : n0 ≤ h43.size := Nat.le_trans Zh41 (Keep.of_wr W43).1
    have Kh43 : Keep h0 h43 [a0] := Kh41.wr W43 (Or.inl (by simp))
    have N43 := Fr.snoc X43 N41 g_a0
    obtain ⟨cl44, Ar44, -, SS44, MM44, HH44, -⟩ := id V_a2
    have hin44 := inb_of SS44 (j := (0 : Int32)) ⟨by decide, by decide⟩
    have hat44 : cl44.slots[((0 : Int32)).toNatClampNeg]? = some (.int (0 : Int32)) := HH44.at hin44 rfl
    obtain ⟨T45, h45, X45, e45, W45, st45⟩ := putF X43 hx hZ hown (host := "") (Or.inl (hw _ (List.mem_of_getElem? (i := 32) rfl))) Via.refl e43 F_firstPlace_a0 E_a0 (Or.inr ⟨(hw _ (List.mem_of_getElem? (i := 33) rfl)), rfl, hnm⟩) (hw _ (List.mem_of_getElem? (i := 7) rfl)) (ty := .int) (by decide) rfl rfl (g := (mkF m 90 #[.val (.ref a0), .val (.ref a1), .val (.ref a2), .val .null, .val (.int p4), .val (.int p5)] [(.int (0 : Int32)), (.ref a0)])) rfl rfl (hb hby d3_90)
    have F_firstPlace_a0 : Fld Z h45 a0 "com/example/nimble_needle/nimbleneedle/algorithm/WordSieve" "firstPlace" "I" (.int (0 : Int32)) := F_firstPlace_a0.same W45
    have E_a0 : Exa Z h45 a0 "com/example/nimble_needle/nimbleneedle/algorithm/WordSieve" := E_a0.wr W45
    have F_length_a0 : Fld Z h45 a0 "com/example/nimble_needle/nimbleneedle/algorithm/WordSieve" "length" "I" (.int nn) := F_length_a0.other W45 (Or.inr (slot_ne (Or.inr (hw _ (List.mem_of_getElem? (i := 19) rfl))) (Or.inr (hw _ (List.mem_of_getElem? (i := 33) rfl))) (by decide) (t := .int) (t' := .int) (by decide) (by decide)))
    have F_secondPlace_a0 : Fld Z h45 a0 "com/example/nimble_needle/nimbleneedle/algorithm/WordSieve" "secondPlace" "I" u_secondPlace := F_secondPlace_a0.other W45 (Or.inr (slot_ne (Or.inr (hw _ (List.mem_of_getElem? (i := 39) rfl))) (Or.inr (hw _ (List.mem_of_getElem? (i := 33) rfl))) (by decide) (t := .int) (t' := .int) (by decide) (by decide)))
    have F_thirdPlace_a0 : Fld Z h45 a0 "com/example/nimble_needle/nimbleneedle/algorithm/WordSieve" "thirdPlace" "I" u_thirdPlace := F_thirdPlace_a0.other W45 (Or.inr (slot_ne (Or.inr (hw _ (List.mem_of_getElem? (i := 41) rfl))) (Or.inr (hw _ (List.mem_of_getElem? (i := 33) rfl))) (by decide) (t := .int) (t' := .int) (by decide) (by decide)))
    have F_firstBytes_a0 : Fld Z h45 a0 "com/example/nimble_needle/nimbleneedle/algorithm/WordSieve" "firstBytes" "J" u_firstBytes := F_firstBytes_a0.other W45 (Or.inr (slot_ne (Or.inr (hw _ (List.mem_of_getElem? (i := 47) rfl))) (Or.inr (hw _ (List.mem_of_getElem? (i := 33) rfl))) (by decide) (t := .long) (t' := .int) (by decide) (by decide)))
    have F_secondBytes_a0 : Fld Z h45 a0 "com/example/nimble_needle/nimbleneedle/algorithm/WordSieve" "secondBytes" "J" u_secondBytes := F_secondBytes_a0.other W45 (Or.inr (slot_ne (Or.inr (hw _ (List.mem_of_getElem? (i := 49) rfl))) (Or.inr (hw _ (List.mem_of_getElem? (i := 33) rfl))) (by decide) (t := .long) (t' := .int) (by decide) (by decide)))
    have F_thirdBytes_a0 : Fld Z h45 a0 "com/example/nimble_needle/nimbleneedle/algorithm/WordSieve" "thirdBytes" "J" u_thirdBytes := F_thirdBytes_a0.other W45 (Or.inr (slot_ne (Or.inr (hw _ (List.mem_of_getElem? (i := 51) rfl))) (Or.inr (hw _ (List.mem_of_getElem? (i := 33) rfl))) (by decide) (t := .long) (t' := .int) (by decide) (by decide)))
    have F_lastPlace_a0 : Fld Z h45 a0 "com/example/nimble_needle/nimbleneedle/algorithm/WordSieve" "lastPlace" "I" u_lastPlace := F_lastPlace_a0.other W45 (Or.inr (slot_ne (Or.inr (hw _ (List.mem_of_getElem? (i := 56) rfl))) (Or.inr (hw _ (List.mem_of_getElem? (i := 33) rfl))) (by decide) (t := .int) (t' := .int) (by decide) (by decide)))
    have V_a1 : Arv Z h45 a1 k1 .char nn [] (.int (0 : Int32)) := V_a1.other W45 ne_a1_a0
    have V_a2 : Arv Z h45 a2 k2 .int (1 : Int32) [(.int (0 : Int32))] (.int (0 : Int32)) := V_a2.other W45 ne_a2_a0
    have Zh45 : n0 ≤ h45.size := Nat.le_trans Zh43 (Keep.of_wr W45).1
    have Kh45 : Keep h0 h45 [a0] := Kh43.wr W45 (Or.inl (by simp))
    have N45 := Fr.snoc X45 N43 g_a0
    obtain ⟨cl46, Ar46, -, SS46, MM46, -, -⟩ := id V_a2
    obtain ⟨_, _, ⟨T47, L47, k47, n47⟩, -, X47, ⟨Lc47, hQ47, l47, y47, z47⟩, st47⟩ := Jvm.LawKit.callS X45 hx (y := (⟨"java/lang/Math", "min", "(II)I"⟩ : MethodName)) hown (mvT hZ (hw _ (List.mem_of_getElem? (i := 34) rfl))) (mvT hZ (hw _ (List.mem_of_getElem? (i := 35) rfl))) (mvT hZ (hw _ (List.mem_of_getElem? (i := 36) rfl))) (mvT hZ (hw _ (List.mem_of_getElem? (i := 37) rfl))) (by decide) (backOf (W := 2) (rm5 l Z A0 hw [] (1 : Int32) ((1 : Int32) - (1 : Int32))  h45 n0 Zh45 ) hZ (hw _ (List.mem_of_getElem? (i := 37) rfl)) (hw _ (List.mem_of_getElem? (i := 36) rfl)) (by decide) (by decide)) (g := (mkF m 100 #[.val (.ref a0), .val (.ref a1), .val (.ref a2), .val .null, .val (.int p4), .val (.int p5)] [(.int ((1 : Int32) - (1 : Int32))), (.int (1 : Int32)), (.ref a2), (.ref a0)])) rfl (by rw [hml]; rfl) (argsL := [(.int (1 : Int32)), (.int ((1 : Int32) - (1 : Int32)))]) (rest := [(.ref a2), (.ref a0)]) (lenOf pd_0 rfl) rfl (by show 2 * 0 + _ ≤ _; exact Nat.le_of_eq rfl) (hb hby d3_100) (fun _ _ => ⟨rfl, e45, (by decide : 0 + 0 ≤ _), (by decide : 0 + 0 ≤ _)⟩)
    dsimp only [Pt.U, Pt.locs, Pt.cells, Pt.slots] at X47 l47 y47 z47 st47 hQ47
    subst l47 y47 z47
    obtain ⟨rfl, N47q, eh47⟩ := hQ47
    have N47 := Fr.app N45 N47q
    obtain ⟨cl48, Ar48, -, SS48, MM48, HH48, -⟩ := id V_a2
    have hin48 := inb_of SS48 (j := (if ((1 : Int32) - (1 : Int32)) < (1 : Int32) then ((1 : Int32) - (1 : Int32)) else (1 : Int32))) ⟨by decide, by decide⟩
    have hat48 : cl48.slots[((if ((1 : Int32) - (1 : Int32)) < (1 : Int32) then ((1 : Int32) - (1 : Int32)) else (1 : Int32))).toNatClampNeg]? = some (.int (0 : Int32)) := HH48.at hin48 rfl
    obtain ⟨T49, h49, X49, e49, W49, st49⟩ := putF X47 hx hZ hown (host := "") (Or.inl (hw _ (List.mem_of_getElem? (i := 38) rfl))) Via.refl eh47 F_secondPlace_a0 E_a0 (Or.inr ⟨(hw _ (List.mem_of_getElem? (i := 39) rfl)), rfl, hnm⟩) (hw _ (List.mem_of_getElem? (i := 7) rfl)) (ty := .int) (by decide) rfl rfl (g := (mkF m 104 #[.val (.ref a0), .val (.ref a1), .val (.ref a2), .val .null, .val (.int p4), .val (.int p5)] [(.int (0 : Int32)), (.ref a0)])) rfl rfl (hb hby d3_104)
    have F_secondPlace_a0 : Fld Z h49 a0 "com/example/nimble_needle/nimbleneedle/algorithm/WordSieve" "secondPlace" "I" (.int (0 : Int32)) := F_secondPlace_a0.same W49
    have E_a0 : Exa Z h49 a0 "com/example/nimble_needle/nimbleneedle/algorithm/WordSieve" := E_a0.wr W49
    have F_length_a0 : Fld Z h49 a0 "com/example/nimble_needle/nimbleneedle/algorithm/WordSieve" "length" "I" (.int nn) := F_length_a0.other W49 (Or.inr (slot_ne (Or.inr (hw _ (List.mem_of_getElem? (i := 19) rfl))) (Or.inr (hw _ (List.mem_of_getElem? (i := 39) rfl))) (by decide) (t := .int) (t' := .int) (by decide) (by decide)))
    have F_firstPlace_a0 : Fld Z h49 a0 "com/example/nimble_needle/nimbleneedle/algorithm/WordSieve" "firstPlace" "I" (.int (0 : Int32)) := F_firstPlace_a0.other W49 (Or.inr (slot_ne (Or.inr (hw _ (List.mem_of_getElem? (i := 33) rfl))) (Or.inr (hw _ (List.mem_of_getElem? (i := 39) rfl))) (by decide) (t := .int) (t' := .int) (by decide) (by decide)))
    have F_thirdPlace_a0 : Fld Z h49 a0 "com/example/nimble_needle/nimbleneedle/algorithm/WordSieve" "thirdPlace" "I" u_thirdPlace := F_thirdPlace_a0.other W49 (Or.inr (slot_ne (Or.inr (hw _ (List.mem_of_getElem? (i := 41) rfl))) (Or.inr (hw _ (List.mem_of_getElem? (i := 39) rfl))) (by decide) (t := .int) (t' := .int) (by decide) (by decide)))
    have F_firstBytes_a0 : Fld Z h49 a0 "com/example/nimble_needle/nimbleneedle/algorithm/WordSieve" "firstBytes" "J" u_firstBytes := F_firstBytes_a0.other W49 (Or.inr (slot_ne (Or.inr (hw _ (List.mem_of_getElem? (i := 47) rfl))) (Or.inr (hw _ (List.mem_of_getElem? (i := 39) rfl))) (by decide) (t := .long) (t' := .int) (by decide) (by decide)))
    have F_secondBytes_a0 : Fld Z h49 a0 "com/example/nimble_needle/nimbleneedle/algorithm/WordSieve" "secondBytes" "J" u_secondBytes := F_secondBytes_a0.other W49 (Or.inr (slot_ne (Or.inr (hw _ (List.mem_of_getElem? (i := 49) rfl))) (Or.inr (hw _ (List.mem_of_getElem? (i := 39) rfl))) (by decide) (t := .long) (t' := .int) (by decide) (by decide)))
    have F_thirdBytes_a0 : Fld Z h49 a0 "com/example/nimble_needle/nimbleneedle/algorithm/WordSieve" "thirdBytes" "J" u_thirdBytes := F_thirdBytes_a0.other W49 (Or.inr (slot_ne (Or.inr (hw _ (List.mem_of_getElem? (i := 51) rfl))) (Or.inr (hw _ (List.mem_of_getElem? (i := 39) rfl))) (by decide) (t := .long) (t' := .int) (by decide) (by decide)))
    have F_lastPlace_a0 : Fld Z h49 a0 "com/example/nimble_needle/nimbleneedle/algorithm/WordSieve" "lastPlace" "I" u_lastPlace := F_lastPlace_a0.other W49 (Or.inr (slot_ne (Or.inr (hw _ (List.mem_of_getElem? (i := 56) rfl))) (Or.inr (hw _ (List.mem_of_getElem? (i := 39) rfl))) (by decide) (t := .int) (t' := .int) (by decide) (by decide)))
    have V_a1 : Arv Z h49 a1 k1 .char nn [] (.int (0 : Int32)) := V_a1.other W49 ne_a1_a0
    have V_a2 : Arv Z h49 a2 k2 .int (1 : Int32) [(.int (0 : Int32))] (.int (0 : Int32)) := V_a2.other W49 ne_a2_a0
    have Zh49 : n0 ≤ h49.size := Nat.le_trans Zh45 (Keep.of_wr W49).1
    have Kh49 : Keep h0 h49 [a0] := Kh45.wr W49 (Or.inl (by simp))
    have N49 := Fr.snoc X49 N47 g_a0
    obtain ⟨cl50, Ar50, -, SS50, MM50, -, -⟩ := id V_a2
    obtain ⟨cl51, Ar51, -, SS51, MM51, HH51, -⟩ := id V_a2
    have hin51 := inb_of SS51 (j := ((1 : Int32) - (1 : Int32))) ⟨by decide, by decide⟩
    have hat51 : cl51.slots[(((1 : Int32) - (1 : Int32))).toNatClampNeg]? = some (.int (0 : Int32)) := HH51.at hin51 rfl
    obtain ⟨T52, h52, X52, e52, W52, st52⟩ := putF X49 hx hZ hown (host := "") (Or.inl (hw _ (List.mem_of_getElem? (i := 40) rfl))) Via.refl e49 F_thirdPlace_a0 E_a0 (Or.inr ⟨(hw _ (List.mem_of_getElem? (i := 41) rfl)), rfl, hnm⟩) (hw _ (List.mem_of_getElem? (i := 7) rfl)) (ty := .int) (by decide) rfl rfl (g := (mkF m 114 #[.val (.ref a0), .val (.ref a1), .val (.ref a2), .val .null, .val (.int p4), .val (.int p5)] [(.int (0 : Int32)), (.ref a0)])) rfl rfl (hb hby d3_114)
    have F_thirdPlace_a0 : Fld Z h52 a0 "com/example/nimble_needle/nimbleneedle/algorithm/WordSieve" "thirdPlace" "I" (.int (0 : Int32)) := F_thirdPlace_a0.same W52
    have E_a0 : Exa Z h52 a0 "com/example/nimble_needle/nimbleneedle/algorithm/WordSieve" := E_a0.wr W52
    have F_length_a0 : Fld Z h52 a0 "com/example/nimble_needle/nimbleneedle/algorithm/WordSieve" "length" "I" (.int nn) := F_length_a0.other W52 (Or.inr (slot_ne (Or.inr (hw _ (List.mem_of_getElem? (i := 19) rfl))) (Or.inr (hw _ (List.mem_of_getElem? (i := 41) rfl))) (by decide) (t := .int) (t' := .int) (by decide) (by decide)))
    have F_firstPlace_a0 : Fld Z h52 a0 "com/example/nimble_needle/nimbleneedle/algorithm/WordSieve" "firstPlace" "I" (.int (0 : Int32)) := F_firstPlace_a0.other W52 (Or.inr (slot_ne (Or.inr (hw _ (List.mem_of_getElem? (i := 33) rfl))) (Or.inr (hw _ (List.mem_of_getElem? (i := 41) rfl))) (by decide) (t := .int) (t' := .int) (by decide) (by decide)))
    have F_secondPlace_a0 : Fld Z h52 a0 "com/example/nimble_needle/nimbleneedle/algorithm/WordSieve" "secondPlace" "I" (.int (0 : Int32)) := F_secondPlace_a0.other W52 (Or.inr (slot_ne (Or.inr (hw _ (List.mem_of_getElem? (i := 39) rfl))) (Or.inr (hw _ (List.mem_of_getElem? (i := 41) rfl))) (by decide) (t := .int) (t' := .int) (by decide) (by decide)))
    have F_firstBytes_a0 : Fld Z h52 a0 "com/example/nimble_needle/nimbleneedle/algorithm/WordSieve" "firstBytes" "J" u_firstBytes := F_firstBytes_a0.other W52 (Or.inr (slot_ne (Or.inr (hw _ (List.mem_of_getElem? (i := 47) rfl))) (Or.inr (hw _ (List.mem_of_getElem? (i := 41) rfl))) (by decide) (t := .long) (t' := .int) (by decide) (by decide)))
    have F_secondBytes_a0 : Fld Z h52 a0 "com/example/nimble_needle/nimbleneedle/algorithm/WordSieve" "secondBytes" "J" u_secondBytes := F_secondBytes_a0.other W52 (Or.inr (slot_ne (Or.inr (hw _ (List.mem_of_getElem? (i := 49) rfl))) (Or.inr (hw _ (List.mem_of_getElem? (i := 41) rfl))) (by decide) (t := .long) (t' := .int) (by decide) (by decide)))
    have F_thirdBytes_a0 : Fld Z h52 a0 "com/example/nimble_needle/nimbleneedle/algorithm/WordSieve" "thirdBytes" "J" u_thirdBytes := F_thirdBytes_a0.other W52 (Or.inr (slot_ne (Or.inr (hw _ (List.mem_of_getElem? (i := 51) rfl))) (Or.inr (hw _ (List.mem_of_getElem? (i := 41) rfl))) (by decide) (t := .long) (t' := .int) (by decide) (by decide)))
    have F_lastPlace_a0 : Fld Z h52 a0 "com/example/nimble_needle/nimbleneedle/algorithm/WordSieve" "lastPlace" "I" u_lastPlace := F_lastPlace_a0.other W52 (Or.inr (slot_ne (Or.inr (hw _ (List.mem_of_getElem? (i := 56) rfl))) (Or.inr (hw _ (List.mem_of_getElem? (i := 41) rfl))) (by decide) (t := .int) (t' := .int) (by decide) (by decide)))
    have V_a1 : Arv Z h52 a1 k1 .char nn [] (.int (0 : Int32)) := V_a1.other W52 ne_a1_a0
    have V_a2 : Arv Z h52 a2 k2 .int (1 : Int32) [(.int (0 : Int32))] (.int (0 : Int32)) := V_a2.other W52 ne_a2_a0
    have Zh52 : n0 ≤ h52.size := Nat.le_trans Zh49 (Keep.of_wr W52).1
    have Kh52 : Keep h0 h52 [a0] := Kh49.wr W52 (Or.inl (by simp))
    have N52 := Fr.snoc X52 N49 g_a0
    obtain ⟨T53, X53, e53, st53⟩ := getF X52 hx hZ hown (host := "") (Or.inl (hw _ (List.mem_of_getElem? (i := 32) rfl))) Via.refl e52 F_firstPlace_a0 (g := (mkF m 120 #[.val (.ref a0), .val (.ref a1), .val (.ref a2), .val .null, .val (.int p4), .val (.int p5)] [(.ref a0), (.ref a1), (.ref a0)])) rfl rfl (hb hby d3_120)
    obtain ⟨cl54, Ar54, -, SS54, MM54, HH54, -⟩ := id V_a1
    have hin54 := inb_of SS54 hnn
    have hat54 : cl54.slots[((0 : Int32)).toNatClampNeg]? = some (.int (0 : Int32)) := HH54.at hin54 rfl
    obtain ⟨_, _, ⟨T55, L55, k55, n55⟩, -, X55, ⟨Lc55, hQ55, l55, y55, z55⟩, st55⟩ := Jvm.LawKit.callS X53 hx (y := (⟨"com/example/nimble_needle/nimbleneedle/algorithm/WordSieve", "inEveryByte", "(C)J"⟩ : MethodName)) hown (mvT hZ (hw _ (List.mem_of_getElem? (i := 42) rfl))) (mvT hZ (hw _ (List.mem_of_getElem? (i := 43) rfl))) (mvT hZ (hw _ (List.mem_of_getElem? (i := 8) rfl))) (mvT hZ (hw _ (List.mem_of_getElem? (i := 44) rfl))) (by decide) (backOf (W := 1) (rm6 l Z A0 hw [] (0 : Int32)  h52 n0 Zh52 ) hZ (hw _ (List.mem_of_getElem? (i := 44) rfl)) (hw _ (List.mem_of_getElem? (i := 8) rfl)) (by decide) (by decide)) (g := (mkF m 124 #[.val (.ref a0), .val (.ref a1), .val (.ref a2), .val .null, .val (.int p4), .val (.int p5)] [(.int (0 : Int32)), (.ref a0)])) rfl (by rw [hml]; rfl) (argsL := [(.int (0 : Int32))]) (rest := [(.ref a0)]) (lenOf pd_1 rfl) rfl (by show 2 * 0 + _ ≤ _; exact Nat.le_of_eq rfl) (hb hby d3_124) (fun _ _ => ⟨rfl, e53, (by decide : 0 + 0 ≤ _), (by decide : 0 + 0 ≤ _)⟩)
    dsimp only [Pt.U, Pt.locs, Pt.cells, Pt.slots] at X55 l55 y55 z55 st55 hQ55
    subst l55 y55 z55
    obtain ⟨rfl, N55q, eh55⟩ := hQ55
    have N55 := Fr.app N52 N55q
    obtain ⟨T56, h56, X56, e56, W56, st56⟩ := putF X55 hx hZ hown (host := "") (Or.inl (hw _ (List.mem_of_getElem? (i := 46) rfl))) Via.refl eh55 F_firstBytes_a0 E_a0 (Or.inr ⟨(hw _ (List.mem_of_getElem? (i := 47) rfl)), rfl, hnm⟩) (hw _ (List.mem_of_getElem? (i := 7) rfl)) (ty := .long) (by decide) rfl rfl (g := (mkF m 127 #[.val (.ref a0), .val (.ref a1), .val (.ref a2), .val .null, .val (.int p4), .val (.int p5)] [(.long (((if (255 : Int32) < (0 : Int32) then (63 : Int32) else (0 : Int32)).toInt64) * (72340172838076673 : Int64))), (.ref a0)])) rfl rfl (hb hby d3_127)
    have F_firstBytes_a0 : Fld Z h56 a0 "com/example/nimble_needle/nimbleneedle/algorithm/WordSieve" "firstBytes" "J" (.long (((if (255 : Int32) < (0 : Int32) then (63 : Int32) else (0 : Int32)).toInt64) * (72340172838076673 : Int64))) := F_firstBytes_a0.same W56
    have E_a0 : Exa Z h56 a0 "com/example/nimble_needle/nimbleneedle/algorithm/WordSieve" := E_a0.wr W56
    have F_length_a0 : Fld Z h56 a0 "com/example/nimble_needle/nimbleneedle/algorithm/WordSieve" "length" "I" (.int nn) := F_length_a0.other W56 (Or.inr (slot_ne (Or.inr (hw _ (List.mem_of_getElem? (i := 19) rfl))) (Or.inr (hw _ (List.mem_of_getElem? (i := 47) rfl))) (by decide) (t := .int) (t' := .long) (by decide) (by decide)))
    have F_firstPlace_a0 : Fld Z h56 a0 "com/example/nimble_needle/nimbleneedle/algorithm/WordSieve" "firstPlace" "I" (.int (0 : Int32)) := F_firstPlace_a0.other W56 (Or.inr (slot_ne (Or.inr (hw _ (List.mem_of_getElem? (i := 33) rfl))) (Or.inr (hw _ (List.mem_of_getElem? (i := 47) rfl))) (by decide) (t := .int) (t' := .long) (by decide) (by decide)))
    have F_secondPlace_a0 : Fld Z h56 a0 "com/example/nimble_needle/nimbleneedle/algorithm/WordSieve" "secondPlace" "I" (.int (0 : Int32)) := F_secondPlace_a0.other W56 (Or.inr (slot_ne (Or.inr (hw _ (List.mem_of_getElem? (i := 39) rfl))) (Or.inr (hw _ (List.mem_of_getElem? (i := 47) rfl))) (by decide) (t := .int) (t' := .long) (by decide) (by decide)))
    have F_thirdPlace_a0 : Fld Z h56 a0 "com/example/nimble_needle/nimbleneedle/algorithm/WordSieve" "thirdPlace" "I" (.int (0 : Int32)) := F_thirdPlace_a0.other W56 (Or.inr (slot_ne (Or.inr (hw _ (List.mem_of_getElem? (i := 41) rfl))) (Or.inr (hw _ (List.mem_of_getElem? (i := 47) rfl))) (by decide) (t := .int) (t' := .long) (by decide) (by decide)))
    have F_secondBytes_a0 : Fld Z h56 a0 "com/example/nimble_needle/nimbleneedle/algorithm/WordSieve" "secondBytes" "J" u_secondBytes := F_secondBytes_a0.other W56 (Or.inr (slot_ne (Or.inr (hw _ (List.mem_of_getElem? (i := 49) rfl))) (Or.inr (hw _ (List.mem_of_getElem? (i := 47) rfl))) (by decide) (t := .long) (t' := .long) (by decide) (by decide)))
    have F_thirdBytes_a0 : Fld Z h56 a0 "com/example/nimble_needle/nimbleneedle/algorithm/WordSieve" "thirdBytes" "J" u_thirdBytes := F_thirdBytes_a0.other W56 (Or.inr (slot_ne (Or.inr (hw _ (List.mem_of_getElem? (i := 51) rfl))) (Or.inr (hw _ (List.mem_of_getElem? (i := 47) rfl))) (by decide) (t := .long) (t' := .long) (by decide) (by decide)))
    have F_lastPlace_a0 : Fld Z h56 a0 "com/example/nimble_needle/nimbleneedle/algorithm/WordSieve" "lastPlace" "I" u_lastPlace := F_lastPlace_a0.other W56 (Or.inr (slot_ne (Or.inr (hw _ (List.mem_of_getElem? (i := 56) rfl))) (Or.inr (hw _ (List.mem_of_getElem? (i := 47) rfl))) (by decide) (t := .int) (t' := .long) (by decide) (by decide)))
    have V_a1 : Arv Z h56 a1 k1 .char nn [] (.int (0 : Int32)) := V_a1.other W56 ne_a1_a0
    have V_a2 : Arv Z h56 a2 k2 .int (1 : Int32) [(.int (0 : Int32))] (.int (0 : Int32)) := V_a2.other W56 ne_a2_a0
    have Zh56 : n0 ≤ h56.size := Nat.le_trans Zh52 (Keep.of_wr W56).1
    have Kh56 : Keep h0 h56 [a0] := Kh52.wr W56 (Or.inl (by simp))
    have N56 := Fr.snoc X56 N55 g_a0
    obtain ⟨T57, X57, e57, st57⟩ := getF X56 hx hZ hown (host := "") (Or.inl (hw _ (List.mem_of_getElem? (i := 38) rfl))) Via.refl e56 F_secondPlace_a0 (g := (mkF m 133 #[.val (.ref a0), .val (.ref a1), .val (.ref a2), .val .null, .val (.int p4), .val (.int p5)] [(.ref a0), (.ref a1), (.ref a0)])) rfl rfl (hb hby d3_133)
    obtain ⟨cl58, Ar58, -, SS58, MM58, HH58, -⟩ := id V_a1
    have hin58 := inb_of SS58 hnn
    have hat58 : cl58.slots[((0 : Int32)).toNatClampNeg]? = some (.int (0 : Int32)) := HH58.at hin58 rfl
    obtain ⟨_, _, ⟨T59, L59, k59, n59⟩, -, X59, ⟨Lc59, hQ59, l59, y59, z59⟩, st59⟩ := Jvm.LawKit.callS X57 hx (y := (⟨"com/example/nimble_needle/nimbleneedle/algorithm/WordSieve", "inEveryByte", "(C)J"⟩ : MethodName)) hown (mvT hZ (hw _ (List.mem_of_getElem? (i := 42) rfl))) (mvT hZ (hw _ (List.mem_of_getElem? (i := 43) rfl))) (mvT hZ (hw _ (List.mem_of_getElem? (i := 8) rfl))) (mvT hZ (hw _ (List.mem_of_getElem? (i := 44) rfl))) (by decide) (backOf (W := 1) (rm6 l Z A0 hw [] (0 : Int32)  h56 n0 Zh56 ) hZ (hw _ (List.mem_of_getElem? (i := 44) rfl)) (hw _ (List.mem_of_getElem? (i := 8) rfl)) (by decide) (by decide)) (g := (mkF m 137 #[.val (.ref a0), .val (.ref a1), .val (.ref a2), .val .null, .val (.int p4), .val (.int p5)] [(.int (0 : Int32)), (.ref a0)])) rfl (by rw [hml]; rfl) (argsL := [(.int (0 : Int32))]) (rest := [(.ref a0)]) (lenOf pd_1 rfl) rfl (by show 2 * 0 + _ ≤ _; exact Nat.le_of_eq rfl) (hb hby d3_137) (fun _ _ => ⟨rfl, e57, (by decide : 0 + 0 ≤ _), (by decide : 0 + 0 ≤ _)⟩)
    dsimp only [Pt.U, Pt.locs, Pt.cells, Pt.slots] at X59 l59 y59 z59 st59 hQ59
    subst l59 y59 z59
    obtain ⟨rfl, N59q, eh59⟩ := hQ59
    have N59 := Fr.app N56 N59q
    obtain ⟨T60, h60, X60, e60, W60, st60⟩ := putF X59 hx hZ hown (host := "") (Or.inl (hw _ (List.mem_of_getElem? (i := 48) rfl))) Via.refl eh59 F_secondBytes_a0 E_a0 (Or.inr ⟨(hw _ (List.mem_of_getElem? (i := 49) rfl)), rfl, hnm⟩) (hw _ (List.mem_of_getElem? (i := 7) rfl)) (ty := .long) (by decide) rfl rfl (g := (mkF m 140 #[.val (.ref a0), .val (.ref a1), .val (.ref a2), .val .null, .val (.int p4), .val (.int p5)] [(.long (((if (255 : Int32) < (0 : Int32) then (63 : Int32) else (0 : Int32)).toInt64) * (72340172838076673 : Int64))), (.ref a0)])) rfl rfl (hb hby d3_140)
    have F_secondBytes_a0 : Fld Z h60 a0 "com/example/nimble_needle/nimbleneedle/algorithm/WordSieve" "secondBytes" "J" (.long (((if (255 : Int32) < (0 : Int32) then (63 : Int32) else (0 : Int32)).toInt64) * (72340172838076673 : Int64))) := F_secondBytes_a0.same W60
    have E_a0 : Exa Z h60 a0 "com/example/nimble_needle/nimbleneedle/algorithm/WordSieve" := E_a0.wr W60
    have F_length_a0 : Fld Z h60 a0 "com/example/nimble_needle/nimbleneedle/algorithm/WordSieve" "length" "I" (.int nn) := F_length_a0.other W60 (Or.inr (slot_ne (Or.inr (hw _ (List.mem_of_getElem? (i := 19) rfl))) (Or.inr (hw _ (List.mem_of_getElem? (i := 49) rfl))) (by decide) (t := .int) (t' := .long) (by decide) (by decide)))
    have F_firstPlace_a0 : Fld Z h60 a0 "com/example/nimble_needle/nimbleneedle/algorithm/WordSieve" "firstPlace" "I" (.int (0 : Int32)) := F_firstPlace_a0.other W60 (Or.inr (slot_ne (Or.inr (hw _ (List.mem_of_getElem? (i := 33) rfl))) (Or.inr (hw _ (List.mem_of_getElem? (i := 49) rfl))) (by decide) (t := .int) (t' := .long) (by decide) (by decide)))
    have F_secondPlace_a0 : Fld Z h60 a0 "com/example/nimble_needle/nimbleneedle/algorithm/WordSieve" "secondPlace" "I" (.int (0 : Int32)) := F_secondPlace_a0.other W60 (Or.inr (slot_ne (Or.inr (hw _ (List.mem_of_getElem? (i := 39) rfl))) (Or.inr (hw _ (List.mem_of_getElem? (i := 49) rfl))) (by decide) (t := .int) (t' := .long) (by decide) (by decide)))
    have F_thirdPlace_a0 : Fld Z h60 a0 "com/example/nimble_needle/nimbleneedle/algorithm/WordSieve" "thirdPlace" "I" (.int (0 : Int32)) := F_thirdPlace_a0.other W60 (Or.inr (slot_ne (Or.inr (hw _ (List.mem_of_getElem? (i := 41) rfl))) (Or.inr (hw _ (List.mem_of_getElem? (i := 49) rfl))) (by decide) (t := .int) (t' := .long) (by decide) (by decide)))
    have F_thirdBytes_a0 : Fld Z h60 a0 "com/example/nimble_needle/nimbleneedle/algorithm/WordSieve" "thirdBytes" "J" u_thirdBytes := F_thirdBytes_a0.other W60 (Or.inr (slot_ne (Or.inr (hw _ (List.mem_of_getElem? (i := 51) rfl))) (Or.inr (hw _ (List.mem_of_getElem? (i := 49) rfl))) (by decide) (t := .long) (t' := .long) (by decide) (by decide)))
    have F_lastPlace_a0 : Fld Z h60 a0 "com/example/nimble_needle/nimbleneedle/algorithm/WordSieve" "lastPlace" "I" u_lastPlace := F_lastPlace_a0.other W60 (Or.inr (slot_ne (Or.inr (hw _ (List.mem_of_getElem? (i := 56) rfl))) (Or.inr (hw _ (List.mem_of_getElem? (i := 49) rfl))) (by decide) (t := .int) (t' := .long) (by decide) (by decide)))
    have V_a1 : Arv Z h60 a1 k1 .char nn [] (.int (0 : Int32)) := V_a1.other W60 ne_a1_a0
    have V_a2 : Arv Z h60 a2 k2 .int (1 : Int32) [(.int (0 : Int32))] (.int (0 : Int32)) := V_a2.other W60 ne_a2_a0
    have Zh60 : n0 ≤ h60.size := Nat.le_trans Zh56 (Keep.of_wr W60).1
    have Kh60 : Keep h0 h60 [a0] := Kh56.wr W60 (Or.inl (by simp))
    have N60 := Fr.snoc X60 N59 g_a0
    obtain ⟨T61, X61, e61, st61⟩ := getF X60 hx hZ hown (host := "") (Or.inl (hw _ (List.mem_of_getElem? (i := 40) rfl))) Via.refl e60 F_thirdPlace_a0 (g := (mkF m 146 #[.val (.ref a0), .val (.ref a1), .val (.ref a2), .val .null, .val (.int p4), .val (.int p5)] [(.ref a0), (.ref a1), (.ref a0)])) rfl rfl (hb hby d3_146)
    obtain ⟨cl62, Ar62, -, SS62, MM62, HH62, -⟩ := id V_a1
    have hin62 := inb_of SS62 hnn
    have hat62 : cl62.slots[((0 : Int32)).toNatClampNeg]? = some (.int (0 : Int32)) := HH62.at hin62 rfl
    obtain ⟨_, _, ⟨T63, L63, k63, n63⟩, -, X63, ⟨Lc63, hQ63, l63, y63, z63⟩, st63⟩ := Jvm.LawKit.callS X61 hx (y := (⟨"com/example/nimble_needle/nimbleneedle/algorithm/WordSieve", "inEveryByte", "(C)J"⟩ : MethodName)) hown (mvT hZ (hw _ (List.mem_of_getElem? (i := 42) rfl))) (mvT hZ (hw _ (List.mem_of_getElem? (i := 43) rfl))) (mvT hZ (hw _ (List.mem_of_getElem? (i := 8) rfl))) (mvT hZ (hw _ (List.mem_of_getElem? (i := 44) rfl))) (by decide) (backOf (W := 1) (rm6 l Z A0 hw [] (0 : Int32)  h60 n0 Zh60 ) hZ (hw _ (List.mem_of_getElem? (i := 44) rfl)) (hw _ (List.mem_of_getElem? (i := 8) rfl)) (by decide) (by decide)) (g := (mkF m 150 #[.val (.ref a0), .val (.ref a1), .val (.ref a2), .val .null, .val (.int p4), .val (.int p5)] [(.int (0 : Int32)), (.ref a0)])) rfl (by rw [hml]; rfl) (argsL := [(.int (0 : Int32))]) (rest := [(.ref a0)]) (lenOf pd_1 rfl) rfl (by show 2 * 0 + _ ≤ _; exact Nat.le_of_eq rfl) (hb hby d3_150) (fun _ _ => ⟨rfl, e61, (by decide : 0 + 0 ≤ _), (by decide : 0 + 0 ≤ _)⟩)
    dsimp only [Pt.U, Pt.locs, Pt.cells, Pt.slots] at X63 l63 y63 z63 st63 hQ63
    subst l63 y63 z63
    obtain ⟨rfl, N63q, eh63⟩ := hQ63
    have N63 := Fr.app N60 N63q
    obtain ⟨T64, h64, X64, e64, W64, st64⟩ := putF X63 hx hZ hown (host := "") (Or.inl (hw _ (List.mem_of_getElem? (i := 50) rfl))) Via.refl eh63 F_thirdBytes_a0 E_a0 (Or.inr ⟨(hw _ (List.mem_of_getElem? (i := 51) rfl)), rfl, hnm⟩) (hw _ (List.mem_of_getElem? (i := 7) rfl)) (ty := .long) (by decide) rfl rfl (g := (mkF m 153 #[.val (.ref a0), .val (.ref a1), .val (.ref a2), .val .null, .val (.int p4), .val (.int p5)] [(.long (((if (255 : Int32) < (0 : Int32) then (63 : Int32) else (0 : Int32)).toInt64) * (72340172838076673 : Int64))), (.ref a0)])) rfl rfl (hb hby d3_153)
    have F_thirdBytes_a0 : Fld Z h64 a0 "com/example/nimble_needle/nimbleneedle/algorithm/WordSieve" "thirdBytes" "J" (.long (((if (255 : Int32) < (0 : Int32) then (63 : Int32) else (0 : Int32)).toInt64) * (72340172838076673 : Int64))) := F_thirdBytes_a0.same W64
    have E_a0 : Exa Z h64 a0 "com/example/nimble_needle/nimbleneedle/algorithm/WordSieve" := E_a0.wr W64
    have F_length_a0 : Fld Z h64 a0 "com/example/nimble_needle/nimbleneedle/algorithm/WordSieve" "length" "I" (.int nn) := F_length_a0.other W64 (Or.inr (slot_ne (Or.inr (hw _ (List.mem_of_getElem? (i := 19) rfl))) (Or.inr (hw _ (List.mem_of_getElem? (i := 51) rfl))) (by decide) (t := .int) (t' := .long) (by decide) (by decide)))
    have F_firstPlace_a0 : Fld Z h64 a0 "com/example/nimble_needle/nimbleneedle/algorithm/WordSieve" "firstPlace" "I" (.int (0 : Int32)) := F_firstPlace_a0.other W64 (Or.inr (slot_ne (Or.inr (hw _ (List.mem_of_getElem? (i := 33) rfl))) (Or.inr (hw _ (List.mem_of_getElem? (i := 51) rfl))) (by decide) (t := .int) (t' := .long) (by decide) (by decide)))
    have F_secondPlace_a0 : Fld Z h64 a0 "com/example/nimble_needle/nimbleneedle/algorithm/WordSieve" "secondPlace" "I" (.int (0 : Int32)) := F_secondPlace_a0.other W64 (Or.inr (slot_ne (Or.inr (hw _ (List.mem_of_getElem? (i := 39) rfl))) (Or.inr (hw _ (List.mem_of_getElem? (i := 51) rfl))) (by decide) (t := .int) (t' := .long) (by decide) (by decide)))
    have F_thirdPlace_a0 : Fld Z h64 a0 "com/example/nimble_needle/nimbleneedle/algorithm/WordSieve" "thirdPlace" "I" (.int (0 : Int32)) := F_thirdPlace_a0.other W64 (Or.inr (slot_ne (Or.inr (hw _ (List.mem_of_getElem? (i := 41) rfl))) (Or.inr (hw _ (List.mem_of_getElem? (i := 51) rfl))) (by decide) (t := .int) (t' := .long) (by decide) (by decide)))
    have F_lastPlace_a0 : Fld Z h64 a0 "com/example/nimble_needle/nimbleneedle/algorithm/WordSieve" "lastPlace" "I" u_lastPlace := F_lastPlace_a0.other W64 (Or.inr (slot_ne (Or.inr (hw _ (List.mem_of_getElem? (i := 56) rfl))) (Or.inr (hw _ (List.mem_of_getElem? (i := 51) rfl))) (by decide) (t := .int) (t' := .long) (by decide) (by decide)))
    have V_a1 : Arv Z h64 a1 k1 .char nn [] (.int (0 : Int32)) := V_a1.other W64 ne_a1_a0
    have V_a2 : Arv Z h64 a2 k2 .int (1 : Int32) [(.int (0 : Int32))] (.int (0 : Int32)) := V_a2.other W64 ne_a2_a0
    have Zh64 : n0 ≤ h64.size := Nat.le_trans Zh60 (Keep.of_wr W64).1
    have Kh64 : Keep h0 h64 [a0] := Kh60.wr W64 (Or.inl (by simp))
    have N64 := Fr.snoc X64 N63 g_a0
    obtain ⟨T65, X65, e65, st65⟩ := getF X64 hx hZ hown (host := "") (Or.inl (hw _ (List.mem_of_getElem? (i := 32) rfl))) Via.refl e64 F_firstPlace_a0 (g := (mkF m 158 #[.val (.ref a0), .val (.ref a1), .val (.ref a2), .val .null, .val (.int p4), .val (.int p5)] [(.ref a0), (.ref a0)])) rfl rfl (hb hby d3_158)
    obtain ⟨T66, X66, e66, st66⟩ := getF X65 hx hZ hown (host := "") (Or.inl (hw _ (List.mem_of_getElem? (i := 38) rfl))) Via.refl e65 F_secondPlace_a0 (g := (mkF m 162 #[.val (.ref a0), .val (.ref a1), .val (.ref a2), .val .null, .val (.int p4), .val (.int p5)] [(.ref a0), (.int (0 : Int32)), (.ref a0)])) rfl rfl (hb hby d3_162)
    obtain ⟨T67, X67, e67, st67⟩ := getF X66 hx hZ hown (host := "") (Or.inl (hw _ (List.mem_of_getElem? (i := 40) rfl))) Via.refl e66 F_thirdPlace_a0 (g := (mkF m 166 #[.val (.ref a0), .val (.ref a1), .val (.ref a2), .val .null, .val (.int p4), .val (.int p5)] [(.ref a0), (.int (0 : Int32)), (.int (0 : Int32)), (.ref a0)])) rfl rfl (hb hby d3_166)
    obtain ⟨_, _, ⟨T68, L68, k68, n68⟩, -, X68, ⟨Lc68, hQ68, l68, y68, z68⟩, st68⟩ := Jvm.LawKit.callS X67 hx (y := (⟨"java/lang/Math", "max", "(II)I"⟩ : MethodName)) hown (mvT hZ (hw _ (List.mem_of_getElem? (i := 52) rfl))) (mvT hZ (hw _ (List.mem_of_getElem? (i := 53) rfl))) (mvT hZ (hw _ (List.mem_of_getElem? (i := 36) rfl))) (mvT hZ (hw _ (List.mem_of_getElem? (i := 54) rfl))) (by decide) (backOf (W := 2) (rm7 l Z A0 hw [] (0 : Int32) (0 : Int32)  h64 n0 Zh64 ) hZ (hw _ (List.mem_of_getElem? (i := 54) rfl)) (hw _ (List.mem_of_getElem? (i := 36) rfl)) (by decide) (by decide)) (g := (mkF m 169 #[.val (.ref a0), .val (.ref a1), .val (.ref a2), .val .null, .val (.int p4), .val (.int p5)] [(.int (0 : Int32)), (.int (0 : Int32)), (.int (0 : Int32)), (.ref a0)])) rfl (by rw [hml]; rfl) (argsL := [(.int (0 : Int32)), (.int (0 : Int32))]) (rest := [(.int (0 : Int32)), (.ref a0)]) (lenOf pd_0 rfl) rfl (by show 2 * 0 + _ ≤ _; exact Nat.le_of_eq rfl) (hb hby d3_169) (fun _ _ => ⟨rfl, e67, (by decide : 0 + 0 ≤ _), (by decide : 0 + 0 ≤ _)⟩)
    dsimp only [Pt.U, Pt.locs, Pt.cells, Pt.slots] at X68 l68 y68 z68 st68 hQ68
    subst l68 y68 z68
    obtain ⟨rfl, N68q, eh68⟩ := hQ68
    have N68 := Fr.app N64 N68q
    obtain ⟨_, _, ⟨T69, L69, k69, n69⟩, -, X69, ⟨Lc69, hQ69, l69, y69, z69⟩, st69⟩ := Jvm.LawKit.callS X68 hx (y := (⟨"java/lang/Math", "max", "(II)I"⟩ : MethodName)) hown (mvT hZ (hw _ (List.mem_of_getElem? (i := 52) rfl))) (mvT hZ (hw _ (List.mem_of_getElem? (i := 53) rfl))) (mvT hZ (hw _ (List.mem_of_getElem? (i := 36) rfl))) (mvT hZ (hw _ (List.mem_of_getElem? (i := 54) rfl))) (by decide) (backOf (W := 1) (rm7 l Z A0 hw [] (0 : Int32) (if (0 : Int32) < (0 : Int32) then (0 : Int32) else (0 : Int32))  h64 n0 Zh64 ) hZ (hw _ (List.mem_of_getElem? (i := 54) rfl)) (hw _ (List.mem_of_getElem? (i := 36) rfl)) (by decide) (by decide)) (g := (mkF m 172 #[.val (.ref a0), .val (.ref a1), .val (.ref a2), .val .null, .val (.int p4), .val (.int p5)] [(.int (if (0 : Int32) < (0 : Int32) then (0 : Int32) else (0 : Int32))), (.int (0 : Int32)), (.ref a0)])) rfl (by rw [hml]; rfl) (argsL := [(.int (0 : Int32)), (.int (if (0 : Int32) < (0 : Int32) then (0 : Int32) else (0 : Int32)))]) (rest := [(.ref a0)]) (lenOf pd_0 rfl) rfl (by show 2 * 0 + _ ≤ _; exact Nat.le_of_eq rfl) (hb hby d3_172) (fun _ _ => ⟨rfl, eh68, (by decide : 0 + 0 ≤ _), (by decide : 0 + 0 ≤ _)⟩)
    dsimp only [Pt.U, Pt.locs, Pt.cells, Pt.slots] at X69 l69 y69 z69 st69 hQ69
    subst l69 y69 z69
    obtain ⟨rfl, N69q, eh69⟩ := hQ69
    have N69 := Fr.app N68 N69q
    obtain ⟨T70, h70, X70, e70, W70, st70⟩ := putF X69 hx hZ hown (host := "") (Or.inl (hw _ (List.mem_of_getElem? (i := 55) rfl))) Via.refl eh69 F_lastPlace_a0 E_a0 (Or.inr ⟨(hw _ (List.mem_of_getElem? (i := 56) rfl)), rfl, hnm⟩) (hw _ (List.mem_of_getElem? (i := 7) rfl)) (ty := .int) (by decide) rfl rfl (g := (mkF m 175 #[.val (.ref a0), .val (.ref a1), .val (.ref a2), .val .null, .val (.int p4), .val (.int p5)] [(.int (if (0 : Int32) < (if (0 : Int32) < (0 : Int32) then (0 : Int32) else (0 : Int32)) then (if (0 : Int32) < (0 : Int32) then (0 : Int32) else (0 : Int32)) else (0 : Int32))), (.ref a0)])) rfl rfl (hb hby d3_175)
    have F_lastPlace_a0 : Fld Z h70 a0 "com/example/nimble_needle/nimbleneedle/algorithm/WordSieve" "lastPlace" "I" (.int (if (0 : Int32) < (if (0 : Int32) < (0 : Int32) then (0 : Int32) else (0 : Int32)) then (if (0 : Int32) < (0 : Int32) then (0 : Int32) else (0 : Int32)) else (0 : Int32))) := F_lastPlace_a0.same W70
    have E_a0 : Exa Z h70 a0 "com/example/nimble_needle/nimbleneedle/algorithm/WordSieve" := E_a0.wr W70
    have F_length_a0 : Fld Z h70 a0 "com/example/nimble_needle/nimbleneedle/algorithm/WordSieve" "length" "I" (.int nn) := F_length_a0.other W70 (Or.inr (slot_ne (Or.inr (hw _ (List.mem_of_getElem? (i := 19) rfl))) (Or.inr (hw _ (List.mem_of_getElem? (i := 56) rfl))) (by decide) (t := .int) (t' := .int) (by decide) (by decide)))
    have F_firstPlace_a0 : Fld Z h70 a0 "com/example/nimble_needle/nimbleneedle/algorithm/WordSieve" "firstPlace" "I" (.int (0 : Int32)) := F_firstPlace_a0.other W70 (Or.inr (slot_ne (Or.inr (hw _ (List.mem_of_getElem? (i := 33) rfl))) (Or.inr (hw _ (List.mem_of_getElem? (i := 56) rfl))) (by decide) (t := .int) (t' := .int) (by decide) (by decide)))
    have F_secondPlace_a0 : Fld Z h70 a0 "com/example/nimble_needle/nimbleneedle/algorithm/WordSieve" "secondPlace" "I" (.int (0 : Int32)) := F_secondPlace_a0.other W70 (Or.inr (slot_ne (Or.inr (hw _ (List.mem_of_getElem? (i := 39) rfl))) (Or.inr (hw _ (List.mem_of_getElem? (i := 56) rfl))) (by decide) (t := .int) (t' := .int) (by decide) (by decide)))
    have F_thirdPlace_a0 : Fld Z h70 a0 "com/example/nimble_needle/nimbleneedle/algorithm/WordSieve" "thirdPlace" "I" (.int (0 : Int32)) := F_thirdPlace_a0.other W70 (Or.inr (slot_ne (Or.inr (hw _ (List.mem_of_getElem? (i := 41) rfl))) (Or.inr (hw _ (List.mem_of_getElem? (i := 56) rfl))) (by decide) (t := .int) (t' := .int) (by decide) (by decide)))
    have V_a1 : Arv Z h70 a1 k1 .char nn [] (.int (0 : Int32)) := V_a1.other W70 ne_a1_a0
    have V_a2 : Arv Z h70 a2 k2 .int (1 : Int32) [(.int (0 : Int32))] (.int (0 : Int32)) := V_a2.other W70 ne_a2_a0
    have Zh70 : n0 ≤ h70.size := Nat.le_trans Zh64 (Keep.of_wr W70).1
    have Kh70 : Keep h0 h70 [a0] := Kh64.wr W70 (Or.inl (by simp))
    have N70 := Fr.snoc X70 N69 g_a0
    obtain ⟨fs, hr, hrun, hended, hW, hsame⟩ := X70.leave (v := none) (fun _ => rfl)
    refine ⟨_, _, pre0 _ ?_, hrun, hended, _, _, rfl, ?_, ⟨_, rfl⟩, hW, hsame.mono (by decide) (by decide)⟩
    · show Steps p.tables e below (s₁.setTop (mkF m 0 #[.val (.ref a0), .val (.ref a1), .val (.ref a2), .val .null, .val (.int p4), .val (.int p5)] [])) _
      refine XS.aloadN X0.here hx rfl (hb hby d3_0) rfl rfl ?_
      show Steps p.tables e below (s₁.setTop (mkF m 1 #[.val (.ref a0), .val (.ref a1), .val (.ref a2), .val .null, .val (.int p4), .val (.int p5)] [(.ref a0)])) _
      refine st1 _ ?_
      show Steps p.tables e below (T1.setTop (mkF m 4 #[.val (.ref a0), .val (.ref a1), .val (.ref a2), .val .null, .val (.int p4), .val (.int p5)] [])) _
      refine XS.aloadN X1.here hx rfl (hb hby d3_4) rfl rfl ?_
      show Steps p.tables e below (T1.setTop (mkF m 5 #[.val (.ref a0), .val (.ref a1), .val (.ref a2), .val .null, .val (.int p4), .val (.int p5)] [(.ref a0)])) _
      refine XS.aloadN X1.here hx rfl (hb hby d3_5) rfl rfl ?_
      show Steps p.tables e below (T1.setTop (mkF m 6 #[.val (.ref a0), .val (.ref a1), .val (.ref a2), .val .null, .val (.int p4), .val (.int p5)] [(.ref a1), (.ref a0)])) _
      refine X1.arraylength hx (by rw [e1]; exact Ar2.1) (State.isArrayOf_alike hZ.alike Ar2.2.1) (g := (mkF m 6 #[.val (.ref a0), .val (.ref a1), .val (.ref a2), .val .null, .val (.int p4), .val (.int p5)] [(.ref a1), (.ref a0)])) rfl rfl (hb hby d3_6) _ ?_
      rw [len_of SS2 MM2]
      show Steps p.tables e below (T1.setTop (mkF m 7 #[.val (.ref a0), .val (.ref a1), .val (.ref a2), .val .null, .val (.int p4), .val (.int p5)] [(.int nn), (.ref a0)])) _
      refine st3 _ ?_
      show Steps p.tables e below (T3.setTop (mkF m 10 #[.val (.ref a0), .val (.ref a1), .val (.ref a2), .val .null, .val (.int p4), .val (.int p5)] [])) _
      refine XS.aloadN X3.here hx rfl (hb hby d3_10) rfl rfl ?_
      show Steps p.tables e below (T3.setTop (mkF m 11 #[.val (.ref a0), .val (.ref a1), .val (.ref a2), .val .null, .val (.int p4), .val (.int p5)] [(.ref a0)])) _
      refine XS.aloadN X3.here hx rfl (hb hby d3_11) rfl rfl ?_
      show Steps p.tables e below (T3.setTop (mkF m 12 #[.val (.ref a0), .val (.ref a1), .val (.ref a2), .val .null, .val (.int p4), .val (.int p5)] [(.ref a1), (.ref a0)])) _
      refine XS.iconst X3.here hx rfl (hb hby d3_12) ?_
      show Steps p.tables e below (T3.setTop (mkF m 13 #[.val (.ref a0), .val (.ref a1), .val (.ref a2), .val .null, .val (.int p4), .val (.int p5)] [(.int (0 : Int32)), (.ref a1), (.ref a0)])) _
      refine X3.caload hx (j := (0 : Int32)) (v := (.int (0 : Int32))) (by rw [e3]; exact Ar4.1) (State.isArrayOf_alike hZ.alike Ar4.2.1) Ar4.2.2 hin4 hat4 (g := (mkF m 13 #[.val (.ref a0), .val (.ref a1), .val (.ref a2), .val .null, .val (.int p4), .val (.int p5)] [(.int (0 : Int32)), (.ref a1), (.ref a0)])) rfl rfl (hb hby d3_13) _ ?_
      show Steps p.tables e below (T3.setTop (mkF m 14 #[.val (.ref a0), .val (.ref a1), .val (.ref a2), .val .null, .val (.int p4), .val (.int p5)] [(.int (0 : Int32)), (.ref a0)])) _
      refine st5 _ ?_
      show Steps p.tables e below (T5.setTop (mkF m 17 #[.val (.ref a0), .val (.ref a1), .val (.ref a2), .val .null, .val (.int p4), .val (.int p5)] [])) _
      refine XS.aloadN X5.here hx rfl (hb hby d3_17) rfl rfl ?_
      show Steps p.tables e below (T5.setTop (mkF m 18 #[.val (.ref a0), .val (.ref a1), .val (.ref a2), .val .null, .val (.int p4), .val (.int p5)] [(.ref a0)])) _
      refine XS.aloadN X5.here hx rfl (hb hby d3_18) rfl rfl ?_
      show Steps p.tables e below (T5.setTop (mkF m 19 #[.val (.ref a0), .val (.ref a1), .val (.ref a2), .val .null, .val (.int p4), .val (.int p5)] [.null, (.ref a0)])) _
      refine st6 _ ?_
      show Steps p.tables e below (T6.setTop (mkF m 22 #[.val (.ref a0), .val (.ref a1), .val (.ref a2), .val .null, .val (.int p4), .val (.int p5)] [])) _
      refine XS.aloadN X6.here hx rfl (hb hby d3_22) rfl rfl ?_
      show Steps p.tables e below (T6.setTop (mkF m 23 #[.val (.ref a0), .val (.ref a1), .val (.ref a2), .val .null, .val (.int p4), .val (.int p5)] [(.ref a0)])) _
      refine XS.iload X6.here hx rfl (hb hby d3_23) rfl ?_
      show Steps p.tables e below (T6.setTop (mkF m 25 #[.val (.ref a0), .val (.ref a1), .val (.ref a2), .val .null, .val (.int p4), .val (.int p5)] [(.int p4), (.ref a0)])) _
      refine st7 _ ?_
      show Steps p.tables e below (T7.setTop (mkF m 28 #[.val (.ref a0), .val (.ref a1), .val (.ref a2), .val .null, .val (.int p4), .val (.int p5)] [])) _
      refine XS.aloadN X7.here hx rfl (hb hby d3_28) rfl rfl ?_
      show Steps p.tables e below (T7.setTop (mkF m 29 #[.val (.ref a0), .val (.ref a1), .val (.ref a2), .val .null, .val (.int p4), .val (.int p5)] [(.ref a0)])) _
      refine XS.iload X7.here hx rfl (hb hby d3_29) rfl ?_
      show Steps p.tables e below (T7.setTop (mkF m 31 #[.val (.ref a0), .val (.ref a1), .val (.ref a2), .val .null, .val (.int p4), .val (.int p5)] [(.int p5), (.ref a0)])) _
      refine st8 _ ?_
      show Steps p.tables e below (T8.setTop (mkF m 34 #[.val (.ref a0), .val (.ref a1), .val (.ref a2), .val .null, .val (.int p4), .val (.int p5)] [])) _
      refine XS.aloadN X8.here hx rfl (hb hby d3_34) rfl rfl ?_
      show Steps p.tables e below (T8.setTop (mkF m 35 #[.val (.ref a0), .val (.ref a1), .val (.ref a2), .val .null, .val (.int p4), .val (.int p5)] [(.ref a0)])) _
      refine XS.iload X8.here hx rfl (hb hby d3_35) rfl ?_
      show Steps p.tables e below (T8.setTop (mkF m 37 #[.val (.ref a0), .val (.ref a1), .val (.ref a2), .val .null, .val (.int p4), .val (.int p5)] [(.int p4), (.ref a0)])) _
      refine XS.ifNo X8.here hx rfl (hb hby d3_37) rfl ((if0 _ _).trans (feq hc37).1) ?_
      show Steps p.tables e below (T8.setTop (mkF m 40 #[.val (.ref a0), .val (.ref a1), .val (.ref a2), .val .null, .val (.int p4), .val (.int p5)] [(.ref a0)])) _
      refine XS.sipush X8.here hx rfl (hb hby d3_40) ?_
      show Steps p.tables e below (T8.setTop (mkF m 43 #[.val (.ref a0), .val (.ref a1), .val (.ref a2), .val .null, .val (.int p4), .val (.int p5)] [(.int (512 : Int32)), (.ref a0)])) _
      refine XS.bipush X8.here hx rfl (hb hby d3_43) ?_
      show Steps p.tables e below (T8.setTop (mkF m 45 #[.val (.ref a0), .val (.ref a1), .val (.ref a2), .val .null, .val (.int p4), .val (.int p5)] [(.int (32 : Int32)), (.int (512 : Int32)), (.ref a0)])) _
      refine XS.aloadN X8.here hx rfl (hb hby d3_45) rfl rfl ?_
      show Steps p.tables e below (T8.setTop (mkF m 46 #[.val (.ref a0), .val (.ref a1), .val (.ref a2), .val .null, .val (.int p4), .val (.int p5)] [(.ref a0), (.int (32 : Int32)), (.int (512 : Int32)), (.ref a0)])) _
      refine st39 _ ?_
      show Steps p.tables e below (T39.setTop (mkF m 49 #[.val (.ref a0), .val (.ref a1), .val (.ref a2), .val .null, .val (.int p4), .val (.int p5)] [(.int nn), (.int (32 : Int32)), (.int (512 : Int32)), (.ref a0)])) _
      refine XS.iconst X39.here hx rfl (hb hby d3_49) ?_
      show Steps p.tables e below (T39.setTop (mkF m 50 #[.val (.ref a0), .val (.ref a1), .val (.ref a2), .val .null, .val (.int p4), .val (.int p5)] [(.int (1 : Int32)), (.int nn), (.int (32 : Int32)), (.int (512 : Int32)), (.ref a0)])) _
      refine XS.isub X39.here hx rfl (hb hby d3_50) rfl ?_
      show Steps p.tables e below (T39.setTop (mkF m 51 #[.val (.ref a0), .val (.ref a1), .val (.ref a2), .val .null, .val (.int p4), .val (.int p5)] [(.int (nn - (1 : Int32))), (.int (32 : Int32)), (.int (512 : Int32)), (.ref a0)])) _
      refine XS.imul X39.here hx rfl (hb hby d3_51) rfl ?_
      show Steps p.tables e below (T39.setTop (mkF m 52 #[.val (.ref a0), .val (.ref a1), .val (.ref a2), .val .null, .val (.int p4), .val (.int p5)] [(.int ((32 : Int32) * (nn - (1 : Int32)))), (.int (512 : Int32)), (.ref a0)])) _
      refine st40 _ ?_
      show Steps p.tables e below (T40.setTop (mkF m 55 #[.val (.ref a0), .val (.ref a1), .val (.ref a2), .val .null, .val (.int p4), .val (.int p5)] [(.int (if ((32 : Int32) * (nn - (1 : Int32))) < (512 : Int32) then ((32 : Int32) * (nn - (1 : Int32))) else (512 : Int32))), (.ref a0)])) _
      refine XS.goto X40.here hx rfl (pc0 := 55) (pc' := 61) rfl (hb hby d3_55) (by decide) (by decide) ?_
      show Steps p.tables e below (T40.setTop (mkF m 61 #[.val (.ref a0), .val (.ref a1), .val (.ref a2), .val .null, .val (.int p4), .val (.int p5)] [(.int (if ((32 : Int32) * (nn - (1 : Int32))) < (512 : Int32) then ((32 : Int32) * (nn - (1 : Int32))) else (512 : Int32))), (.ref a0)])) _
      refine st41 _ ?_
      show Steps p.tables e below (T41.setTop (mkF m 64 #[.val (.ref a0), .val (.ref a1), .val (.ref a2), .val .null, .val (.int p4), .val (.int p5)] [])) _
      refine XS.aloadN X41.here hx rfl (hb hby d3_64) rfl rfl ?_
      show Steps p.tables e below (T41.setTop (mkF m 65 #[.val (.ref a0), .val (.ref a1), .val (.ref a2), .val .null, .val (.int p4), .val (.int p5)] [(.ref a0)])) _
      refine XS.aloadN X41.here hx rfl (hb hby d3_65) rfl rfl ?_
      show Steps p.tables e below (T41.setTop (mkF m 66 #[.val (.ref a0), .val (.ref a1), .val (.ref a2), .val .null, .val (.int p4), .val (.int p5)] [(.ref a2), (.ref a0)])) _
      refine X41.arraylength hx (by rw [e41]; exact Ar42.1) (State.isArrayOf_alike hZ.alike Ar42.2.1) (g := (mkF m 66 #[.val (.ref a0), .val (.ref a1), .val (.ref a2), .val .null, .val (.int p4), .val (.int p5)] [(.ref a2), (.ref a0)])) rfl rfl (hb hby d3_66) _ ?_
      rw [len_of SS42 MM42]
      show Steps p.tables e below (T41.setTop (mkF m 67 #[.val (.ref a0), .val (.ref a1), .val (.ref a2), .val .null, .val (.int p4), .val (.int p5)] [(.int (1 : Int32)), (.ref a0)])) _
      refine XS.iconst X41.here hx rfl (hb hby d3_67) ?_
      show Steps p.tables e below (T41.setTop (mkF m 68 #[.val (.ref a0), .val (.ref a1), .val (.ref a2), .val .null, .val (.int p4), .val (.int p5)] [(.int (1 : Int32)), (.int (1 : Int32)), (.ref a0)])) _
      refine XS.icmpYes X41.here hx rfl (pc0 := 68) (pc' := 82) rfl (hb hby d3_68) rfl (flt (by decide : ¬ ((1 : Int32) < (1 : Int32)))).2.2.2 (by decide) (by decide) ?_
      show Steps p.tables e below (T41.setTop (mkF m 82 #[.val (.ref a0), .val (.ref a1), .val (.ref a2), .val .null, .val (.int p4), .val (.int p5)] [(.ref a0)])) _
      refine XS.iconst X41.here hx rfl (hb hby d3_82) ?_
      show Steps p.tables e below (T41.setTop (mkF m 83 #[.val (.ref a0), .val (.ref a1), .val (.ref a2), .val .null, .val (.int p4), .val (.int p5)] [(.int (0 : Int32)), (.ref a0)])) _
      refine st43 _ ?_
      show Steps p.tables e below (T43.setTop (mkF m 86 #[.val (.ref a0), .val (.ref a1), .val (.ref a2), .val .null, .val (.int p4), .val (.int p5)] [])) _
      refine XS.aloadN X43.here hx rfl (hb hby d3_86) rfl rfl ?_
      show Steps p.tables e below (T43.setTop (mkF m 87 #[.val (.ref a0), .val (.ref a1), .val (.ref a2), .val .null, .val (.int p4), .val (.int p5)] [(.ref a0)])) _
      refine XS.aloadN X43.here hx rfl (hb hby d3_87) rfl rfl ?_
      show Steps p.tables e below (T43.setTop (mkF m 88 #[.val (.ref a0), .val (.ref a1), .val (.ref a2), .val .null, .val (.int p4), .val (.int p5)] [(.ref a2), (.ref a0)])) _
      refine XS.iconst X43.here hx rfl (hb hby d3_88) ?_
      show Steps p.tables e below (T43.setTop (mkF m 89 #[.val (.ref a0), .val (.ref a1), .val (.ref a2), .val .null, .val (.int p4), .val (.int p5)] [(.int (0 : Int32)), (.ref a2), (.ref a0)])) _
      refine X43.iaload hx (j := (0 : Int32)) (v := (.int (0 : Int32))) (by rw [e43]; exact Ar44.1) (State.isArrayOf_alike hZ.alike Ar44.2.1) Ar44.2.2 hin44 hat44 (g := (mkF m 89 #[.val (.ref a0), .val (.ref a1), .val (.ref a2), .val .null, .val (.int p4), .val (.int p5)] [(.int (0 : Int32)), (.ref a2), (.ref a0)])) rfl rfl (hb hby d3_89) _ ?_
      show Steps p.tables e below (T43.setTop (mkF m 90 #[.val (.ref a0), .val (.ref a1), .val (.ref a2), .val .null, .val (.int p4), .val (.int p5)] [(.int (0 : Int32)), (.ref a0)])) _
      refine st45 _ ?_
      show Steps p.tables e below (T45.setTop (mkF m 93 #[.val (.ref a0), .val (.ref a1), .val (.ref a2), .val .null, .val (.int p4), .val (.int p5)] [])) _
      refine XS.aloadN X45.here hx rfl (hb hby d3_93) rfl rfl ?_
      show Steps p.tables e below (T45.setTop (mkF m 94 #[.val (.ref a0), .val (.ref a1), .val (.ref a2), .val .null, .val (.int p4), .val (.int p5)] [(.ref a0)])) _
      refine XS.aloadN X45.here hx rfl (hb hby d3_94) rfl rfl ?_
      show Steps p.tables e below (T45.setTop (mkF m 95 #[.val (.ref a0), .val (.ref a1), .val (.ref a2), .val .null, .val (.int p4), .val (.int p5)] [(.ref a2), (.ref a0)])) _
      refine XS.iconst X45.here hx rfl (hb hby d3_95) ?_
      show Steps p.tables e below (T45.setTop (mkF m 96 #[.val (.ref a0), .val (.ref a1), .val (.ref a2), .val .null, .val (.int p4), .val (.int p5)] [(.int (1 : Int32)), (.ref a2), (.ref a0)])) _
      refine XS.aloadN X45.here hx rfl (hb hby d3_96) rfl rfl ?_
      show Steps p.tables e below (T45.setTop (mkF m 97 #[.val (.ref a0), .val (.ref a1), .val (.ref a2), .val .null, .val (.int p4), .val (.int p5)] [(.ref a2), (.int (1 : Int32)), (.ref a2), (.ref a0)])) _
      refine X45.arraylength hx (by rw [e45]; exact Ar46.1) (State.isArrayOf_alike hZ.alike Ar46.2.1) (g := (mkF m 97 #[.val (.ref a0), .val (.ref a1), .val (.ref a2), .val .null, .val (.int p4), .val (.int p5)] [(.ref a2), (.int (1 : Int32)), (.ref a2), (.ref a0)])) rfl rfl (hb hby d3_97) _ ?_
      rw [len_of SS46 MM46]
      show Steps p.tables e below (T45.setTop (mkF m 98 #[.val (.ref a0), .val (.ref a1), .val (.ref a2), .val .null, .val (.int p4), .val (.int p5)] [(.int (1 : Int32)), (.int (1 : Int32)), (.ref a2), (.ref a0)])) _
      refine XS.iconst X45.here hx rfl (hb hby d3_98) ?_
      show Steps p.tables e below (T45.setTop (mkF m 99 #[.val (.ref a0), .val (.ref a1), .val (.ref a2), .val .null, .val (.int p4), .val (.int p5)] [(.int (1 : Int32)), (.int (1 : Int32)), (.int (1 : Int32)), (.ref a2), (.ref a0)])) _
      refine XS.isub X45.here hx rfl (hb hby d3_99) rfl ?_
      show Steps p.tables e below (T45.setTop (mkF m 100 #[.val (.ref a0), .val (.ref a1), .val (.ref a2), .val .null, .val (.int p4), .val (.int p5)] [(.int ((1 : Int32) - (1 : Int32))), (.int (1 : Int32)), (.ref a2), (.ref a0)])) _
      refine st47 _ ?_
      show Steps p.tables e below (T47.setTop (mkF m 103 #[.val (.ref a0), .val (.ref a1), .val (.ref a2), .val .null, .val (.int p4), .val (.int p5)] [(.int (if ((1 : Int32) - (1 : Int32)) < (1 : Int32) then ((1 : Int32) - (1 : Int32)) else (1 : Int32))), (.ref a2), (.ref a0)])) _
      refine X47.iaload hx (j := (if ((1 : Int32) - (1 : Int32)) < (1 : Int32) then ((1 : Int32) - (1 : Int32)) else (1 : Int32))) (v := (.int (0 : Int32))) (by rw [eh47]; exact Ar48.1) (State.isArrayOf_alike hZ.alike Ar48.2.1) Ar48.2.2 hin48 hat48 (g := (mkF m 103 #[.val (.ref a0), .val (.ref a1), .val (.ref a2), .val .null, .val (.int p4), .val (.int p5)] [(.int (if ((1 : Int32) - (1 : Int32)) < (1 : Int32) then ((1 : Int32) - (1 : Int32)) else (1 : Int32))), (.ref a2), (.ref a0)])) rfl rfl (hb hby d3_103) _ ?_
      show Steps p.tables e below (T47.setTop (mkF m 104 #[.val (.ref a0), .val (.ref a1), .val (.ref a2), .val .null, .val (.int p4), .val (.int p5)] [(.int (0 : Int32)), (.ref a0)])) _
      refine st49 _ ?_
      show Steps p.tables e below (T49.setTop (mkF m 107 #[.val (.ref a0), .val (.ref a1), .val (.ref a2), .val .null, .val (.int p4), .val (.int p5)] [])) _
      refine XS.aloadN X49.here hx rfl (hb hby d3_107) rfl rfl ?_
      show Steps p.tables e below (T49.setTop (mkF m 108 #[.val (.ref a0), .val (.ref a1), .val (.ref a2), .val .null, .val (.int p4), .val (.int p5)] [(.ref a0)])) _
      refine XS.aloadN X49.here hx rfl (hb hby d3_108) rfl rfl ?_
      show Steps p.tables e below (T49.setTop (mkF m 109 #[.val (.ref a0), .val (.ref a1), .val (.ref a2), .val .null, .val (.int p4), .val (.int p5)] [(.ref a2), (.ref a0)])) _
      refine XS.aloadN X49.here hx rfl (hb hby d3_109) rfl rfl ?_
      show Steps p.tables e below (T49.setTop (mkF m 110 #[.val (.ref a0), .val (.ref a1), .val (.ref a2), .val .null, .val (.int p4), .val (.int p5)] [(.ref a2), (.ref a2), (.ref a0)])) _
      refine X49.arraylength hx (by rw [e49]; exact Ar50.1) (State.isArrayOf_alike hZ.alike Ar50.2.1) (g := (mkF m 110 #[.val (.ref a0), .val (.ref a1), .val (.ref a2), .val .null, .val (.int p4), .val (.int p5)] [(.ref a2), (.ref a2), (.ref a0)])) rfl rfl (hb hby d3_110) _ ?_
      rw [len_of SS50 MM50]
      show Steps p.tables e below (T49.setTop (mkF m 111 #[.val (.ref a0), .val (.ref a1), .val (.ref a2), .val .null, .val (.int p4), .val (.int p5)] [(.int (1 : Int32)), (.ref a2), (.ref a0)])) _
      refine XS.iconst X49.here hx rfl (hb hby d3_111) ?_
      show Steps p.tables e below (T49.setTop (mkF m 112 #[.val (.ref a0), .val (.ref a1), .val (.ref a2), .val .null, .val (.int p4), .val (.int p5)] [(.int (1 : Int32)), (.int (1 : Int32)), (.ref a2), (.ref a0)])) _
      refine XS.isub X49.here hx rfl (hb hby d3_112) rfl ?_
      show Steps p.tables e below (T49.setTop (mkF m 113 #[.val (.ref a0), .val (.ref a1), .val (.ref a2), .val .null, .val (.int p4), .val (.int p5)] [(.int ((1 : Int32) - (1 : Int32))), (.ref a2), (.ref a0)])) _
      refine X49.iaload hx (j := ((1 : Int32) - (1 : Int32))) (v := (.int (0 : Int32))) (by rw [e49]; exact Ar51.1) (State.isArrayOf_alike hZ.alike Ar51.2.1) Ar51.2.2 hin51 hat51 (g := (mkF m 113 #[.val (.ref a0), .val (.ref a1), .val (.ref a2), .val .null, .val (.int p4), .val (.int p5)] [(.int ((1 : Int32) - (1 : Int32))), (.ref a2), (.ref a0)])) rfl rfl (hb hby d3_113) _ ?_
      show Steps p.tables e below (T49.setTop (mkF m 114 #[.val (.ref a0), .val (.ref a1), .val (.ref a2), .val .null, .val (.int p4), .val (.int p5)] [(.int (0 : Int32)), (.ref a0)])) _
      refine st52 _ ?_
      show Steps p.tables e below (T52.setTop (mkF m 117 #[.val (.ref a0), .val (.ref a1), .val (.ref a2), .val .null, .val (.int p4), .val (.int p5)] [])) _
      refine XS.aloadN X52.here hx rfl (hb hby d3_117) rfl rfl ?_
      show Steps p.tables e below (T52.setTop (mkF m 118 #[.val (.ref a0), .val (.ref a1), .val (.ref a2), .val .null, .val (.int p4), .val (.int p5)] [(.ref a0)])) _
      refine XS.aloadN X52.here hx rfl (hb hby d3_118) rfl rfl ?_
      show Steps p.tables e below (T52.setTop (mkF m 119 #[.val (.ref a0), .val (.ref a1), .val (.ref a2), .val .null, .val (.int p4), .val (.int p5)] [(.ref a1), (.ref a0)])) _
      refine XS.aloadN X52.here hx rfl (hb hby d3_119) rfl rfl ?_
      show Steps p.tables e below (T52.setTop (mkF m 120 #[.val (.ref a0), .val (.ref a1), .val (.ref a2), .val .null, .val (.int p4), .val (.int p5)] [(.ref a0), (.ref a1), (.ref a0)])) _
      refine st53 _ ?_
      show Steps p.tables e below (T53.setTop (mkF m 123 #[.val (.ref a0), .val (.ref a1), .val (.ref a2), .val .null, .val (.int p4), .val (.int p5)] [(.int (0 : Int32)), (.ref a1), (.ref a0)])) _
      refine X53.caload hx (j := (0 : Int32)) (v := (.int (0 : Int32))) (by rw [e53]; exact Ar54.1) (State.isArrayOf_alike hZ.alike Ar54.2.1) Ar54.2.2 hin54 hat54 (g := (mkF m 123 #[.val (.ref a0), .val (.ref a1), .val (.ref a2), .val .null, .val (.int p4), .val (.int p5)] [(.int (0 : Int32)), (.ref a1), (.ref a0)])) rfl rfl (hb hby d3_123) _ ?_
      show Steps p.tables e below (T53.setTop (mkF m 124 #[.val (.ref a0), .val (.ref a1), .val (.ref a2), .val .null, .val (.int p4), .val (.int p5)] [(.int (0 : Int32)), (.ref a0)])) _
      refine st55 _ ?_
      show Steps p.tables e below (T55.setTop (mkF m 127 #[.val (.ref a0), .val (.ref a1), .val (.ref a2), .val .null, .val (.int p4), .val (.int p5)] [(.long (((if (255 : Int32) < (0 : Int32) then (63 : Int32) else (0 : Int32)).toInt64) * (72340172838076673 : Int64))), (.ref a0)])) _
      refine st56 _ ?_
      show Steps p.tables e below (T56.setTop (mkF m 130 #[.val (.ref a0), .val (.ref a1), .val (.ref a2), .val .null, .val (.int p4), .val (.int p5)] [])) _
      refine XS.aloadN X56.here hx rfl (hb hby d3_130) rfl rfl ?_
      show Steps p.tables e below (T56.setTop (mkF m 131 #[.val (.ref a0), .val (.ref a1), .val (.ref a2), .val .null, .val (.int p4), .val (.int p5)] [(.ref a0)])) _
      refine XS.aloadN X56.here hx rfl (hb hby d3_131) rfl rfl ?_
      show Steps p.tables e below (T56.setTop (mkF m 132 #[.val (.ref a0), .val (.ref a1), .val (.ref a2), .val .null, .val (.int p4), .val (.int p5)] [(.ref a1), (.ref a0)])) _
      refine XS.aloadN X56.here hx rfl (hb hby d3_132) rfl rfl ?_
      show Steps p.tables e below (T56.setTop (mkF m 133 #[.val (.ref a0), .val (.ref a1), .val (.ref a2), .val .null, .val (.int p4), .val (.int p5)] [(.ref a0), (.ref a1), (.ref a0)])) _
      refine st57 _ ?_
      show Steps p.tables e below (T57.setTop (mkF m 136 #[.val (.ref a0), .val (.ref a1), .val (.ref a2), .val .null, .val (.int p4), .val (.int p5)] [(.int (0 : Int32)), (.ref a1), (.ref a0)])) _
      refine X57.caload hx (j := (0 : Int32)) (v := (.int (0 : Int32))) (by rw [e57]; exact Ar58.1) (State.isArrayOf_alike hZ.alike Ar58.2.1) Ar58.2.2 hin58 hat58 (g := (mkF m 136 #[.val (.ref a0), .val (.ref a1), .val (.ref a2), .val .null, .val (.int p4), .val (.int p5)] [(.int (0 : Int32)), (.ref a1), (.ref a0)])) rfl rfl (hb hby d3_136) _ ?_
      show Steps p.tables e below (T57.setTop (mkF m 137 #[.val (.ref a0), .val (.ref a1), .val (.ref a2), .val .null, .val (.int p4), .val (.int p5)] [(.int (0 : Int32)), (.ref a0)])) _
      refine st59 _ ?_
      show Steps p.tables e below (T59.setTop (mkF m 140 #[.val (.ref a0), .val (.ref a1), .val (.ref a2), .val .null, .val (.int p4), .val (.int p5)] [(.long (((if (255 : Int32) < (0 : Int32) then (63 : Int32) else (0 : Int32)).toInt64) * (72340172838076673 : Int64))), (.ref a0)])) _
      refine st60 _ ?_
      show Steps p.tables e below (T60.setTop (mkF m 143 #[.val (.ref a0), .val (.ref a1), .val (.ref a2), .val .null, .val (.int p4), .val (.int p5)] [])) _
      refine XS.aloadN X60.here hx rfl (hb hby d3_143) rfl rfl ?_
      show Steps p.tables e below (T60.setTop (mkF m 144 #[.val (.ref a0), .val (.ref a1), .val (.ref a2), .val .null, .val (.int p4), .val (.int p5)] [(.ref a0)])) _
      refine XS.aloadN X60.here hx rfl (hb hby d3_144) rfl rfl ?_
      show Steps p.tables e below (T60.setTop (mkF m 145 #[.val (.ref a0), .val (.ref a1), .val (.ref a2), .val .null, .val (.int p4), .val (.int p5)] [(.ref a1), (.ref a0)])) _
      refine XS.aloadN X60.here hx rfl (hb hby d3_145) rfl rfl ?_
      show Steps p.tables e below (T60.setTop (mkF m 146 #[.val (.ref a0), .val (.ref a1), .val (.ref a2), .val .null, .val (.int p4), .val (.int p5)] [(.ref a0), (.ref a1), (.ref a0)])) _
      refine st61 _ ?_
      show Steps p.tables e below (T61.setTop (mkF m 149 #[.val (.ref a0), .val (.ref a1), .val (.ref a2), .val .null, .val (.int p4), .val (.int p5)] [(.int (0 : Int32)), (.ref a1), (.ref a0)])) _
      refine X61.caload hx (j := (0 : Int32)) (v := (.int (0 : Int32))) (by rw [e61]; exact Ar62.1) (State.isArrayOf_alike hZ.alike Ar62.2.1) Ar62.2.2 hin62 hat62 (g := (mkF m 149 #[.val (.ref a0), .val (.ref a1), .val (.ref a2), .val .null, .val (.int p4), .val (.int p5)] [(.int (0 : Int32)), (.ref a1), (.ref a0)])) rfl rfl (hb hby d3_149) _ ?_
      show Steps p.tables e below (T61.setTop (mkF m 150 #[.val (.ref a0), .val (.ref a1), .val (.ref a2), .val .null, .val (.int p4), .val (.int p5)] [(.int (0 : Int32)), (.ref a0)])) _
      refine st63 _ ?_
      show Steps p.tables e below (T63.setTop (mkF m 153 #[.val (.ref a0), .val (.ref a1), .val (.ref a2), .val .null, .val (.int p4), .val (.int p5)] [(.long (((if (255 : Int32) < (0 : Int32) then (63 : Int32) else (0 : Int32)).toInt64) * (72340172838076673 : Int64))), (.ref a0)])) _
      refine st64 _ ?_
      show Steps p.tables e below (T64.setTop (mkF m 156 #[.val (.ref a0), .val (.ref a1), .val (.ref a2), .val .null, .val (.int p4), .val (.int p5)] [])) _
      refine XS.aloadN X64.here hx rfl (hb hby d3_156) rfl rfl ?_
      show Steps p.tables e below (T64.setTop (mkF m 157 #[.val (.ref a0), .val (.ref a1), .val (.ref a2), .val .null, .val (.int p4), .val (.int p5)] [(.ref a0)])) _
      refine XS.aloadN X64.here hx rfl (hb hby d3_157) rfl rfl ?_
      show Steps p.tables e below (T64.setTop (mkF m 158 #[.val (.ref a0), .val (.ref a1), .val (.ref a2), .val .null, .val (.int p4), .val (.int p5)] [(.ref a0), (.ref a0)])) _
      refine st65 _ ?_
      show Steps p.tables e below (T65.setTop (mkF m 161 #[.val (.ref a0), .val (.ref a1), .val (.ref a2), .val .null, .val (.int p4), .val (.int p5)] [(.int (0 : Int32)), (.ref a0)])) _
      refine XS.aloadN X65.here hx rfl (hb hby d3_161) rfl rfl ?_
      show Steps p.tables e below (T65.setTop (mkF m 162 #[.val (.ref a0), .val (.ref a1), .val (.ref a2), .val .null, .val (.int p4), .val (.int p5)] [(.ref a0), (.int (0 : Int32)), (.ref a0)])) _
      refine st66 _ ?_
      show Steps p.tables e below (T66.setTop (mkF m 165 #[.val (.ref a0), .val (.ref a1), .val (.ref a2), .val .null, .val (.int p4), .val (.int p5)] [(.int (0 : Int32)), (.int (0 : Int32)), (.ref a0)])) _
      refine XS.aloadN X66.here hx rfl (hb hby d3_165) rfl rfl ?_
      show Steps p.tables e below (T66.setTop (mkF m 166 #[.val (.ref a0), .val (.ref a1), .val (.ref a2), .val .null, .val (.int p4), .val (.int p5)] [(.ref a0), (.int (0 : Int32)), (.int (0 : Int32)), (.ref a0)])) _
      refine st67 _ ?_
      show Steps p.tables e below (T67.setTop (mkF m 169 #[.val (.ref a0), .val (.ref a1), .val (.ref a2), .val .null, .val (.int p4), .val (.int p5)] [(.int (0 : Int32)), (.int (0 : Int32)), (.int (0 : Int32)), (.ref a0)])) _
      refine st68 _ ?_
      show Steps p.tables e below (T68.setTop (mkF m 172 #[.val (.ref a0), .val (.ref a1), .val (.ref a2), .val .null, .val (.int p4), .val (.int p5)] [(.int (if (0 : Int32) < (0 : Int32) then (0 : Int32) else (0 : Int32))), (.int (0 : Int32)), (.ref a0)])) _
      refine st69 _ ?_
      show Steps p.tables e below (T69.setTop (mkF m 175 #[.val (.ref a0), .val (.ref a1), .val (.ref a2), .val .null, .val (.int p4), .val (.int p5)] [(.int (if (0 : Int32) < (if (0 : Int32) < (0 : Int32) then (0 : Int32) else (0 : Int32)) then (if (0 : Int32) < (0 : Int32) then (0 : Int32) else (0 : Int32)) else (0 : Int32))), (.ref a0)])) _
      refine st70 _ ?_
      show Steps p.tables e below (T70.setTop (mkF m 178 #[.val (.ref a0), .val (.ref a1), .val (.ref a2), .val .null, .val (.int p4), .val (.int p5)] [])) _
      exact X70.returnOut hx Bd.returns (hb hby d3_178) hr
    · show Qrm3 Z a0 a1 a2 p4 p5 u_length u_first u_chars u_paired u_whole u_leastStarts u_single u_firstPlace u_secondPlace u_thirdPlace u_firstBytes u_secondBytes u_thirdBytes u_lastPlace k1 nn k2 h0 n0 _ T70.heap _
      rw [e70]
      exact ⟨rfl, N70, Kh70, E_a0, F_length_a0⟩
theorem pd_2 : parseMethodDescriptor "([C[ILcom/example/nimble_needle/nimbleneedle/algorithm/CharSieve;ZZ)V" = some ⟨[(.array .char), (.array .int), (.object "com/example/nimble_needle/nimbleneedle/algorithm/CharSieve"), .boolean, .boolean], none⟩ := by decide +kernel
theorem d2_0 : decode prog_30_method_1_code 0 = .ok (.aload_n 0, 1) := by decide +kernel
theorem d2_1 : decode prog_30_method_1_code 1 = .ok (.aload_n 1, 1) := by decide +kernel
theorem d2_2 : decode prog_30_method_1_code 2 = .ok (.aload_n 2, 1) := by decide +kernel
theorem d2_3 : decode prog_30_method_1_code 3 = .ok (.aload_n 3, 1) := by decide +kernel
theorem d2_4 : decode prog_30_method_1_code 4 = .ok (.iload 4, 2) := by decide +kernel
theorem d2_6 : decode prog_30_method_1_code 6 = .ok (.iconst 0, 1) := by decide +kernel
theorem d2_7 : decode prog_30_method_1_code 7 = .ok (.invokespecial 1, 3) := by decide +kernel
theorem d2_10 : decode prog_30_method_1_code 10 = .ok (.return_, 1) := by decide +kernel
theorem pn_2 : plainName "com/example/nimble_needle/nimbleneedle/algorithm/WordSieve" = true := by first | (simp [plainName, overriddenIn]; done) | decide +kernel
theorem ef_rm2 (m : MethodId) (a0 : Addr) (a1 : Addr) (a2 : Addr) (p4 : Int32) : entryFrame m #[(.ref a0), (.ref a1), (.ref a2), .null, (.int p4)] 5 = mkF m 0 #[.val (.ref a0), .val (.ref a1), .val (.ref a2), .val .null, .val (.int p4)] [] := by first | (simp [entryFrame, mkF, argsToLocals, Value.category]; done) | rfl
def Qrm2 (Z : State) (a0 : Addr) (a1 : Addr) (a2 : Addr) (p4 : Int32) (u_length : Value) (u_first : Value) (u_chars : Value) (u_paired : Value) (u_whole : Value) (u_leastStarts : Value) (u_single : Value) (u_firstPlace : Value) (u_secondPlace : Value) (u_thirdPlace : Value) (u_firstBytes : Value) (u_secondBytes : Value) (u_thirdBytes : Value) (u_lastPlace : Value) (k1 : ClassId) (nn : Int32) (k2 : ClassId) (h0 : Heap) (n0 : Nat) (v : Option Value) (h : Heap) (L : List Loc) : Prop := v = none ∧ Fr n0 L ∧ Keep h0 h [a0] ∧ Exa Z h a0 "com/example/nimble_needle/nimbleneedle/algorithm/WordSieve" ∧ Fld Z h a0 "com/example/nimble_needle/nimbleneedle/algorithm/WordSieve" "length" "I" (.int nn)
set_option maxRecDepth 65536 in
set_option maxHeartbeats 40000000 in
theorem rm2 (l : Launch) (Z : State) (A0 : Array Value) (hw : ∀ d ∈ tables_1, d.before A0 Z = true) (ws : List Jvm.Cond) (a0 : Addr) (a1 : Addr) (a2 : Addr) (p4 : Int32) (u_length : Value) (u_first : Value) (u_chars : Value) (u_paired : Value) (u_whole : Value) (u_leastStarts : Value) (u_single : Value) (u_firstPlace : Value) (u_secondPlace : Value) (u_thirdPlace : Value) (u_firstBytes : Value) (u_secondBytes : Value) (u_thirdBytes : Value) (u_lastPlace : Value) (k1 : ClassId) (nn : Int32) (k2 : ClassId) (h0 : Heap) (n0 : Nat) (Z0 : n0 ≤ h0.size) (E_a0 : Exa Z h0 a0 "com/example/nimble_needle/nimbleneedle/algorithm/WordSieve") (F_length_a0 : Fld Z h0 a0 "com/example/nimble_needle/nimbleneedle/algorithm/WordSieve" "length" "I" u_length) (F_first_a0 : Fld Z h0 a0 "com/example/nimble_needle/nimbleneedle/algorithm/WordSieve" "first" "C" u_first) (F_chars_a0 : Fld Z h0 a0 "com/example/nimble_needle/nimbleneedle/algorithm/WordSieve" "chars" "Lcom/example/nimble_needle/nimbleneedle/algorithm/CharSieve;" u_chars) (F_paired_a0 : Fld Z h0 a0 "com/example/nimble_needle/nimbleneedle/algorithm/WordSieve" "paired" "Z" u_paired) (F_whole_a0 : Fld Z h0 a0 "com/example/nimble_needle/nimbleneedle/algorithm/WordSieve" "whole" "Z" u_whole) (F_leastStarts_a0 : Fld Z h0 a0 "com/example/nimble_needle/nimbleneedle/algorithm/WordSieve" "leastStarts" "I" u_leastStarts) (F_single_a0 : Fld Z h0 a0 "com/example/nimble_needle/nimbleneedle/algorithm/WordSieve" "single" "Z" u_single) (F_firstPlace_a0 : Fld Z h0 a0 "com/example/nimble_needle/nimbleneedle/algorithm/WordSieve" "firstPlace" "I" u_firstPlace) (F_secondPlace_a0 : Fld Z h0 a0 "com/example/nimble_needle/nimbleneedle/algorithm/WordSieve" "secondPlace" "I" u_secondPlace) (F_thirdPlace_a0 : Fld Z h0 a0 "com/example/nimble_needle/nimbleneedle/algorithm/WordSieve" "thirdPlace" "I" u_thirdPlace) (F_firstBytes_a0 : Fld Z h0 a0 "com/example/nimble_needle/nimbleneedle/algorithm/WordSieve" "firstBytes" "J" u_firstBytes) (F_secondBytes_a0 : Fld Z h0 a0 "com/example/nimble_needle/nimbleneedle/algorithm/WordSieve" "secondBytes" "J" u_secondBytes) (F_thirdBytes_a0 : Fld Z h0 a0 "com/example/nimble_needle/nimbleneedle/algorithm/WordSieve" "thirdBytes" "J" u_thirdBytes) (F_lastPlace_a0 : Fld Z h0 a0 "com/example/nimble_needle/nimbleneedle/algorithm/WordSieve" "lastPlace" "I" u_lastPlace) (V_a1 : Arv Z h0 a1 k1 .char nn [] (.int (0 : Int32))) (V_a2 : Arv Z h0 a2 k2 .int (1 : Int32) [(.int (0 : Int32))] (.int (0 : Int32))) (g_a0 : n0 ≤ a0) (ne_a1_a0 : a1 ≠ a0) (ne_a2_a0 : a2 ≠ a0) (hnn : ¬ ((0 : Int32) < 0) ∧ (0 : Int32) < nn) :
    MetFree l (⟨"com/example/nimble_needle/nimbleneedle/algorithm/WordSieve", "<init>", "([C[ILcom/example/nimble_needle/nimbleneedle/algorithm/CharSieve;Z)V"⟩ : MethodName) (head1 (Jvm.Cond.code (⟨"com/example/nimble_needle/nimbleneedle/algorithm/WordSieve", "<init>", "([C[ILcom/example/nimble_needle/nimbleneedle/algorithm/CharSieve;Z)V"⟩ : MethodName) prog_30_method_1_code 5 none :: ws) ({ frames := 2, cells := 0, slots := 0, locals := 32 } : Room)) (fun a U => a = #[(.ref a0), (.ref a1), (.ref a2), .null, (.int p4)] ∧ Z.Warmed39 U.vm ∧ U.heap = h0) (fun _ _ _ _ _ => True) (fun _ U o U' => ∃ v L, o = .returned v ∧ Qrm2 Z a0 a1 a2 p4 u_length u_first u_chars u_paired u_whole u_leastStarts u_single u_firstPlace u_secondPlace u_thirdPlace u_firstBytes u_secondBytes u_thirdBytes u_lastPlace k1 nn k2 h0 n0 v U'.heap L ∧ FrameEnd U o U' L ({ frames := 2, cells := 0, slots := 0, locals := 32 } : Room).cells ({ frames := 2, cells := 0, slots := 0, locals := 32 } : Room).slots) := by
  refine MetFree.of_bodySF (plainFor_of_name pn_2) hisR ?_
  intro p e s m args below meth c s₁ Bd hml0 hP hK
  obtain ⟨rfl, hZ, hh⟩ := hP
  have hx := Bd.exec
  have hby := Bd.bytes
  have hml : c.maxLocals = 5 := hml0
  have hown : s.vm.findClass "com/example/nimble_needle/nimbleneedle/algorithm/WordSieve" = some m.cls := findClass_of_methodNamed Bd.named
  have hnm := (name_of_methodNamed Bd.named Bd.method).1
  have X0 : Stand p l e ({ frames := 2, cells := 0, slots := 0, locals := 32 } : Room) s m #[(.ref a0), (.ref a1), (.ref a2), .null, (.int p4)] below meth c s₁ [] 0 0 := Stand.of_body Bd
  have e0 : s₁.heap = h0 := by rw [← hh, Bd.state]; rfl
  have N0 := Fr.nil n0
  have K0 : Keep h0 h0 [a0] := Keep.refl _ _
  have pre0 : ∀ t, Steps p.tables e below (s₁.setTop (mkF m 0 #[.val (.ref a0), .val (.ref a1), .val (.ref a2), .val .null, .val (.int p4)] [])) t → Steps p.tables e below (s₁.setTop (entryFrame m #[(.ref a0), (.ref a1), (.ref a2), .null, (.int p4)] 5)) t := fun t k => castTop (ef_rm2 m a0 a1 a2 p4) k
  obtain ⟨_, _, ⟨T1, L1, k1, n1⟩, -, X1, ⟨Lc1, hQ1, l1, y1, z1⟩, st1⟩ := X0.specialBack hx (y := (⟨"com/example/nimble_needle/nimbleneedle/algorithm/WordSieve", "<init>", "([C[ILcom/example/nimble_needle/nimbleneedle/algorithm/CharSieve;ZZ)V"⟩ : MethodName)) rfl hown (mvT hZ (hw _ (List.mem_of_getElem? (i := 12) rfl))) (mvT hZ (hw _ (List.mem_of_getElem? (i := 13) rfl))) (mvT hZ (hw _ (List.mem_of_getElem? (i := 14) rfl))) (by decide) (backOf (W := 0) (rm3 l Z A0 hw [] a0 a1 a2 p4 (0 : Int32) u_length u_first u_chars u_paired u_whole u_leastStarts u_single u_firstPlace u_secondPlace u_thirdPlace u_firstBytes u_secondBytes u_thirdBytes u_lastPlace k1 nn k2 h0 n0 Z0 E_a0 F_length_a0 F_first_a0 F_chars_a0 F_paired_a0 F_whole_a0 F_leastStarts_a0 F_single_a0 F_firstPlace_a0 F_secondPlace_a0 F_thirdPlace_a0 F_firstBytes_a0 F_secondBytes_a0 F_thirdBytes_a0 F_lastPlace_a0 V_a1 V_a2 g_a0 ne_a1_a0 ne_a2_a0 (hnn)) hZ (hw _ (List.mem_of_getElem? (i := 14) rfl)) (hw _ (List.mem_of_getElem? (i := 8) rfl)) (by decide) (by decide)) (g := (mkF m 7 #[.val (.ref a0), .val (.ref a1), .val (.ref a2), .val .null, .val (.int p4)] [(.int (0 : Int32)), (.int p4), .null, (.ref a2), (.ref a1), (.ref a0)])) rfl (by rw [hml]; rfl) (Steps.refl _) (a := a0) (argsL := [(.ref a1), (.ref a2), .null, (.int p4), (.int (0 : Int32))]) (rest := []) (lenOf pd_2 rfl) rfl (by show 2 * 0 + _ ≤ _; exact Nat.le_of_eq rfl) (hb hby d2_7) (fun _ _ => ⟨rfl, e0, (by decide : 0 + 0 ≤ _), (by decide : 0 + 0 ≤ _)⟩)
  dsimp only [Pt.U, Pt.locs, Pt.cells, Pt.slots] at X1 l1 y1 z1 st1 hQ1
  subst l1 y1 z1
  obtain ⟨rfl, N1q, Kc1, P1_0, P1_1⟩ := hQ1
  have N1 := Fr.app N0 N1q
  have E_a0 : Exa Z T1.heap a0 "com/example/nimble_needle/nimbleneedle/algorithm/WordSieve" := E_a0.keep Kc1
  have V_a1 : Arv Z T1.heap a1 k1 .char nn [] (.int (0 : Int32)) := V_a1.keep Kc1 (ninS ne_a1_a0 nin0)
  have V_a2 : Arv Z T1.heap a2 k2 .int (1 : Int32) [(.int (0 : Int32))] (.int (0 : Int32)) := V_a2.keep Kc1 (ninS ne_a2_a0 nin0)
  have ZT1_heap : n0 ≤ T1.heap.size := Nat.le_trans Z0 Kc1.1
  have KT1_heap : Keep h0 T1.heap [a0] := K0.trans Kc1 (allS (Or.inl (by simp)) all0)
  have E_a0 : Exa Z T1.heap a0 "com/example/nimble_needle/nimbleneedle/algorithm/WordSieve" := P1_0
  have F_length_a0 : Fld Z T1.heap a0 "com/example/nimble_needle/nimbleneedle/algorithm/WordSieve" "length" "I" (.int nn) := P1_1
  obtain ⟨fs, hr, hrun, hended, hW, hsame⟩ := X1.leave (v := none) (fun _ => rfl)
  refine ⟨_, _, pre0 _ ?_, hrun, hended, _, _, rfl, ?_, ⟨_, rfl⟩, hW, hsame.mono (by decide) (by decide)⟩
  · show Steps p.tables e below (s₁.setTop (mkF m 0 #[.val (.ref a0), .val (.ref a1), .val (.ref a2), .val .null, .val (.int p4)] [])) _
    refine XS.aloadN X0.here hx rfl (hb hby d2_0) rfl rfl ?_
    show Steps p.tables e below (s₁.setTop (mkF m 1 #[.val (.ref a0), .val (.ref a1), .val (.ref a2), .val .null, .val (.int p4)] [(.ref a0)])) _
    refine XS.aloadN X0.here hx rfl (hb hby d2_1) rfl rfl ?_
    show Steps p.tables e below (s₁.setTop (mkF m 2 #[.val (.ref a0), .val (.ref a1), .val (.ref a2), .val .null, .val (.int p4)] [(.ref a1), (.ref a0)])) _
    refine XS.aloadN X0.here hx rfl (hb hby d2_2) rfl rfl ?_
    show Steps p.tables e below (s₁.setTop (mkF m 3 #[.val (.ref a0), .val (.ref a1), .val (.ref a2), .val .null, .val (.int p4)] [(.ref a2), (.ref a1), (.ref a0)])) _
    refine XS.aloadN X0.here hx rfl (hb hby d2_3) rfl rfl ?_
    show Steps p.tables e below (s₁.setTop (mkF m 4 #[.val (.ref a0), .val (.ref a1), .val (.ref a2), .val .null, .val (.int p4)] [.null, (.ref a2), (.ref a1), (.ref a0)])) _
    refine XS.iload X0.here hx rfl (hb hby d2_4) rfl ?_
    show Steps p.tables e below (s₁.setTop (mkF m 6 #[.val (.ref a0), .val (.ref a1), .val (.ref a2), .val .null, .val (.int p4)] [(.int p4), .null, (.ref a2), (.ref a1), (.ref a0)])) _
    refine XS.iconst X0.here hx rfl (hb hby d2_6) ?_
    show Steps p.tables e below (s₁.setTop (mkF m 7 #[.val (.ref a0), .val (.ref a1), .val (.ref a2), .val .null, .val (.int p4)] [(.int (0 : Int32)), (.int p4), .null, (.ref a2), (.ref a1), (.ref a0)])) _
    refine st1.trans ?_
    show Steps p.tables e below (T1.setTop (mkF m 10 #[.val (.ref a0), .val (.ref a1), .val (.ref a2), .val .null, .val (.int p4)] [])) _
    exact X1.returnOut hx Bd.returns (hb hby d2_10) hr
  · show Qrm2 Z a0 a1 a2 p4 u_length u_first u_chars u_paired u_whole u_leastStarts u_single u_firstPlace u_secondPlace u_thirdPlace u_firstBytes u_secondBytes u_thirdBytes u_lastPlace k1 nn k2 h0 n0 _ T1.heap _
    exact ⟨rfl, N1, KT1_heap, E_a0, F_length_a0⟩
theorem own_lenb (z : Int32) : 1 ≤ (own_len z).toInt ∧ (own_len z).toInt ≤ 16 := by
  unfold own_len
  split
  · decide
  · split
    · decide
    · split <;> decide
theorem own_len0 (z : Int32) : ¬ ((0 : Int32) < 0) ∧ (0 : Int32) < own_len z := by
  refine ⟨by decide, ?_⟩
  have e0 : (0 : Int32).toInt = 0 := by decide
  rw [Int32.lt_iff_toInt_lt, e0]
  have := own_lenb z
  omega
theorem own_d {ba le : Int32} (hb : 0 ≤ ba.toInt) (hl : 0 ≤ le.toInt) : ((le.toInt64) + (1 : Int64)) ≠ 0 ∧ 0 ≤ (((ba.toInt64) % ((le.toInt64) + (1 : Int64))).toInt32).toInt ∧ (((ba.toInt64) % ((le.toInt64) + (1 : Int64))).toInt32).toInt ≤ le.toInt := by
  have e0 : (0 : Int64).toInt = 0 := by decide
  have e1 : (1 : Int64).toInt = 1 := by decide
  have r := rng32 le; have rb := rng32 ba
  have hy : ((le.toInt64) + (1 : Int64)).toInt = le.toInt + 1 := by
    have x := c_ladd (le.toInt64) 1; have u := rng64 ((le.toInt64) + (1 : Int64)); rw [c_i2l, e1] at x; omega
  have z := (c_lrem (ba.toInt64) ((le.toInt64) + (1 : Int64)) (le.toInt + 1) hy).1 (by rw [c_i2l]; exact hb)
  rw [lrem_mod, c_i2l] at z
  have u := Int.emod_nonneg ba.toInt (b := le.toInt + 1) (by omega); have v := Int.emod_lt_of_pos ba.toInt (b := le.toInt + 1) (by omega)
  refine ⟨fun q => ?_, ?_⟩
  · rw [q, e0] at hy; omega
  · have x := c_l2i ((ba.toInt64) % ((le.toInt64) + (1 : Int64))); have y := rng32 (((ba.toInt64) % ((le.toInt64) + (1 : Int64))).toInt32)
    omega
theorem own_fin {le dd mm : Int32} (hl : 0 ≤ le.toInt) (hd : 0 ≤ dd.toInt ∧ dd.toInt ≤ le.toInt) (hm : 1 ≤ mm.toInt ∧ mm.toInt ≤ 16) :
    (nar .boolean (if (((le - mm) + (1 : Int32)) - (le - dd)) < (32 : Int32) then (0 : Int32) else (1 : Int32))) = (if dd < (mm + (31 : Int32)) then (0 : Int32) else (1 : Int32)) := by
  have e1 : (1 : Int32).toInt = 1 := by decide
  have e31 : (31 : Int32).toInt = 31 := by decide
  have e32 : (32 : Int32).toInt = 32 := by decide
  have e : (((le - mm) + (1 : Int32)) - (le - dd)) < (32 : Int32) ↔ dd < (mm + (31 : Int32)) := by
    rw [Int32.lt_iff_toInt_lt, Int32.lt_iff_toInt_lt, e32]
    have a1 := c_isub le mm; have a2 := c_iadd (le - mm) 1; have a3 := c_isub le dd; have a4 := c_isub ((le - mm) + (1 : Int32)) (le - dd); have a5 := c_iadd mm 31
    have r1 := rng32 (le - mm); have r2 := rng32 ((le - mm) + (1 : Int32)); have r3 := rng32 (le - dd); have r4 := rng32 (((le - mm) + (1 : Int32)) - (le - dd)); have r5 := rng32 (mm + (31 : Int32)); have r6 := rng32 le
    rw [e1] at a2; rw [e31] at a5
    omega
  simp only [e]
  split <;> rfl

theorem pd_3 : parseMethodDescriptor "(I)[C" = some ⟨[.int], some (.array .char)⟩ := by decide +kernel
theorem pd_4 : parseMethodDescriptor "([C[ILcom/example/nimble_needle/nimbleneedle/algorithm/CharSieve;Z)V" = some ⟨[(.array .char), (.array .int), (.object "com/example/nimble_needle/nimbleneedle/algorithm/CharSieve"), .boolean], none⟩ := by decide +kernel
theorem pd_5 : parseMethodDescriptor "(II)Z" = some ⟨[.int, .int], some .boolean⟩ := by decide +kernel
theorem pn_0 : plainName "com/example/nimble_needle/nimbleneedle/algorithm/WordSieveSearchesPinLaw" = true := by first | (simp [plainName, overriddenIn]; done) | decide +kernel
theorem ef_rm0 (m : MethodId) (p0 : Int32) (p1 : Int32) (p2 : Int32) : entryFrame m #[(.int p0), (.int p1), (.int p2)] maxLocals = mkF m 0 #[.val (.int p0), .val (.int p1), .val (.int p2), .unset, .unset, .unset, .unset, .unset, .unset, .unset, .unset] [] := by first | (simp [entryFrame, mkF, argsToLocals, Value.category, maxLocals]; done) | rfl
def Qrm0 (Z : State) (p0 : Int32) (p1 : Int32) (p2 : Int32) (h0 : Heap) (n0 : Nat) (v : Option Value) (h : Heap) (L : List Loc) : Prop := v = some (.int (1 : Int32)) ∧ Fr n0 L
set_option maxRecDepth 65536 in
set_option maxHeartbeats 40000000 in
theorem rm0 (l : Launch) (Z : State) (A0 : Array Value) (hw : ∀ d ∈ tables_1, d.before A0 Z = true) (ws : List Jvm.Cond) (p0 : Int32) (p1 : Int32) (p2 : Int32) (h0 : Heap) (n0 : Nat) (Z0 : n0 ≤ h0.size) :
    MetFree l x (head1 (Jvm.Cond.code x code maxLocals ret :: ws) room_1) (fun a U => a = #[(.int p0), (.int p1), (.int p2)] ∧ Z.Warmed39 U.vm ∧ U.heap = h0) (fun _ _ _ _ _ => True) (fun _ U o U' => ∃ v L, o = .returned v ∧ Qrm0 Z p0 p1 p2 h0 n0 v U'.heap L ∧ FrameEnd U o U' L room_1.cells room_1.slots) := by
  refine MetFree.of_bodySF (plainFor_of_name pn_0) hisR ?_
  intro p e s m args below meth c s₁ Bd hml0 hP hK
  obtain ⟨rfl, hZ, hh⟩ := hP
  have hx := Bd.exec
  have hby := Bd.bytes
  have hml : c.maxLocals = 11 := hml0
  have hown : s.vm.findClass "com/example/nimble_needle/nimbleneedle/algorithm/WordSieveSearchesPinLaw" = some m.cls := findClass_of_methodNamed Bd.named
  have hnm := (name_of_methodNamed Bd.named Bd.method).1
  have X0 : Stand p l e room_1 s m #[(.int p0), (.int p1), (.int p2)] below meth c s₁ [] 0 0 := Stand.of_body Bd
  have e0 : s₁.heap = h0 := by rw [← hh, Bd.state]; rfl
  have N0 := Fr.nil n0
  have K0 : Keep h0 h0 [] := Keep.refl _ _
  have pre0 : ∀ t, Steps p.tables e below (s₁.setTop (mkF m 0 #[.val (.int p0), .val (.int p1), .val (.int p2), .unset, .unset, .unset, .unset, .unset, .unset, .unset, .unset] [])) t → Steps p.tables e below (s₁.setTop (entryFrame m #[(.int p0), (.int p1), (.int p2)] maxLocals)) t := fun t k => castTop (ef_rm0 m p0 p1 p2) k
  obtain ⟨se, h_se⟩ : ∃ z : Int32, z = (p0 &&& (3 : Int32)) := ⟨_, rfl⟩
  obtain ⟨_, _, ⟨T1, L1, k1, n1⟩, -, X1, ⟨Lc1, hQ1, l1, y1, z1⟩, st1⟩ := Jvm.LawKit.callS X0 hx (y := (⟨"com/example/nimble_needle/nimbleneedle/algorithm/WordSieveSearchesPinLaw", "pattern", "(I)[C"⟩ : MethodName)) hown (mvT hZ (hw _ (List.mem_of_getElem? (i := 0) rfl))) (mvT hZ (hw _ (List.mem_of_getElem? (i := 1) rfl))) (mvT hZ (hw _ (List.mem_of_getElem? (i := 2) rfl))) (mvT hZ (hw _ (List.mem_of_getElem? (i := 3) rfl))) (by decide) (backOf (W := 0) (rm1 l Z A0 hw [] se  h0 n0 Z0 ) hZ (hw _ (List.mem_of_getElem? (i := 3) rfl)) (hw _ (List.mem_of_getElem? (i := 2) rfl)) (by decide) (by decide)) (g := (mkF m 3 #[.val (.int p0), .val (.int p1), .val (.int p2), .unset, .unset, .unset, .unset, .unset, .unset, .unset, .unset] [(.int se)])) rfl (by rw [hml]; rfl) (argsL := [(.int se)]) (rest := []) (lenOf pd_3 rfl) rfl (by show 2 * 0 + _ ≤ _; exact Nat.le_of_eq rfl) (hb hby at_3) (fun _ _ => ⟨rfl, e0, (by decide : 0 + 1 ≤ _), (by decide : 0 + 16 ≤ _)⟩)
  dsimp only [Pt.U, Pt.locs, Pt.cells, Pt.slots] at X1 l1 y1 z1 st1 hQ1
  subst l1 y1 z1
  obtain ⟨b1, kb1, rfl, N1q, gb1, sb1, Kc1, P1_0⟩ := hQ1
  have N1 := Fr.app N0 N1q
  have sz_b1 : h0.size ≤ b1 := Nat.le_trans K0.1 sb1
  have ZT1_heap : n0 ≤ T1.heap.size := Nat.le_trans Z0 Kc1.1
  have KT1_heap : Keep h0 T1.heap [] := K0.trans Kc1 all0
  have V_b1 : Arv Z T1.heap b1 kb1 .char (own_len se) [] (.int (0 : Int32)) := P1_0
  obtain ⟨cl2, Ar2, -, SS2, MM2, -, -⟩ := id V_b1
  obtain ⟨T3, h3, k3, X3, e3, E3, A3, st3⟩ := newP X1 hx hZ (hw _ (List.mem_of_getElem? (i := 5) rfl)) rfl (g := (mkF m 12 #[.val (.int p0), .val (.int p1), .val (.int p2), .val (.ref b1), .val (.int (own_len se)), .unset, .unset, .unset, .unset, .unset, .unset] [(.int (1 : Int32))])) rfl (hb hby at_12) rfl (by decide) (cap := 1) (by decide) (by decide) (by decide) (by decide)
  obtain ⟨pl, g3⟩ : ∃ z, z = T1.heap.size := ⟨_, rfl⟩
  rw [← g3] at A3 st3
  have ne_b1_pl : b1 ≠ pl := Nat.ne_of_lt (Nat.lt_of_lt_of_le V_b1.lt (Nat.le_of_eq g3.symm))
  have g_pl : n0 ≤ pl := Nat.le_trans ZT1_heap (Nat.le_of_eq g3.symm)
  have sz_pl : h0.size ≤ pl := Nat.le_trans KT1_heap.1 (Nat.le_of_eq g3.symm)
  have V_b1 : Arv Z h3 b1 kb1 .char (own_len se) [] (.int (0 : Int32)) := V_b1.ext E3
  have Zh3 : n0 ≤ h3.size := Nat.le_trans ZT1_heap E3.1
  have Kh3 : Keep h0 h3 [] := KT1_heap.ext E3
  have V_pl : Arv Z h3 pl k3 .int (1 : Int32) [(.int (0 : Int32))] (.int (0 : Int32)) := (Arv.new A3 (by decide)).pad (pad_rep [] (.int (0 : Int32)) 1)
  obtain ⟨T4, h4, X4, e4, E4, A4, D4, -, st4⟩ := newO X3 hx hZ hown (hw _ (List.mem_of_getElem? (i := 6) rfl)) (hw _ (List.mem_of_getElem? (i := 7) rfl)) (hw _ (List.mem_of_getElem? (i := 8) rfl)) e3 (g := (mkF m 16 #[.val (.int p0), .val (.int p1), .val (.int p2), .val (.ref b1), .val (.int (own_len se)), .val (.ref pl), .unset, .unset, .unset, .unset, .unset] [])) rfl (hb hby at_16) (by decide) (by decide)
  obtain ⟨wo, g4⟩ : ∃ z, z = h3.size := ⟨_, rfl⟩
  rw [← g4] at A4 D4 st4
  have ne_b1_wo : b1 ≠ wo := Nat.ne_of_lt (Nat.lt_of_lt_of_le V_b1.lt (Nat.le_of_eq g4.symm))
  have ne_pl_wo : pl ≠ wo := Nat.ne_of_lt (Nat.lt_of_lt_of_le V_pl.lt (Nat.le_of_eq g4.symm))
  have g_wo : n0 ≤ wo := Nat.le_trans Zh3 (Nat.le_of_eq g4.symm)
  have sz_wo : h0.size ≤ wo := Nat.le_trans Kh3.1 (Nat.le_of_eq g4.symm)
  have V_b1 : Arv Z h4 b1 kb1 .char (own_len se) [] (.int (0 : Int32)) := V_b1.ext E4
  have V_pl : Arv Z h4 pl k3 .int (1 : Int32) [(.int (0 : Int32))] (.int (0 : Int32)) := V_pl.ext E4
  have Zh4 : n0 ≤ h4.size := Nat.le_trans Zh3 E4.1
  have Kh4 : Keep h0 h4 [] := Kh3.ext E4
  have E_wo : Exa Z h4 wo "com/example/nimble_needle/nimbleneedle/algorithm/WordSieve" := A4
  have F_length_wo : Fld Z h4 wo "com/example/nimble_needle/nimbleneedle/algorithm/WordSieve" "length" "I" (.int (0 : Int32)) := D4 (Or.inr (hw _ (List.mem_of_getElem? (i := 19) rfl))) (ty := .int) (by decide)
  have F_first_wo : Fld Z h4 wo "com/example/nimble_needle/nimbleneedle/algorithm/WordSieve" "first" "C" (.int (0 : Int32)) := D4 (Or.inr (hw _ (List.mem_of_getElem? (i := 21) rfl))) (ty := .char) (by decide)
  have F_chars_wo : Fld Z h4 wo "com/example/nimble_needle/nimbleneedle/algorithm/WordSieve" "chars" "Lcom/example/nimble_needle/nimbleneedle/algorithm/CharSieve;" .null := D4 (Or.inr (hw _ (List.mem_of_getElem? (i := 23) rfl))) (ty := (.object "com/example/nimble_needle/nimbleneedle/algorithm/CharSieve")) (by decide)
  have F_paired_wo : Fld Z h4 wo "com/example/nimble_needle/nimbleneedle/algorithm/WordSieve" "paired" "Z" (.int (0 : Int32)) := D4 (Or.inr (hw _ (List.mem_of_getElem? (i := 25) rfl))) (ty := .boolean) (by decide)
  have F_whole_wo : Fld Z h4 wo "com/example/nimble_needle/nimbleneedle/algorithm/WordSieve" "whole" "Z" (.int (0 : Int32)) := D4 (Or.inr (hw _ (List.mem_of_getElem? (i := 27) rfl))) (ty := .boolean) (by decide)
  have F_leastStarts_wo : Fld Z h4 wo "com/example/nimble_needle/nimbleneedle/algorithm/WordSieve" "leastStarts" "I" (.int (0 : Int32)) := D4 (Or.inr (hw _ (List.mem_of_getElem? (i := 29) rfl))) (ty := .int) (by decide)
  have F_single_wo : Fld Z h4 wo "com/example/nimble_needle/nimbleneedle/algorithm/WordSieve" "single" "Z" (.int (0 : Int32)) := D4 (Or.inr (hw _ (List.mem_of_getElem? (i := 31) rfl))) (ty := .boolean) (by decide)
  have F_firstPlace_wo : Fld Z h4 wo "com/example/nimble_needle/nimbleneedle/algorithm/WordSieve" "firstPlace" "I" (.int (0 : Int32)) := D4 (Or.inr (hw _ (List.mem_of_getElem? (i := 33) rfl))) (ty := .int) (by decide)
  have F_secondPlace_wo : Fld Z h4 wo "com/example/nimble_needle/nimbleneedle/algorithm/WordSieve" "secondPlace" "I" (.int (0 : Int32)) := D4 (Or.inr (hw _ (List.mem_of_getElem? (i := 39) rfl))) (ty := .int) (by decide)
  have F_thirdPlace_wo : Fld Z h4 wo "com/example/nimble_needle/nimbleneedle/algorithm/WordSieve" "thirdPlace" "I" (.int (0 : Int32)) := D4 (Or.inr (hw _ (List.mem_of_getElem? (i := 41) rfl))) (ty := .int) (by decide)
  have F_firstBytes_wo : Fld Z h4 wo "com/example/nimble_needle/nimbleneedle/algorithm/WordSieve" "firstBytes" "J" (.long (0 : Int64)) := D4 (Or.inr (hw _ (List.mem_of_getElem? (i := 47) rfl))) (ty := .long) (by decide)
  have F_secondBytes_wo : Fld Z h4 wo "com/example/nimble_needle/nimbleneedle/algorithm/WordSieve" "secondBytes" "J" (.long (0 : Int64)) := D4 (Or.inr (hw _ (List.mem_of_getElem? (i := 49) rfl))) (ty := .long) (by decide)
  have F_thirdBytes_wo : Fld Z h4 wo "com/example/nimble_needle/nimbleneedle/algorithm/WordSieve" "thirdBytes" "J" (.long (0 : Int64)) := D4 (Or.inr (hw _ (List.mem_of_getElem? (i := 51) rfl))) (ty := .long) (by decide)
  have F_lastPlace_wo : Fld Z h4 wo "com/example/nimble_needle/nimbleneedle/algorithm/WordSieve" "lastPlace" "I" (.int (0 : Int32)) := D4 (Or.inr (hw _ (List.mem_of_getElem? (i := 56) rfl))) (ty := .int) (by decide)
  obtain ⟨_, _, ⟨T5, L5, k5, n5⟩, -, X5, ⟨Lc5, hQ5, l5, y5, z5⟩, st5⟩ := X4.specialBack hx (y := (⟨"com/example/nimble_needle/nimbleneedle/algorithm/WordSieve", "<init>", "([C[ILcom/example/nimble_needle/nimbleneedle/algorithm/CharSieve;Z)V"⟩ : MethodName)) rfl hown (mvT hZ (hw _ (List.mem_of_getElem? (i := 9) rfl))) (mvT hZ (hw _ (List.mem_of_getElem? (i := 10) rfl))) (mvT hZ (hw _ (List.mem_of_getElem? (i := 11) rfl))) (by decide) (backOf (W := 1) (rm2 l Z A0 hw [] wo b1 pl (if (p0 &&& (4 : Int32)) = (0 : Int32) then (0 : Int32) else (1 : Int32)) (.int (0 : Int32)) (.int (0 : Int32)) .null (.int (0 : Int32)) (.int (0 : Int32)) (.int (0 : Int32)) (.int (0 : Int32)) (.int (0 : Int32)) (.int (0 : Int32)) (.int (0 : Int32)) (.long (0 : Int64)) (.long (0 : Int64)) (.long (0 : Int64)) (.int (0 : Int32)) kb1 (own_len se) k3 h4 n0 Zh4 E_wo F_length_wo F_first_wo F_chars_wo F_paired_wo F_whole_wo F_leastStarts_wo F_single_wo F_firstPlace_wo F_secondPlace_wo F_thirdPlace_wo F_firstBytes_wo F_secondBytes_wo F_thirdBytes_wo F_lastPlace_wo V_b1 V_pl g_wo ne_b1_wo ne_pl_wo (own_len0 se)) hZ (hw _ (List.mem_of_getElem? (i := 11) rfl)) (hw _ (List.mem_of_getElem? (i := 8) rfl)) (by decide) (by decide)) (g := (mkF m 35 #[.val (.int p0), .val (.int p1), .val (.int p2), .val (.ref b1), .val (.int (own_len se)), .val (.ref pl), .unset, .unset, .unset, .unset, .unset] [(.int (if (p0 &&& (4 : Int32)) = (0 : Int32) then (0 : Int32) else (1 : Int32))), .null, (.ref pl), (.ref b1), (.ref wo), (.ref wo)])) rfl (by rw [hml]; rfl) (Steps.refl _) (a := wo) (argsL := [(.ref b1), (.ref pl), .null, (.int (if (p0 &&& (4 : Int32)) = (0 : Int32) then (0 : Int32) else (1 : Int32)))]) (rest := [(.ref wo)]) (lenOf pd_4 rfl) rfl (by show 2 * 0 + _ ≤ _; exact Nat.le_of_eq rfl) (hb hby at_35) (fun _ _ => ⟨rfl, e4, (by decide : 3 + 0 ≤ _), (by decide : 31 + 0 ≤ _)⟩)
  dsimp only [Pt.U, Pt.locs, Pt.cells, Pt.slots] at X5 l5 y5 z5 st5 hQ5
  subst l5 y5 z5
  obtain ⟨rfl, N5q, Kc5, P5_0, P5_1⟩ := hQ5
  have N5 := Fr.app N1 N5q
  have V_b1 : Arv Z T5.heap b1 kb1 .char (own_len se) [] (.int (0 : Int32)) := V_b1.keep Kc5 (ninS ne_b1_wo nin0)
  have V_pl : Arv Z T5.heap pl k3 .int (1 : Int32) [(.int (0 : Int32))] (.int (0 : Int32)) := V_pl.keep Kc5 (ninS ne_pl_wo nin0)
  have E_wo : Exa Z T5.heap wo "com/example/nimble_needle/nimbleneedle/algorithm/WordSieve" := E_wo.keep Kc5
  have ZT5_heap : n0 ≤ T5.heap.size := Nat.le_trans Zh4 Kc5.1
  have KT5_heap : Keep h0 T5.heap [] := Kh4.trans Kc5 (allS (Or.inr sz_wo) all0)
  have E_wo : Exa Z T5.heap wo "com/example/nimble_needle/nimbleneedle/algorithm/WordSieve" := P5_0
  have F_length_wo : Fld Z T5.heap wo "com/example/nimble_needle/nimbleneedle/algorithm/WordSieve" "length" "I" (.int (own_len se)) := P5_1
  obtain ⟨le, h_le⟩ : ∃ z : Int32, z = (p1 &&& (2147483647 : Int32)) := ⟨_, rfl⟩
  have Bl : 0 ≤ le.toInt := h_le ▸ (c_and p1 2147483647 (by decide)).1
  obtain ⟨ba, h_ba⟩ : ∃ z : Int32, z = (p2 &&& (2147483647 : Int32)) := ⟨_, rfl⟩
  have Bb : 0 ≤ ba.toInt := h_ba ▸ (c_and p2 2147483647 (by decide)).1
  obtain ⟨dd, h_dd⟩ : ∃ z : Int32, z = (((ba.toInt64) % ((le.toInt64) + (1 : Int64))).toInt32) := ⟨_, rfl⟩
  have Bdd : 0 ≤ dd.toInt ∧ dd.toInt ≤ le.toInt := h_dd ▸ (own_d Bb Bl).2
  obtain ⟨cq6, kq6, q6a, q6b, q6c⟩ := isOf hZ rfl E_wo
  obtain ⟨_, _, ⟨T6, L6, k6, n6⟩, -, X6, ⟨Lc6, hQ6, l6, y6, z6⟩, st6⟩ := X5.virtualBack hx (y := (⟨"com/example/nimble_needle/nimbleneedle/algorithm/WordSieve", "searches", "(II)Z"⟩ : MethodName)) (z := (⟨"com/example/nimble_needle/nimbleneedle/algorithm/WordSieve", "searches", "(II)Z"⟩ : MethodName)) hown (mvT hZ (hw _ (List.mem_of_getElem? (i := 58) rfl))) (mvT hZ (hw _ (List.mem_of_getElem? (i := 59) rfl))) (notFace_of_selects (args := #[]) (mvT hZ (hw _ (List.mem_of_getElem? (i := 61) rfl)))) (mvT hZ (hw _ (List.mem_of_getElem? (i := 61) rfl))) (mvT hZ (hw _ (List.mem_of_getElem? (i := 60) rfl))) (by decide) (backOf (W := 0) (rm8 l Z A0 hw [] wo le (le - dd) (own_len se) T5.heap n0 ZT5_heap F_length_wo) hZ (hw _ (List.mem_of_getElem? (i := 62) rfl)) (hw _ (List.mem_of_getElem? (i := 8) rfl)) (by decide) (by decide)) q6a q6c (g := (mkF m 90 #[.val (.int p0), .val (.int p1), .val (.int p2), .val (.ref b1), .val (.int (own_len se)), .val (.ref pl), .val (.ref wo), .val (.int le), .val (.int dd), .val (.int (le - dd)), .val (.int (if dd < ((own_len se) + (31 : Int32)) then (0 : Int32) else (1 : Int32)))] [(.int (le - dd)), (.int le), (.ref wo)])) rfl (by rw [hml]; rfl) (Steps.refl _) (argsL := [(.int le), (.int (le - dd))]) (rest := []) (lenOf pd_5 rfl) rfl (by show 2 * 0 + _ ≤ _; exact Nat.le_of_eq rfl) (hb hby at_90) (fun _ _ => ⟨rfl, rfl, (by decide : 3 + 0 ≤ _), (by decide : 31 + 0 ≤ _)⟩)
  dsimp only [Pt.U, Pt.locs, Pt.cells, Pt.slots] at X6 l6 y6 z6 st6 hQ6
  subst l6 y6 z6
  obtain ⟨rfl, N6q, eh6⟩ := hQ6
  have N6 := Fr.app N5 N6q
  obtain ⟨fs, hr, hrun, hended, hW, hsame⟩ := X6.leave (v := some (.int (1 : Int32))) (fun h => by rw [Bd.returns] at h; cases h)
  refine ⟨_, _, pre0 _ ?_, hrun, hended, _, _, rfl, ?_, ⟨_, rfl⟩, hW, hsame.mono (by decide) (by decide)⟩
  · show Steps p.tables e below (s₁.setTop (mkF m 0 #[.val (.int p0), .val (.int p1), .val (.int p2), .unset, .unset, .unset, .unset, .unset, .unset, .unset, .unset] [])) _
    refine XS.iloadN X0.here hx rfl (hb hby at_0) rfl ?_
    show Steps p.tables e below (s₁.setTop (mkF m 1 #[.val (.int p0), .val (.int p1), .val (.int p2), .unset, .unset, .unset, .unset, .unset, .unset, .unset, .unset] [(.int p0)])) _
    refine XS.iconst X0.here hx rfl (hb hby at_1) ?_
    show Steps p.tables e below (s₁.setTop (mkF m 2 #[.val (.int p0), .val (.int p1), .val (.int p2), .unset, .unset, .unset, .unset, .unset, .unset, .unset, .unset] [(.int (3 : Int32)), (.int p0)])) _
    refine XS.iand X0.here hx rfl (hb hby at_2) rfl ?_
    show Steps p.tables e below (s₁.setTop (mkF m 3 #[.val (.int p0), .val (.int p1), .val (.int p2), .unset, .unset, .unset, .unset, .unset, .unset, .unset, .unset] [(.int (p0 &&& (3 : Int32)))])) _
    rw [← h_se]
    show Steps p.tables e below (s₁.setTop (mkF m 3 #[.val (.int p0), .val (.int p1), .val (.int p2), .unset, .unset, .unset, .unset, .unset, .unset, .unset, .unset] [(.int se)])) _
    refine st1 _ ?_
    show Steps p.tables e below (T1.setTop (mkF m 6 #[.val (.int p0), .val (.int p1), .val (.int p2), .unset, .unset, .unset, .unset, .unset, .unset, .unset, .unset] [(.ref b1)])) _
    refine XS.astoreN X1.here hx rfl (hb hby at_6) rfl rfl (l' := #[.val (.int p0), .val (.int p1), .val (.int p2), .val (.ref b1), .unset, .unset, .unset, .unset, .unset, .unset, .unset]) rfl ?_
    show Steps p.tables e below (T1.setTop (mkF m 7 #[.val (.int p0), .val (.int p1), .val (.int p2), .val (.ref b1), .unset, .unset, .unset, .unset, .unset, .unset, .unset] [])) _
    refine XS.aloadN X1.here hx rfl (hb hby at_7) rfl rfl ?_
    show Steps p.tables e below (T1.setTop (mkF m 8 #[.val (.int p0), .val (.int p1), .val (.int p2), .val (.ref b1), .unset, .unset, .unset, .unset, .unset, .unset, .unset] [(.ref b1)])) _
    refine X1.arraylength hx Ar2.1 (State.isArrayOf_alike hZ.alike Ar2.2.1) (g := (mkF m 8 #[.val (.int p0), .val (.int p1), .val (.int p2), .val (.ref b1), .unset, .unset, .unset, .unset, .unset, .unset, .unset] [(.ref b1)])) rfl rfl (hb hby at_8) _ ?_
    rw [len_of SS2 MM2]
    show Steps p.tables e below (T1.setTop (mkF m 9 #[.val (.int p0), .val (.int p1), .val (.int p2), .val (.ref b1), .unset, .unset, .unset, .unset, .unset, .unset, .unset] [(.int (own_len se))])) _
    refine XS.istore X1.here hx rfl (hb hby at_9) rfl (l' := #[.val (.int p0), .val (.int p1), .val (.int p2), .val (.ref b1), .val (.int (own_len se)), .unset, .unset, .unset, .unset, .unset, .unset]) rfl ?_
    show Steps p.tables e below (T1.setTop (mkF m 11 #[.val (.int p0), .val (.int p1), .val (.int p2), .val (.ref b1), .val (.int (own_len se)), .unset, .unset, .unset, .unset, .unset, .unset] [])) _
    refine XS.iconst X1.here hx rfl (hb hby at_11) ?_
    show Steps p.tables e below (T1.setTop (mkF m 12 #[.val (.int p0), .val (.int p1), .val (.int p2), .val (.ref b1), .val (.int (own_len se)), .unset, .unset, .unset, .unset, .unset, .unset] [(.int (1 : Int32))])) _
    refine st3 _ ?_
    show Steps p.tables e below (T3.setTop (mkF m 14 #[.val (.int p0), .val (.int p1), .val (.int p2), .val (.ref b1), .val (.int (own_len se)), .unset, .unset, .unset, .unset, .unset, .unset] [(.ref pl)])) _
    refine XS.astore X3.here hx rfl (hb hby at_14) rfl rfl (l' := #[.val (.int p0), .val (.int p1), .val (.int p2), .val (.ref b1), .val (.int (own_len se)), .val (.ref pl), .unset, .unset, .unset, .unset, .unset]) rfl ?_
    show Steps p.tables e below (T3.setTop (mkF m 16 #[.val (.int p0), .val (.int p1), .val (.int p2), .val (.ref b1), .val (.int (own_len se)), .val (.ref pl), .unset, .unset, .unset, .unset, .unset] [])) _
    refine st4 _ ?_
    show Steps p.tables e below (T4.setTop (mkF m 19 #[.val (.int p0), .val (.int p1), .val (.int p2), .val (.ref b1), .val (.int (own_len se)), .val (.ref pl), .unset, .unset, .unset, .unset, .unset] [(.ref wo)])) _
    refine XS.dup X4.here hx rfl (hb hby at_19) rfl rfl ?_
    show Steps p.tables e below (T4.setTop (mkF m 20 #[.val (.int p0), .val (.int p1), .val (.int p2), .val (.ref b1), .val (.int (own_len se)), .val (.ref pl), .unset, .unset, .unset, .unset, .unset] [(.ref wo), (.ref wo)])) _
    refine XS.aloadN X4.here hx rfl (hb hby at_20) rfl rfl ?_
    show Steps p.tables e below (T4.setTop (mkF m 21 #[.val (.int p0), .val (.int p1), .val (.int p2), .val (.ref b1), .val (.int (own_len se)), .val (.ref pl), .unset, .unset, .unset, .unset, .unset] [(.ref b1), (.ref wo), (.ref wo)])) _
    refine XS.aload X4.here hx rfl (hb hby at_21) rfl rfl ?_
    show Steps p.tables e below (T4.setTop (mkF m 23 #[.val (.int p0), .val (.int p1), .val (.int p2), .val (.ref b1), .val (.int (own_len se)), .val (.ref pl), .unset, .unset, .unset, .unset, .unset] [(.ref pl), (.ref b1), (.ref wo), (.ref wo)])) _
    refine XS.aconstNull X4.here hx rfl (hb hby at_23) ?_
    show Steps p.tables e below (T4.setTop (mkF m 24 #[.val (.int p0), .val (.int p1), .val (.int p2), .val (.ref b1), .val (.int (own_len se)), .val (.ref pl), .unset, .unset, .unset, .unset, .unset] [.null, (.ref pl), (.ref b1), (.ref wo), (.ref wo)])) _
    refine XS.iloadN X4.here hx rfl (hb hby at_24) rfl ?_
    show Steps p.tables e below (T4.setTop (mkF m 25 #[.val (.int p0), .val (.int p1), .val (.int p2), .val (.ref b1), .val (.int (own_len se)), .val (.ref pl), .unset, .unset, .unset, .unset, .unset] [(.int p0), .null, (.ref pl), (.ref b1), (.ref wo), (.ref wo)])) _
    refine XS.iconst X4.here hx rfl (hb hby at_25) ?_
    show Steps p.tables e below (T4.setTop (mkF m 26 #[.val (.int p0), .val (.int p1), .val (.int p2), .val (.ref b1), .val (.int (own_len se)), .val (.ref pl), .unset, .unset, .unset, .unset, .unset] [(.int (4 : Int32)), (.int p0), .null, (.ref pl), (.ref b1), (.ref wo), (.ref wo)])) _
    refine XS.iand X4.here hx rfl (hb hby at_26) rfl ?_
    refine own_via (T4.setTop (mkF m 35 #[.val (.int p0), .val (.int p1), .val (.int p2), .val (.ref b1), .val (.int (own_len se)), .val (.ref pl), .unset, .unset, .unset, .unset, .unset] [(.int (if (p0 &&& (4 : Int32)) = (0 : Int32) then (0 : Int32) else (1 : Int32))), .null, (.ref pl), (.ref b1), (.ref wo), (.ref wo)])) (fun k => ?_) ?_
    · by_cases hc27 : (p0 &&& (4 : Int32)) = (0 : Int32)
      · show Steps p.tables e below (T4.setTop (mkF m 27 #[.val (.int p0), .val (.int p1), .val (.int p2), .val (.ref b1), .val (.int (own_len se)), .val (.ref pl), .unset, .unset, .unset, .unset, .unset] [(.int (p0 &&& (4 : Int32))), .null, (.ref pl), (.ref b1), (.ref wo), (.ref wo)])) _
        refine XS.ifYes X4.here hx rfl (pc0 := 27) (pc' := 34) rfl (hb hby at_27) rfl ((if0 _ _).trans (teq hc27).1) (by decide) (by decide) ?_
        show Steps p.tables e below (T4.setTop (mkF m 34 #[.val (.int p0), .val (.int p1), .val (.int p2), .val (.ref b1), .val (.int (own_len se)), .val (.ref pl), .unset, .unset, .unset, .unset, .unset] [.null, (.ref pl), (.ref b1), (.ref wo), (.ref wo)])) _
        refine XS.iconst X4.here hx rfl (hb hby at_34) ?_
        try simp only [if_pos hc27] at k
        exact k
      · show Steps p.tables e below (T4.setTop (mkF m 27 #[.val (.int p0), .val (.int p1), .val (.int p2), .val (.ref b1), .val (.int (own_len se)), .val (.ref pl), .unset, .unset, .unset, .unset, .unset] [(.int (p0 &&& (4 : Int32))), .null, (.ref pl), (.ref b1), (.ref wo), (.ref wo)])) _
        refine XS.ifNo X4.here hx rfl (hb hby at_27) rfl ((if0 _ _).trans (feq hc27).1) ?_
        show Steps p.tables e below (T4.setTop (mkF m 30 #[.val (.int p0), .val (.int p1), .val (.int p2), .val (.ref b1), .val (.int (own_len se)), .val (.ref pl), .unset, .unset, .unset, .unset, .unset] [.null, (.ref pl), (.ref b1), (.ref wo), (.ref wo)])) _
        refine XS.iconst X4.here hx rfl (hb hby at_30) ?_
        show Steps p.tables e below (T4.setTop (mkF m 31 #[.val (.int p0), .val (.int p1), .val (.int p2), .val (.ref b1), .val (.int (own_len se)), .val (.ref pl), .unset, .unset, .unset, .unset, .unset] [(.int (1 : Int32)), .null, (.ref pl), (.ref b1), (.ref wo), (.ref wo)])) _
        refine XS.goto X4.here hx rfl (pc0 := 31) (pc' := 35) rfl (hb hby at_31) (by decide) (by decide) ?_
        try simp only [if_neg hc27] at k
        exact k
    show Steps p.tables e below (T4.setTop (mkF m 35 #[.val (.int p0), .val (.int p1), .val (.int p2), .val (.ref b1), .val (.int (own_len se)), .val (.ref pl), .unset, .unset, .unset, .unset, .unset] [(.int (if (p0 &&& (4 : Int32)) = (0 : Int32) then (0 : Int32) else (1 : Int32))), .null, (.ref pl), (.ref b1), (.ref wo), (.ref wo)])) _
    refine st5.trans ?_
    show Steps p.tables e below (T5.setTop (mkF m 38 #[.val (.int p0), .val (.int p1), .val (.int p2), .val (.ref b1), .val (.int (own_len se)), .val (.ref pl), .unset, .unset, .unset, .unset, .unset] [(.ref wo)])) _
    refine XS.astore X5.here hx rfl (hb hby at_38) rfl rfl (l' := #[.val (.int p0), .val (.int p1), .val (.int p2), .val (.ref b1), .val (.int (own_len se)), .val (.ref pl), .val (.ref wo), .unset, .unset, .unset, .unset]) rfl ?_
    show Steps p.tables e below (T5.setTop (mkF m 40 #[.val (.int p0), .val (.int p1), .val (.int p2), .val (.ref b1), .val (.int (own_len se)), .val (.ref pl), .val (.ref wo), .unset, .unset, .unset, .unset] [])) _
    refine XS.iloadN X5.here hx rfl (hb hby at_40) rfl ?_
    show Steps p.tables e below (T5.setTop (mkF m 41 #[.val (.int p0), .val (.int p1), .val (.int p2), .val (.ref b1), .val (.int (own_len se)), .val (.ref pl), .val (.ref wo), .unset, .unset, .unset, .unset] [(.int p1)])) _
    refine X5.ldcInt hx hown (mvT hZ (hw _ (List.mem_of_getElem? (i := 57) rfl))) (g := (mkF m 41 #[.val (.int p0), .val (.int p1), .val (.int p2), .val (.ref b1), .val (.int (own_len se)), .val (.ref pl), .val (.ref wo), .unset, .unset, .unset, .unset] [(.int p1)])) rfl (hb hby at_41) _ ?_
    show Steps p.tables e below (T5.setTop (mkF m 43 #[.val (.int p0), .val (.int p1), .val (.int p2), .val (.ref b1), .val (.int (own_len se)), .val (.ref pl), .val (.ref wo), .unset, .unset, .unset, .unset] [(.int (2147483647 : Int32)), (.int p1)])) _
    refine XS.iand X5.here hx rfl (hb hby at_43) rfl ?_
    show Steps p.tables e below (T5.setTop (mkF m 44 #[.val (.int p0), .val (.int p1), .val (.int p2), .val (.ref b1), .val (.int (own_len se)), .val (.ref pl), .val (.ref wo), .unset, .unset, .unset, .unset] [(.int (p1 &&& (2147483647 : Int32)))])) _
    rw [← h_le]
    show Steps p.tables e below (T5.setTop (mkF m 44 #[.val (.int p0), .val (.int p1), .val (.int p2), .val (.ref b1), .val (.int (own_len se)), .val (.ref pl), .val (.ref wo), .unset, .unset, .unset, .unset] [(.int le)])) _
    refine XS.istore X5.here hx rfl (hb hby at_44) rfl (l' := #[.val (.int p0), .val (.int p1), .val (.int p2), .val (.ref b1), .val (.int (own_len se)), .val (.ref pl), .val (.ref wo), .val (.int le), .unset, .unset, .unset]) rfl ?_
    show Steps p.tables e below (T5.setTop (mkF m 46 #[.val (.int p0), .val (.int p1), .val (.int p2), .val (.ref b1), .val (.int (own_len se)), .val (.ref pl), .val (.ref wo), .val (.int le), .unset, .unset, .unset] [])) _
    refine XS.iloadN X5.here hx rfl (hb hby at_46) rfl ?_
    show Steps p.tables e below (T5.setTop (mkF m 47 #[.val (.int p0), .val (.int p1), .val (.int p2), .val (.ref b1), .val (.int (own_len se)), .val (.ref pl), .val (.ref wo), .val (.int le), .unset, .unset, .unset] [(.int p2)])) _
    refine X5.ldcInt hx hown (mvT hZ (hw _ (List.mem_of_getElem? (i := 57) rfl))) (g := (mkF m 47 #[.val (.int p0), .val (.int p1), .val (.int p2), .val (.ref b1), .val (.int (own_len se)), .val (.ref pl), .val (.ref wo), .val (.int le), .unset, .unset, .unset] [(.int p2)])) rfl (hb hby at_47) _ ?_
    show Steps p.tables e below (T5.setTop (mkF m 49 #[.val (.int p0), .val (.int p1), .val (.int p2), .val (.ref b1), .val (.int (own_len se)), .val (.ref pl), .val (.ref wo), .val (.int le), .unset, .unset, .unset] [(.int (2147483647 : Int32)), (.int p2)])) _
    refine XS.iand X5.here hx rfl (hb hby at_49) rfl ?_
    show Steps p.tables e below (T5.setTop (mkF m 50 #[.val (.int p0), .val (.int p1), .val (.int p2), .val (.ref b1), .val (.int (own_len se)), .val (.ref pl), .val (.ref wo), .val (.int le), .unset, .unset, .unset] [(.int (p2 &&& (2147483647 : Int32)))])) _
    rw [← h_ba]
    show Steps p.tables e below (T5.setTop (mkF m 50 #[.val (.int p0), .val (.int p1), .val (.int p2), .val (.ref b1), .val (.int (own_len se)), .val (.ref pl), .val (.ref wo), .val (.int le), .unset, .unset, .unset] [(.int ba)])) _
    refine XS.i2l X5.here hx rfl (hb hby at_50) rfl ?_
    show Steps p.tables e below (T5.setTop (mkF m 51 #[.val (.int p0), .val (.int p1), .val (.int p2), .val (.ref b1), .val (.int (own_len se)), .val (.ref pl), .val (.ref wo), .val (.int le), .unset, .unset, .unset] [(.long (ba.toInt64))])) _
    refine XS.iload X5.here hx rfl (hb hby at_51) rfl ?_
    show Steps p.tables e below (T5.setTop (mkF m 53 #[.val (.int p0), .val (.int p1), .val (.int p2), .val (.ref b1), .val (.int (own_len se)), .val (.ref pl), .val (.ref wo), .val (.int le), .unset, .unset, .unset] [(.int le), (.long (ba.toInt64))])) _
    refine XS.i2l X5.here hx rfl (hb hby at_53) rfl ?_
    show Steps p.tables e below (T5.setTop (mkF m 54 #[.val (.int p0), .val (.int p1), .val (.int p2), .val (.ref b1), .val (.int (own_len se)), .val (.ref pl), .val (.ref wo), .val (.int le), .unset, .unset, .unset] [(.long (le.toInt64)), (.long (ba.toInt64))])) _
    refine XS.lconst X5.here hx rfl (hb hby at_54) ?_
    show Steps p.tables e below (T5.setTop (mkF m 55 #[.val (.int p0), .val (.int p1), .val (.int p2), .val (.ref b1), .val (.int (own_len se)), .val (.ref pl), .val (.ref wo), .val (.int le), .unset, .unset, .unset] [(.long (1 : Int64)), (.long (le.toInt64)), (.long (ba.toInt64))])) _
    refine XS.ladd X5.here hx rfl (hb hby at_55) rfl ?_
    show Steps p.tables e below (T5.setTop (mkF m 56 #[.val (.int p0), .val (.int p1), .val (.int p2), .val (.ref b1), .val (.int (own_len se)), .val (.ref pl), .val (.ref wo), .val (.int le), .unset, .unset, .unset] [(.long ((le.toInt64) + (1 : Int64))), (.long (ba.toInt64))])) _
    refine own_lrem X5 hx rfl (hb hby at_56) rfl (own_d Bb Bl).1 ?_
    show Steps p.tables e below (T5.setTop (mkF m 57 #[.val (.int p0), .val (.int p1), .val (.int p2), .val (.ref b1), .val (.int (own_len se)), .val (.ref pl), .val (.ref wo), .val (.int le), .unset, .unset, .unset] [(.long ((ba.toInt64) % ((le.toInt64) + (1 : Int64))))])) _
    refine XS.l2i X5.here hx rfl (hb hby at_57) rfl ?_
    show Steps p.tables e below (T5.setTop (mkF m 58 #[.val (.int p0), .val (.int p1), .val (.int p2), .val (.ref b1), .val (.int (own_len se)), .val (.ref pl), .val (.ref wo), .val (.int le), .unset, .unset, .unset] [(.int (((ba.toInt64) % ((le.toInt64) + (1 : Int64))).toInt32))])) _
    rw [← h_dd]
    show Steps p.tables e below (T5.setTop (mkF m 58 #[.val (.int p0), .val (.int p1), .val (.int p2), .val (.ref b1), .val (.int (own_len se)), .val (.ref pl), .val (.ref wo), .val (.int le), .unset, .unset, .unset] [(.int dd)])) _
    refine XS.istore X5.here hx rfl (hb hby at_58) rfl (l' := #[.val (.int p0), .val (.int p1), .val (.int p2), .val (.ref b1), .val (.int (own_len se)), .val (.ref pl), .val (.ref wo), .val (.int le), .val (.int dd), .unset, .unset]) rfl ?_
    show Steps p.tables e below (T5.setTop (mkF m 60 #[.val (.int p0), .val (.int p1), .val (.int p2), .val (.ref b1), .val (.int (own_len se)), .val (.ref pl), .val (.ref wo), .val (.int le), .val (.int dd), .unset, .unset] [])) _
    refine XS.iload X5.here hx rfl (hb hby at_60) rfl ?_
    show Steps p.tables e below (T5.setTop (mkF m 62 #[.val (.int p0), .val (.int p1), .val (.int p2), .val (.ref b1), .val (.int (own_len se)), .val (.ref pl), .val (.ref wo), .val (.int le), .val (.int dd), .unset, .unset] [(.int le)])) _
    refine XS.iload X5.here hx rfl (hb hby at_62) rfl ?_
    show Steps p.tables e below (T5.setTop (mkF m 64 #[.val (.int p0), .val (.int p1), .val (.int p2), .val (.ref b1), .val (.int (own_len se)), .val (.ref pl), .val (.ref wo), .val (.int le), .val (.int dd), .unset, .unset] [(.int dd), (.int le)])) _
    refine XS.isub X5.here hx rfl (hb hby at_64) rfl ?_
    show Steps p.tables e below (T5.setTop (mkF m 65 #[.val (.int p0), .val (.int p1), .val (.int p2), .val (.ref b1), .val (.int (own_len se)), .val (.ref pl), .val (.ref wo), .val (.int le), .val (.int dd), .unset, .unset] [(.int (le - dd))])) _
    refine XS.istore X5.here hx rfl (hb hby at_65) rfl (l' := #[.val (.int p0), .val (.int p1), .val (.int p2), .val (.ref b1), .val (.int (own_len se)), .val (.ref pl), .val (.ref wo), .val (.int le), .val (.int dd), .val (.int (le - dd)), .unset]) rfl ?_
    show Steps p.tables e below (T5.setTop (mkF m 67 #[.val (.int p0), .val (.int p1), .val (.int p2), .val (.ref b1), .val (.int (own_len se)), .val (.ref pl), .val (.ref wo), .val (.int le), .val (.int dd), .val (.int (le - dd)), .unset] [])) _
    refine XS.iload X5.here hx rfl (hb hby at_67) rfl ?_
    show Steps p.tables e below (T5.setTop (mkF m 69 #[.val (.int p0), .val (.int p1), .val (.int p2), .val (.ref b1), .val (.int (own_len se)), .val (.ref pl), .val (.ref wo), .val (.int le), .val (.int dd), .val (.int (le - dd)), .unset] [(.int dd)])) _
    refine XS.iload X5.here hx rfl (hb hby at_69) rfl ?_
    show Steps p.tables e below (T5.setTop (mkF m 71 #[.val (.int p0), .val (.int p1), .val (.int p2), .val (.ref b1), .val (.int (own_len se)), .val (.ref pl), .val (.ref wo), .val (.int le), .val (.int dd), .val (.int (le - dd)), .unset] [(.int (own_len se)), (.int dd)])) _
    refine XS.bipush X5.here hx rfl (hb hby at_71) ?_
    show Steps p.tables e below (T5.setTop (mkF m 73 #[.val (.int p0), .val (.int p1), .val (.int p2), .val (.ref b1), .val (.int (own_len se)), .val (.ref pl), .val (.ref wo), .val (.int le), .val (.int dd), .val (.int (le - dd)), .unset] [(.int (31 : Int32)), (.int (own_len se)), (.int dd)])) _
    refine XS.iadd X5.here hx rfl (hb hby at_73) rfl ?_
    refine own_via (T5.setTop (mkF m 82 #[.val (.int p0), .val (.int p1), .val (.int p2), .val (.ref b1), .val (.int (own_len se)), .val (.ref pl), .val (.ref wo), .val (.int le), .val (.int dd), .val (.int (le - dd)), .unset] [(.int (if dd < ((own_len se) + (31 : Int32)) then (0 : Int32) else (1 : Int32)))])) (fun k => ?_) ?_
    · by_cases hc74 : dd < ((own_len se) + (31 : Int32))
      · show Steps p.tables e below (T5.setTop (mkF m 74 #[.val (.int p0), .val (.int p1), .val (.int p2), .val (.ref b1), .val (.int (own_len se)), .val (.ref pl), .val (.ref wo), .val (.int le), .val (.int dd), .val (.int (le - dd)), .unset] [(.int ((own_len se) + (31 : Int32))), (.int dd)])) _
        refine XS.icmpYes X5.here hx rfl (pc0 := 74) (pc' := 81) rfl (hb hby at_74) rfl (tlt hc74).1 (by decide) (by decide) ?_
        show Steps p.tables e below (T5.setTop (mkF m 81 #[.val (.int p0), .val (.int p1), .val (.int p2), .val (.ref b1), .val (.int (own_len se)), .val (.ref pl), .val (.ref wo), .val (.int le), .val (.int dd), .val (.int (le - dd)), .unset] [])) _
        refine XS.iconst X5.here hx rfl (hb hby at_81) ?_
        try simp only [if_pos hc74] at k
        exact k
      · show Steps p.tables e below (T5.setTop (mkF m 74 #[.val (.int p0), .val (.int p1), .val (.int p2), .val (.ref b1), .val (.int (own_len se)), .val (.ref pl), .val (.ref wo), .val (.int le), .val (.int dd), .val (.int (le - dd)), .unset] [(.int ((own_len se) + (31 : Int32))), (.int dd)])) _
        refine XS.icmpNo X5.here hx rfl (hb hby at_74) rfl (flt hc74).1 ?_
        show Steps p.tables e below (T5.setTop (mkF m 77 #[.val (.int p0), .val (.int p1), .val (.int p2), .val (.ref b1), .val (.int (own_len se)), .val (.ref pl), .val (.ref wo), .val (.int le), .val (.int dd), .val (.int (le - dd)), .unset] [])) _
        refine XS.iconst X5.here hx rfl (hb hby at_77) ?_
        show Steps p.tables e below (T5.setTop (mkF m 78 #[.val (.int p0), .val (.int p1), .val (.int p2), .val (.ref b1), .val (.int (own_len se)), .val (.ref pl), .val (.ref wo), .val (.int le), .val (.int dd), .val (.int (le - dd)), .unset] [(.int (1 : Int32))])) _
        refine XS.goto X5.here hx rfl (pc0 := 78) (pc' := 82) rfl (hb hby at_78) (by decide) (by decide) ?_
        try simp only [if_neg hc74] at k
        exact k
    show Steps p.tables e below (T5.setTop (mkF m 82 #[.val (.int p0), .val (.int p1), .val (.int p2), .val (.ref b1), .val (.int (own_len se)), .val (.ref pl), .val (.ref wo), .val (.int le), .val (.int dd), .val (.int (le - dd)), .unset] [(.int (if dd < ((own_len se) + (31 : Int32)) then (0 : Int32) else (1 : Int32)))])) _
    refine XS.istore X5.here hx rfl (hb hby at_82) rfl (l' := #[.val (.int p0), .val (.int p1), .val (.int p2), .val (.ref b1), .val (.int (own_len se)), .val (.ref pl), .val (.ref wo), .val (.int le), .val (.int dd), .val (.int (le - dd)), .val (.int (if dd < ((own_len se) + (31 : Int32)) then (0 : Int32) else (1 : Int32)))]) rfl ?_
    show Steps p.tables e below (T5.setTop (mkF m 84 #[.val (.int p0), .val (.int p1), .val (.int p2), .val (.ref b1), .val (.int (own_len se)), .val (.ref pl), .val (.ref wo), .val (.int le), .val (.int dd), .val (.int (le - dd)), .val (.int (if dd < ((own_len se) + (31 : Int32)) then (0 : Int32) else (1 : Int32)))] [])) _
    refine XS.aload X5.here hx rfl (hb hby at_84) rfl rfl ?_
    show Steps p.tables e below (T5.setTop (mkF m 86 #[.val (.int p0), .val (.int p1), .val (.int p2), .val (.ref b1), .val (.int (own_len se)), .val (.ref pl), .val (.ref wo), .val (.int le), .val (.int dd), .val (.int (le - dd)), .val (.int (if dd < ((own_len se) + (31 : Int32)) then (0 : Int32) else (1 : Int32)))] [(.ref wo)])) _
    refine XS.iload X5.here hx rfl (hb hby at_86) rfl ?_
    show Steps p.tables e below (T5.setTop (mkF m 88 #[.val (.int p0), .val (.int p1), .val (.int p2), .val (.ref b1), .val (.int (own_len se)), .val (.ref pl), .val (.ref wo), .val (.int le), .val (.int dd), .val (.int (le - dd)), .val (.int (if dd < ((own_len se) + (31 : Int32)) then (0 : Int32) else (1 : Int32)))] [(.int le), (.ref wo)])) _
    refine XS.iload X5.here hx rfl (hb hby at_88) rfl ?_
    show Steps p.tables e below (T5.setTop (mkF m 90 #[.val (.int p0), .val (.int p1), .val (.int p2), .val (.ref b1), .val (.int (own_len se)), .val (.ref pl), .val (.ref wo), .val (.int le), .val (.int dd), .val (.int (le - dd)), .val (.int (if dd < ((own_len se) + (31 : Int32)) then (0 : Int32) else (1 : Int32)))] [(.int (le - dd)), (.int le), (.ref wo)])) _
    refine st6.trans ?_
    show Steps p.tables e below (T6.setTop (mkF m 93 #[.val (.int p0), .val (.int p1), .val (.int p2), .val (.ref b1), .val (.int (own_len se)), .val (.ref pl), .val (.ref wo), .val (.int le), .val (.int dd), .val (.int (le - dd)), .val (.int (if dd < ((own_len se) + (31 : Int32)) then (0 : Int32) else (1 : Int32)))] [(.int (nar .boolean (if (((le - (own_len se)) + (1 : Int32)) - (le - dd)) < (32 : Int32) then (0 : Int32) else (1 : Int32))))])) _
    refine XS.iload X6.here hx rfl (hb hby at_93) rfl ?_
    show Steps p.tables e below (T6.setTop (mkF m 95 #[.val (.int p0), .val (.int p1), .val (.int p2), .val (.ref b1), .val (.int (own_len se)), .val (.ref pl), .val (.ref wo), .val (.int le), .val (.int dd), .val (.int (le - dd)), .val (.int (if dd < ((own_len se) + (31 : Int32)) then (0 : Int32) else (1 : Int32)))] [(.int (if dd < ((own_len se) + (31 : Int32)) then (0 : Int32) else (1 : Int32))), (.int (nar .boolean (if (((le - (own_len se)) + (1 : Int32)) - (le - dd)) < (32 : Int32) then (0 : Int32) else (1 : Int32))))])) _
    refine XS.icmpNo X6.here hx rfl (hb hby at_95) rfl (teq (own_fin Bl Bdd (own_lenb se) : (nar .boolean (if (((le - (own_len se)) + (1 : Int32)) - (le - dd)) < (32 : Int32) then (0 : Int32) else (1 : Int32))) = (if dd < ((own_len se) + (31 : Int32)) then (0 : Int32) else (1 : Int32)))).2 ?_
    show Steps p.tables e below (T6.setTop (mkF m 98 #[.val (.int p0), .val (.int p1), .val (.int p2), .val (.ref b1), .val (.int (own_len se)), .val (.ref pl), .val (.ref wo), .val (.int le), .val (.int dd), .val (.int (le - dd)), .val (.int (if dd < ((own_len se) + (31 : Int32)) then (0 : Int32) else (1 : Int32)))] [])) _
    refine XS.iconst X6.here hx rfl (hb hby at_98) ?_
    show Steps p.tables e below (T6.setTop (mkF m 99 #[.val (.int p0), .val (.int p1), .val (.int p2), .val (.ref b1), .val (.int (own_len se)), .val (.ref pl), .val (.ref wo), .val (.int le), .val (.int dd), .val (.int (le - dd)), .val (.int (if dd < ((own_len se) + (31 : Int32)) then (0 : Int32) else (1 : Int32)))] [(.int (1 : Int32))])) _
    refine XS.goto X6.here hx rfl (pc0 := 99) (pc' := 103) rfl (hb hby at_99) (by decide) (by decide) ?_
    show Steps p.tables e below (T6.setTop (mkF m 103 #[.val (.int p0), .val (.int p1), .val (.int p2), .val (.ref b1), .val (.int (own_len se)), .val (.ref pl), .val (.ref wo), .val (.int le), .val (.int dd), .val (.int (le - dd)), .val (.int (if dd < ((own_len se) + (31 : Int32)) then (0 : Int32) else (1 : Int32)))] [(.int (1 : Int32))])) _
    exact retN X6 hx (t := .boolean) Bd.returns (by simp) (hb hby at_103) hr
  · show Qrm0 Z p0 p1 p2 h0 n0 _ T6.heap _
    rw [eh6]
    exact ⟨rfl, N6⟩
set_option maxRecDepth 65536 in
set_option maxHeartbeats 40000000 in
theorem comes_1 {Post : Tables → Env → Array Value → State → Outcome → State → Prop} (hpost : ∀ tb e args s v u, (limb_1_1.after args s (.returned v) u = true ∧ limb_1_2.after args s (.returned v) u = true ∧ True) → FrameEnd s (.returned v) u (Jvm.fieldLocs frame_1_writes args s ++ Jvm.arrayLocs frame_1_arrays args s ++ Jvm.staticLocs frame_1_statics s) 16 128 → Post tb e args s (.returned v) u) :
    ArmFor flags0 classFile x code maxLocals ret World_1 tables_1 room_1 Calls_1 rest_1 Pre_1 Post := by
  intro l hfl _ _ p e ha hc hk s m args below hf hA hF happ hP
  obtain ⟨hcalls, hrest, hpre⟩ := hP
  obtain ⟨-, -, -, hnamed, -, -, -, hat⟩ := (Spec.applies_iff hf).mp happ
  obtain ⟨hg, hn⟩ := and_e (Cond.before_iff.mp (show (Jvm.Cond.and given_1 narrow_1).before args s = true from hpre))
  obtain ⟨g1, g2⟩ := and_e hg
  obtain ⟨g3, g4⟩ := and_e g2
  obtain ⟨g5, g6⟩ := and_e g4
  obtain ⟨w0, w1, w2, rfl⟩ : ∃ w0 w1 w2 : Value, args = #[w0, w1, w2] := by
    have hs : args.size = 3 := by simpa [Cond.value, given_1] using g1
    obtain ⟨L⟩ := args
    match L, hs with
    | [w0, w1, w2], _ => exact ⟨w0, w1, w2, rfl⟩
  have hw := fun d (hd : d ∈ tables_1) => atoms_spec (ws := Jvm.Cond.code x code maxLocals ret :: tables_1) hat d (List.mem_cons_of_mem _ hd)
  obtain ⟨i0, ei0⟩ := is_v g3
  obtain rfl : w0 = (.int i0) := Option.some.inj ei0
  obtain ⟨i1, ei1⟩ := is_v g5
  obtain rfl : w1 = (.int i1) := Option.some.inj ei1
  obtain ⟨i2, ei2⟩ := is_v g6
  obtain rfl : w2 = (.int i2) := Option.some.inj ei2
  obtain ⟨n, o, h1, h2, h3, _, L, rfl, ⟨rfl, N⟩, hq⟩ := rm0 l s _ hw tables_1 i0 i1 i2  s.heap s.heap.size (Nat.le_refl _) p e ha hc hk s m _ below hf ((Spec.applies_iff_loose hf).mp happ).1 ⟨rfl, State.Warmed39.refl s, rfl⟩ trivial
  refine ⟨n, _, h1, h2, h3, hpost _ _ _ _ _ _ ⟨Cond.after_iff.mpr rfl, Cond.after_iff.mpr (eq_i res_at (Term.int_eval (1)) rfl), trivial⟩ ⟨hq.1, hq.2.1, (hq.2.2.sift fun y hy => Or.inr (N y hy)).mono (by decide) (by decide)⟩⟩
theorem main_1_1 : Claimed_1_1 := comes_1 fun _ _ _ _ _ _ h hF => ⟨h.1, hF⟩
theorem main_1_2 : Claimed_1_2 := comes_1 fun _ _ _ _ _ _ h hF => ⟨h.2.1, hF⟩
end Jvm.Pilot.@@N@@
namespace Jvm.Pilot.@@N@@
open Jvm Jvm.ClassFile Sem Op Lib Jvm.Free Jvm.Stand Jvm.Pilot.@@N@@.Jvm.D
/-! MADE BY PROGRAM (witnessworld.py) out of the Statement's table words and the real class files: 12 classes; the members and pool entries that the words name. The judged class is class 1, her method 1. -/
namespace start1
open Jvm.ClassFile
def u (s : String) : CpInfo := .utf8 (stringToUtf16 s)
/-- a pool by its gaps: so many unusable entries, then the entry; so many at the end -/
def gap : Nat → List CpInfo → List CpInfo
  | 0, r => r
  | n + 1, r => .unusable :: gap n r
def poolList (es : List (Nat × CpInfo)) (last : Nat) : List CpInfo := es.foldr (fun e r => gap e.1 (e.2 :: r)) (gap last [])
def pool (es : List (Nat × CpInfo)) (last : Nat) : Array CpInfo := ⟨poolList es last⟩
def fileOf (pool : Array CpInfo) (this : Nat) (attrs : Array Attribute := #[]) (ms : Array MethodInfo := #[]) (fl : Nat := 33) (sup : Nat := 0) (ifs : Array Nat := #[]) (fds : Array FieldInfo := #[]) : ClassFile where
  minorVersion := 0
  majorVersion := 65
  constantPool := pool
  accessFlags := fl
  thisClass := this
  superClass := sup
  interfaces := ifs
  fields := fds
  methods := ms
  attributes := attrs
def plain (name : String) (sup : Option ClassId) : Class where
  name := name
  kind := .ordinary
  loader := none
  accessFlags := 33
  super := sup
  interfaces := #[]
  cf := none
  fields := #[]
  methods := #[]
  instanceTypes := #[]
  staticTypes := #[]
  resolved := #[]
  callSites := []
  init := .initialized
  statics := none
  mirror := none

def pool0 : Array CpInfo := pool [(5, u "<init>"), (0, u "()V"), (1, .class_ 10), (1, u "java/lang/Object")] 113

def k0c0 : Code := { maxStack := 0, maxLocals := 1, code := object_method_1_code, exceptionTable := #[], attributes := #[] }
def k0m0 : Method := { name := "<init>", desc := "()V", sig := { parameters := [], returnType := none }, accessFlags := 1, code := some k0c0 }
/-- java/lang/Object -/
def k0 : Class := { plain "java/lang/Object" none with
  accessFlags := 33
  interfaces := #[]
  cf := some (fileOf pool0 8 #[] #[{ accessFlags := 1, nameIndex := 5, descriptorIndex := 6, attributes := #[] }] 33 0 #[] #[])
  fields := #[]
  methods := #[k0m0]
  instanceTypes := #[]
  staticTypes := #[]
  resolved := Array.replicate 124 none
  statics := none }

def pool1 : Array CpInfo := pool [(2, .class_ 4), (1, u "java/lang/Object"), (0, u "<init>"), (0, u "()V"), (0, .methodref 8 9), (0, .class_ 10), (0, .nameAndType 11 12), (0, u "com/example/nimble_needle/nimbleneedle/algorithm/WordSieveSearchesPinLaw"), (0, u "pattern"), (0, u "(I)[C"), (0, .class_ 14), (0, u "com/example/nimble_needle/nimbleneedle/algorithm/WordSieve"), (0, .methodref 13 16), (0, .nameAndType 5 17), (0, u "([C[ILcom/example/nimble_needle/nimbleneedle/algorithm/CharSieve;Z)V"), (0, .integer 2147483647), (0, .methodref 13 20), (0, .nameAndType 21 22), (0, u "searches"), (0, u "(II)Z"), (2, u "law"), (0, u "(III)Z")] 7

def k1m0 : Method := { name := "<init>", desc := "()V", sig := { parameters := [], returnType := none }, accessFlags := 1, code := none }
def k1c1 : Code := { maxStack := 7, maxLocals := 11, code := code, exceptionTable := #[], attributes := #[] }
def k1m1 : Method := { name := "law", desc := "(III)Z", sig := { parameters := [.int, .int, .int], returnType := some .boolean }, accessFlags := 9, code := some k1c1 }
def k1c2 : Code := { maxStack := 2, maxLocals := 1, code := method_3_code, exceptionTable := #[], attributes := #[] }
def k1m2 : Method := { name := "pattern", desc := "(I)[C", sig := { parameters := [.int], returnType := some (.array .char) }, accessFlags := 10, code := some k1c2 }
/-- com/example/nimble_needle/nimbleneedle/algorithm/WordSieveSearchesPinLaw -/
def k1 : Class := { plain "com/example/nimble_needle/nimbleneedle/algorithm/WordSieveSearchesPinLaw" (some 0) with
  accessFlags := 49
  interfaces := #[]
  cf := some (fileOf pool1 8 #[] #[{ accessFlags := 1, nameIndex := 5, descriptorIndex := 6, attributes := #[] }, { accessFlags := 9, nameIndex := 25, descriptorIndex := 26, attributes := #[] }, { accessFlags := 10, nameIndex := 11, descriptorIndex := 12, attributes := #[] }] 49 2 #[] #[])
  fields := #[]
  methods := #[k1m0, k1m1, k1m2]
  instanceTypes := #[]
  staticTypes := #[]
  resolved := Array.replicate 34 none
  statics := none }

def pool2 : Array CpInfo := pool [(1, .methodref 2 3), (0, .class_ 4), (0, .nameAndType 5 6), (0, u "com/example/nimble_needle/nimbleneedle/algorithm/WordSieve"), (0, u "<init>"), (0, u "([C[ILcom/example/nimble_needle/nimbleneedle/algorithm/CharSieve;ZZ)V"), (0, .methodref 8 9), (0, .class_ 10), (0, .nameAndType 5 11), (0, u "java/lang/Object"), (0, u "()V"), (0, .fieldref 2 13), (0, .nameAndType 14 15), (0, u "length"), (0, u "I"), (0, .fieldref 2 17), (0, .nameAndType 18 19), (0, u "first"), (0, u "C"), (0, .fieldref 2 21), (0, .nameAndType 22 23), (0, u "chars"), (0, u "Lcom/example/nimble_needle/nimbleneedle/algorithm/CharSieve;"), (0, .fieldref 2 25), (0, .nameAndType 26 27), (0, u "paired"), (0, u "Z"), (0, .fieldref 2 29), (0, .nameAndType 30 27), (0, u "whole"), (0, .methodref 32 33), (0, .class_ 34), (0, .nameAndType 35 36), (0, u "java/lang/Math"), (0, u "min"), (0, u "(II)I"), (0, .fieldref 2 38), (0, .nameAndType 39 15), (0, u "leastStarts"), (6, .fieldref 2 47), (0, .nameAndType 48 27), (0, u "single"), (0, .fieldref 2 50), (0, .nameAndType 51 15), (0, u "firstPlace"), (0, .fieldref 2 53), (0, .nameAndType 54 15), (0, u "secondPlace"), (0, .fieldref 2 56), (0, .nameAndType 57 15), (0, u "thirdPlace"), (0, .methodref 2 59), (0, .nameAndType 60 61), (0, u "inEveryByte"), (0, u "(C)J"), (0, .fieldref 2 63), (0, .nameAndType 64 65), (0, u "firstBytes"), (0, u "J"), (0, .fieldref 2 67), (0, .nameAndType 68 65), (0, u "secondBytes"), (0, .fieldref 2 70), (0, .nameAndType 71 65), (0, u "thirdBytes"), (0, .methodref 32 73), (0, .nameAndType 74 36), (0, u "max"), (0, .fieldref 2 76), (0, .nameAndType 77 15), (0, u "lastPlace"), (8, u "(II)Z"), (6, .class_ 94), (0, u "com/example/nimble_needle/nimbleneedle/algorithm/WordSieve$Pass"), (5, .long 72340172838076673), (46, u "STARTS_PER_STEP"), (2, u "MOST_STARTS"), (1, u "JUDGED_STARTS"), (1, u "FIRST_WITHIN"), (1, u "BLOCK"), (0, u "SHORT_BLOCK"), (1, u "EVIDENCE"), (1, u "ALONE_SPAN"), (0, u "ALL_SPAN"), (0, u "SHORT_STARTS"), (0, u "ONES"), (0, u "LOW_BITS"), (0, u "([C[ILcom/example/nimble_needle/nimbleneedle/algorithm/CharSieve;Z)V"), (11, u "searches")] 9

def k2c0 : Code := { maxStack := 6, maxLocals := 5, code := prog_30_method_1_code, exceptionTable := #[], attributes := #[] }
def k2m0 : Method := { name := "<init>", desc := "([C[ILcom/example/nimble_needle/nimbleneedle/algorithm/CharSieve;Z)V", sig := { parameters := [(.array .char), (.array .int), (.object "com/example/nimble_needle/nimbleneedle/algorithm/CharSieve"), .boolean], returnType := none }, accessFlags := 0, code := some k2c0 }
def k2c1 : Code := { maxStack := 5, maxLocals := 6, code := prog_30_method_2_code, exceptionTable := #[], attributes := #[] }
def k2m1 : Method := { name := "<init>", desc := "([C[ILcom/example/nimble_needle/nimbleneedle/algorithm/CharSieve;ZZ)V", sig := { parameters := [(.array .char), (.array .int), (.object "com/example/nimble_needle/nimbleneedle/algorithm/CharSieve"), .boolean, .boolean], returnType := none }, accessFlags := 2, code := some k2c1 }
def k2c2 : Code := { maxStack := 4, maxLocals := 1, code := prog_30_method_7_code, exceptionTable := #[], attributes := #[] }
def k2m2 : Method := { name := "inEveryByte", desc := "(C)J", sig := { parameters := [.char], returnType := some .long }, accessFlags := 10, code := some k2c2 }
def k2c3 : Code := { maxStack := 2, maxLocals := 3, code := prog_30_method_11_code, exceptionTable := #[], attributes := #[] }
def k2m3 : Method := { name := "searches", desc := "(II)Z", sig := { parameters := [.int, .int], returnType := some .boolean }, accessFlags := 0, code := some k2c3 }
/-- com/example/nimble_needle/nimbleneedle/algorithm/WordSieve -/
def k2 : Class := { plain "com/example/nimble_needle/nimbleneedle/algorithm/WordSieve" (some 0) with
  accessFlags := 48
  interfaces := #[]
  cf := some (fileOf pool2 2 #[.nestMembers #[93]] #[{ accessFlags := 0, nameIndex := 5, descriptorIndex := 166, attributes := #[] }, { accessFlags := 2, nameIndex := 5, descriptorIndex := 6, attributes := #[] }, { accessFlags := 10, nameIndex := 60, descriptorIndex := 61, attributes := #[] }, { accessFlags := 0, nameIndex := 178, descriptorIndex := 86, attributes := #[] }] 48 8 #[] #[{ accessFlags := 26, nameIndex := 147, descriptorIndex := 15, attributes := #[] }, { accessFlags := 26, nameIndex := 150, descriptorIndex := 15, attributes := #[] }, { accessFlags := 26, nameIndex := 152, descriptorIndex := 15, attributes := #[] }, { accessFlags := 26, nameIndex := 154, descriptorIndex := 15, attributes := #[] }, { accessFlags := 26, nameIndex := 156, descriptorIndex := 15, attributes := #[] }, { accessFlags := 26, nameIndex := 157, descriptorIndex := 15, attributes := #[] }, { accessFlags := 26, nameIndex := 159, descriptorIndex := 15, attributes := #[] }, { accessFlags := 26, nameIndex := 161, descriptorIndex := 15, attributes := #[] }, { accessFlags := 26, nameIndex := 162, descriptorIndex := 15, attributes := #[] }, { accessFlags := 26, nameIndex := 163, descriptorIndex := 15, attributes := #[] }, { accessFlags := 26, nameIndex := 164, descriptorIndex := 65, attributes := #[] }, { accessFlags := 26, nameIndex := 165, descriptorIndex := 65, attributes := #[] }, { accessFlags := 18, nameIndex := 14, descriptorIndex := 15, attributes := #[] }, { accessFlags := 18, nameIndex := 18, descriptorIndex := 19, attributes := #[] }, { accessFlags := 18, nameIndex := 22, descriptorIndex := 23, attributes := #[] }, { accessFlags := 18, nameIndex := 26, descriptorIndex := 27, attributes := #[] }, { accessFlags := 18, nameIndex := 39, descriptorIndex := 15, attributes := #[] }, { accessFlags := 18, nameIndex := 48, descriptorIndex := 27, attributes := #[] }, { accessFlags := 18, nameIndex := 51, descriptorIndex := 15, attributes := #[] }, { accessFlags := 18, nameIndex := 54, descriptorIndex := 15, attributes := #[] }, { accessFlags := 18, nameIndex := 57, descriptorIndex := 15, attributes := #[] }, { accessFlags := 18, nameIndex := 64, descriptorIndex := 65, attributes := #[] }, { accessFlags := 18, nameIndex := 68, descriptorIndex := 65, attributes := #[] }, { accessFlags := 18, nameIndex := 71, descriptorIndex := 65, attributes := #[] }, { accessFlags := 18, nameIndex := 77, descriptorIndex := 15, attributes := #[] }, { accessFlags := 18, nameIndex := 30, descriptorIndex := 27, attributes := #[] }])
  fields := #[{ name := "STARTS_PER_STEP", type := .int, accessFlags := 26, slot := 0, constantValue := 0 }, { name := "MOST_STARTS", type := .int, accessFlags := 26, slot := 1, constantValue := 0 }, { name := "JUDGED_STARTS", type := .int, accessFlags := 26, slot := 2, constantValue := 0 }, { name := "FIRST_WITHIN", type := .int, accessFlags := 26, slot := 3, constantValue := 0 }, { name := "BLOCK", type := .int, accessFlags := 26, slot := 4, constantValue := 0 }, { name := "SHORT_BLOCK", type := .int, accessFlags := 26, slot := 5, constantValue := 0 }, { name := "EVIDENCE", type := .int, accessFlags := 26, slot := 6, constantValue := 0 }, { name := "ALONE_SPAN", type := .int, accessFlags := 26, slot := 7, constantValue := 0 }, { name := "ALL_SPAN", type := .int, accessFlags := 26, slot := 8, constantValue := 0 }, { name := "SHORT_STARTS", type := .int, accessFlags := 26, slot := 9, constantValue := 0 }, { name := "ONES", type := .long, accessFlags := 26, slot := 10, constantValue := 0 }, { name := "LOW_BITS", type := .long, accessFlags := 26, slot := 11, constantValue := 0 }, { name := "length", type := .int, accessFlags := 18, slot := 0, constantValue := 0 }, { name := "first", type := .char, accessFlags := 18, slot := 1, constantValue := 0 }, { name := "chars", type := (.object "com/example/nimble_needle/nimbleneedle/algorithm/CharSieve"), accessFlags := 18, slot := 2, constantValue := 0 }, { name := "paired", type := .boolean, accessFlags := 18, slot := 3, constantValue := 0 }, { name := "leastStarts", type := .int, accessFlags := 18, slot := 4, constantValue := 0 }, { name := "single", type := .boolean, accessFlags := 18, slot := 5, constantValue := 0 }, { name := "firstPlace", type := .int, accessFlags := 18, slot := 6, constantValue := 0 }, { name := "secondPlace", type := .int, accessFlags := 18, slot := 7, constantValue := 0 }, { name := "thirdPlace", type := .int, accessFlags := 18, slot := 8, constantValue := 0 }, { name := "firstBytes", type := .long, accessFlags := 18, slot := 9, constantValue := 0 }, { name := "secondBytes", type := .long, accessFlags := 18, slot := 10, constantValue := 0 }, { name := "thirdBytes", type := .long, accessFlags := 18, slot := 11, constantValue := 0 }, { name := "lastPlace", type := .int, accessFlags := 18, slot := 12, constantValue := 0 }, { name := "whole", type := .boolean, accessFlags := 18, slot := 13, constantValue := 0 }]
  methods := #[k2m0, k2m1, k2m2, k2m3]
  instanceTypes := #[.int, .char, (.object "com/example/nimble_needle/nimbleneedle/algorithm/CharSieve"), .boolean, .int, .boolean, .int, .int, .int, .long, .long, .long, .int, .boolean]
  staticTypes := #[.int, .int, .int, .int, .int, .int, .int, .int, .int, .int, .long, .long]
  resolved := Array.replicate 188 none
  statics := none }

def pool3 : Array CpInfo := pool [(1, .class_ 2), (0, u "java/lang/Math"), (1, .class_ 6), (1, u "java/lang/Object"), (0, u "<init>"), (0, u "()V"), (89, .class_ 100), (1, u "java/lang/Math$RandomNumberGeneratorHolder"), (71, u "negativeZeroFloatBits"), (0, u "J"), (2, u "negativeZeroDoubleBits"), (21, u "max"), (2, u "min"), (43, u "$assertionsDisabled"), (0, u "Z"), (88, u "(II)I"), (2, u "twoToTheDoubleScaleDown"), (0, u "D"), (4, u "twoToTheDoubleScaleUp"), (9, u "E"), (3, u "PI"), (2, u "TAU"), (2, u "DEGREES_TO_RADIANS"), (0, u "RADIANS_TO_DEGREES")] 94

def k3m0 : Method := { name := "<init>", desc := "()V", sig := { parameters := [], returnType := none }, accessFlags := 2, code := none }
def k3c1 : Code := { maxStack := 2, maxLocals := 2, code := jdk_29_method_65_code, exceptionTable := #[], attributes := #[] }
def k3m1 : Method := { name := "max", desc := "(II)I", sig := { parameters := [.int, .int], returnType := some .int }, accessFlags := 9, code := some k3c1 }
def k3c2 : Code := { maxStack := 2, maxLocals := 2, code := jdk_29_method_69_code, exceptionTable := #[], attributes := #[] }
def k3m2 : Method := { name := "min", desc := "(II)I", sig := { parameters := [.int, .int], returnType := some .int }, accessFlags := 9, code := some k3c2 }
/-- java/lang/Math -/
def k3 : Class := { plain "java/lang/Math" (some 0) with
  accessFlags := 49
  interfaces := #[]
  cf := some (fileOf pool3 1 #[.nestMembers #[98]] #[{ accessFlags := 2, nameIndex := 7, descriptorIndex := 8, attributes := #[] }, { accessFlags := 9, nameIndex := 198, descriptorIndex := 335, attributes := #[] }, { accessFlags := 9, nameIndex := 201, descriptorIndex := 335, attributes := #[] }] 49 4 #[] #[{ accessFlags := 25, nameIndex := 354, descriptorIndex := 339, attributes := #[] }, { accessFlags := 25, nameIndex := 358, descriptorIndex := 339, attributes := #[] }, { accessFlags := 25, nameIndex := 361, descriptorIndex := 339, attributes := #[] }, { accessFlags := 26, nameIndex := 364, descriptorIndex := 339, attributes := #[] }, { accessFlags := 26, nameIndex := 365, descriptorIndex := 339, attributes := #[] }, { accessFlags := 26, nameIndex := 172, descriptorIndex := 173, attributes := #[] }, { accessFlags := 26, nameIndex := 176, descriptorIndex := 173, attributes := #[] }, { accessFlags := 8, nameIndex := 344, descriptorIndex := 339, attributes := #[] }, { accessFlags := 8, nameIndex := 338, descriptorIndex := 339, attributes := #[] }, { accessFlags := 4120, nameIndex := 245, descriptorIndex := 246, attributes := #[] }])
  fields := #[{ name := "E", type := .double, accessFlags := 25, slot := 0, constantValue := 0 }, { name := "PI", type := .double, accessFlags := 25, slot := 1, constantValue := 0 }, { name := "TAU", type := .double, accessFlags := 25, slot := 2, constantValue := 0 }, { name := "DEGREES_TO_RADIANS", type := .double, accessFlags := 26, slot := 3, constantValue := 0 }, { name := "RADIANS_TO_DEGREES", type := .double, accessFlags := 26, slot := 4, constantValue := 0 }, { name := "negativeZeroFloatBits", type := .long, accessFlags := 26, slot := 5, constantValue := 0 }, { name := "negativeZeroDoubleBits", type := .long, accessFlags := 26, slot := 6, constantValue := 0 }, { name := "twoToTheDoubleScaleUp", type := .double, accessFlags := 8, slot := 7, constantValue := 0 }, { name := "twoToTheDoubleScaleDown", type := .double, accessFlags := 8, slot := 8, constantValue := 0 }, { name := "$assertionsDisabled", type := .boolean, accessFlags := 4120, slot := 9, constantValue := 0 }]
  methods := #[k3m0, k3m1, k3m2]
  instanceTypes := #[]
  staticTypes := #[.double, .double, .double, .double, .double, .long, .long, .double, .double, .boolean]
  resolved := Array.replicate 460 none
  statics := none }

def pool4 : Array CpInfo := pool [(1, u "java/lang/Cloneable"), (0, .class_ 1), (0, u "java/lang/Object"), (0, .class_ 3)] 3

/-- java/lang/Cloneable -/
def k4 : Class := { plain "java/lang/Cloneable" (some 0) with
  accessFlags := 1537
  interfaces := #[]
  cf := some (fileOf pool4 2 #[] #[] 1537 4 #[] #[])
  fields := #[]
  methods := #[]
  instanceTypes := #[]
  staticTypes := #[]
  resolved := Array.replicate 8 none
  statics := none }

def pool5 : Array CpInfo := pool [(1, u "java/io/Serializable"), (0, .class_ 1), (0, u "java/lang/Object"), (0, .class_ 3)] 3

/-- java/io/Serializable -/
def k5 : Class := { plain "java/io/Serializable" (some 0) with
  accessFlags := 1537
  interfaces := #[]
  cf := some (fileOf pool5 2 #[] #[] 1537 4 #[] #[])
  fields := #[]
  methods := #[]
  instanceTypes := #[]
  staticTypes := #[]
  resolved := Array.replicate 8 none
  statics := none }

/-- the primitive byte -/
def k6 : Class := { plain "byte" none with kind := .primitive 'B', accessFlags := 0x411 }
/-- [B -/
def k7 : Class := { plain "[B" (some 0) with kind := .array 6 .byte, interfaces := #[4, 5], accessFlags := 1041 }

/-- the primitive char -/
def k8 : Class := { plain "char" none with kind := .primitive 'C', accessFlags := 0x411 }
/-- [C -/
def k9 : Class := { plain "[C" (some 0) with kind := .array 8 .char, interfaces := #[4, 5], accessFlags := 1041 }

/-- the primitive int -/
def k10 : Class := { plain "int" none with kind := .primitive 'I', accessFlags := 0x411 }
/-- [I -/
def k11 : Class := { plain "[I" (some 0) with kind := .array 10 .int, interfaces := #[4, 5], accessFlags := 1041 }

def heap : Heap := #[]
def classes : Array Class := #[k0, k1, k2, k3, k4, k5, k6, k7, k8, k9, k10, k11]
def interned : List (Array UInt16 × Addr) := []
def slotsUsed : Nat := 0
def theMethod : MethodId := ⟨1, 1⟩
def args0 : Array Value := #[.int 5, .int 5, .int 5]
def aboutOver (below : List Frame) : State where
  vm := { classes := classes, interned := interned.toArray }
  heap := heap
  slotsUsed := slotsUsed
  threads := #[{ frames := .invoking theMethod args0 :: below }]
def below0 : List Frame := [.native { method := ⟨0, 0⟩, args := #[] }]
def about1 : State := aboutOver below0
def p0 : Program := .bare "" "" ""
def e0 : Env := launch0.env 0 0 0
theorem w_frames : about1.frames = Frame.invoking theMethod args0 :: below0 := rfl
set_option maxRecDepth 65536 in
theorem w_args : argsFit about1.vm theMethod args0 = true := by decide +kernel
set_option maxRecDepth 65536 in
theorem w_heap : heapFits about1 = true := by decide +kernel
set_option maxRecDepth 65536 in
theorem w_runnable : about1.curStatus? = some .runnable := by decide +kernel
set_option maxRecDepth 65536 in
theorem w_alone : about1.alone = true := by decide +kernel
set_option maxRecDepth 65536 in
theorem w_named : about1.methodNamed? x = some theMethod := by decide +kernel
set_option maxRecDepth 65536 in
theorem w_hears : about1.hears theMethod below0 = true := by decide +kernel
set_option maxRecDepth 65536 in
theorem w_ripe : about1.ripe theMethod args0 below0 = true := by decide +kernel
theorem w_running : about1.status = .running := rfl
set_option maxRecDepth 65536 in
theorem w_room : about1.hasRoom e0.platform room_1 = true :=
  launch0.hasRoom_least _ room_1 (by decide +kernel) (by decide +kernel) (by decide +kernel) (by decide +kernel) (by decide +kernel) (by decide +kernel)
theorem allAtoms_all (ts : List Jvm.Cond) (a : Array Jvm.Value) (st : Jvm.State) : (allAtoms ts).before a st = ts.all (fun c => c.before a st) := by
  induction ts with
  | nil => rfl
  | cons c t ih =>
    show (Jvm.Cond.and c (allAtoms t)).before a st = _
    rw [Jvm.Cond.before_and, ih, List.all_cons]
def words1 : List Jvm.Cond := Jvm.Cond.code x code maxLocals ret :: tables_1
/-- a 'code' word, met by the world's own term for the bytes: nothing is compared byte by byte -/
theorem code_word {y : MethodName} {bytes : ByteArray} {mx : Nat} {rt : Option FieldType} {a : Array Value} {s : State} {m : MethodId} {meth : Method} {c : Code} (h1 : s.methodNamed? y = some m) (h2 : s.vm.method? m = some meth) (h3 : meth.code = some c) (h4 : c.code = bytes)
    (h5 : (c.maxLocals == mx && c.exceptionTable.isEmpty && decide (c.maxStack ≤ mostOperands) && decide (meth.sig.returnType = rt) && !meth.locks && decide (parseMethodDescriptor y.desc = some meth.sig)) = true) : (Jvm.Cond.code y bytes mx rt).before a s = true := by
  simp only [Bool.and_eq_true, beq_iff_eq, Bool.not_eq_true', decide_eq_true_eq] at h5
  obtain ⟨⟨⟨⟨⟨g1, g2⟩, g3⟩, g4⟩, g5⟩, g6⟩ := h5
  simp [Cond.before, Cond.holds, Cond.value, h1, h2, h3, h4, g1, g2, g3, g4, g5, g6]
def isCode : Jvm.Cond → Bool
  | .code _ _ _ _ => true
  | _ => false
theorem all_split {L : List Jvm.Cond} {P : Jvm.Cond → Bool} (h1 : L.all (fun c => isCode c || P c) = true) (h2 : ∀ c ∈ L.filter isCode, P c = true) : L.all P = true := by
  refine List.all_eq_true.mpr fun c hc => ?_
  have h := List.all_eq_true.mp h1 c hc
  rcases Bool.eq_false_or_eq_true (isCode c) with hi | hi
  · exact h2 c (List.mem_filter.mpr ⟨hc, hi⟩)
  · simpa [hi] using h
set_option maxRecDepth 65536 in
theorem w_c0 : (Jvm.Cond.code x code maxLocals ret).before args0 about1 = true := code_word (m := ⟨1, 1⟩) (meth := k1m1) (c := k1c1) (by decide +kernel) rfl rfl rfl (by decide +kernel)
set_option maxRecDepth 65536 in
theorem w_c1 : (Jvm.Cond.code ({ cls := "com/example/nimble_needle/nimbleneedle/algorithm/WordSieveSearchesPinLaw", name := "pattern", desc := "(I)[C" } : Jvm.MethodName) method_3_code (1 : Nat) (Option.some (Jvm.ClassFile.FieldType.array Jvm.ClassFile.FieldType.char))).before args0 about1 = true := code_word (m := ⟨1, 2⟩) (meth := k1m2) (c := k1c2) (by decide +kernel) rfl rfl rfl (by decide +kernel)
set_option maxRecDepth 65536 in
theorem w_c2 : (Jvm.Cond.code ({ cls := "com/example/nimble_needle/nimbleneedle/algorithm/WordSieve", name := "<init>", desc := "([C[ILcom/example/nimble_needle/nimbleneedle/algorithm/CharSieve;Z)V" } : Jvm.MethodName) prog_30_method_1_code (5 : Nat) (Option.none : Option Jvm.ClassFile.FieldType)).before args0 about1 = true := code_word (m := ⟨2, 0⟩) (meth := k2m0) (c := k2c0) (by decide +kernel) rfl rfl rfl (by decide +kernel)
set_option maxRecDepth 65536 in
theorem w_c3 : (Jvm.Cond.code ({ cls := "com/example/nimble_needle/nimbleneedle/algorithm/WordSieve", name := "<init>", desc := "([C[ILcom/example/nimble_needle/nimbleneedle/algorithm/CharSieve;ZZ)V" } : Jvm.MethodName) prog_30_method_2_code (6 : Nat) (Option.none : Option Jvm.ClassFile.FieldType)).before args0 about1 = true := code_word (m := ⟨2, 1⟩) (meth := k2m1) (c := k2c1) (by decide +kernel) rfl rfl rfl (by decide +kernel)
set_option maxRecDepth 65536 in
theorem w_c4 : (Jvm.Cond.code ({ cls := "java/lang/Object", name := "<init>", desc := "()V" } : Jvm.MethodName) object_method_1_code (1 : Nat) (Option.none : Option Jvm.ClassFile.FieldType)).before args0 about1 = true := code_word (m := ⟨0, 0⟩) (meth := k0m0) (c := k0c0) (by decide +kernel) rfl rfl rfl (by decide +kernel)
set_option maxRecDepth 65536 in
theorem w_c5 : (Jvm.Cond.code ({ cls := "java/lang/Math", name := "min", desc := "(II)I" } : Jvm.MethodName) jdk_29_method_69_code (2 : Nat) (Option.some Jvm.ClassFile.FieldType.int)).before args0 about1 = true := code_word (m := ⟨3, 2⟩) (meth := k3m2) (c := k3c2) (by decide +kernel) rfl rfl rfl (by decide +kernel)
set_option maxRecDepth 65536 in
theorem w_c6 : (Jvm.Cond.code ({ cls := "com/example/nimble_needle/nimbleneedle/algorithm/WordSieve", name := "inEveryByte", desc := "(C)J" } : Jvm.MethodName) prog_30_method_7_code (1 : Nat) (Option.some Jvm.ClassFile.FieldType.long)).before args0 about1 = true := code_word (m := ⟨2, 2⟩) (meth := k2m2) (c := k2c2) (by decide +kernel) rfl rfl rfl (by decide +kernel)
set_option maxRecDepth 65536 in
theorem w_c7 : (Jvm.Cond.code ({ cls := "java/lang/Math", name := "max", desc := "(II)I" } : Jvm.MethodName) jdk_29_method_65_code (2 : Nat) (Option.some Jvm.ClassFile.FieldType.int)).before args0 about1 = true := code_word (m := ⟨3, 1⟩) (meth := k3m1) (c := k3c1) (by decide +kernel) rfl rfl rfl (by decide +kernel)
set_option maxRecDepth 65536 in
theorem w_c8 : (Jvm.Cond.code ({ cls := "com/example/nimble_needle/nimbleneedle/algorithm/WordSieve", name := "searches", desc := "(II)Z" } : Jvm.MethodName) prog_30_method_11_code (3 : Nat) (Option.some Jvm.ClassFile.FieldType.boolean)).before args0 about1 = true := code_word (m := ⟨2, 3⟩) (meth := k2m3) (c := k2c3) (by decide +kernel) rfl rfl rfl (by decide +kernel)
def codes1 : List Jvm.Cond := [Jvm.Cond.code x code maxLocals ret, Jvm.Cond.code ({ cls := "com/example/nimble_needle/nimbleneedle/algorithm/WordSieveSearchesPinLaw", name := "pattern", desc := "(I)[C" } : Jvm.MethodName) method_3_code (1 : Nat) (Option.some (Jvm.ClassFile.FieldType.array Jvm.ClassFile.FieldType.char)), Jvm.Cond.code ({ cls := "com/example/nimble_needle/nimbleneedle/algorithm/WordSieve", name := "<init>", desc := "([C[ILcom/example/nimble_needle/nimbleneedle/algorithm/CharSieve;Z)V" } : Jvm.MethodName) prog_30_method_1_code (5 : Nat) (Option.none : Option Jvm.ClassFile.FieldType), Jvm.Cond.code ({ cls := "com/example/nimble_needle/nimbleneedle/algorithm/WordSieve", name := "<init>", desc := "([C[ILcom/example/nimble_needle/nimbleneedle/algorithm/CharSieve;ZZ)V" } : Jvm.MethodName) prog_30_method_2_code (6 : Nat) (Option.none : Option Jvm.ClassFile.FieldType), Jvm.Cond.code ({ cls := "java/lang/Object", name := "<init>", desc := "()V" } : Jvm.MethodName) object_method_1_code (1 : Nat) (Option.none : Option Jvm.ClassFile.FieldType), Jvm.Cond.code ({ cls := "java/lang/Math", name := "min", desc := "(II)I" } : Jvm.MethodName) jdk_29_method_69_code (2 : Nat) (Option.some Jvm.ClassFile.FieldType.int), Jvm.Cond.code ({ cls := "com/example/nimble_needle/nimbleneedle/algorithm/WordSieve", name := "inEveryByte", desc := "(C)J" } : Jvm.MethodName) prog_30_method_7_code (1 : Nat) (Option.some Jvm.ClassFile.FieldType.long), Jvm.Cond.code ({ cls := "java/lang/Math", name := "max", desc := "(II)I" } : Jvm.MethodName) jdk_29_method_65_code (2 : Nat) (Option.some Jvm.ClassFile.FieldType.int), Jvm.Cond.code ({ cls := "com/example/nimble_needle/nimbleneedle/algorithm/WordSieve", name := "searches", desc := "(II)Z" } : Jvm.MethodName) prog_30_method_11_code (3 : Nat) (Option.some Jvm.ClassFile.FieldType.boolean)]
set_option maxRecDepth 65536 in
theorem codes_eq : words1.filter isCode = codes1 := rfl
theorem w_codes : ∀ c ∈ words1.filter isCode, c.before args0 about1 = true := by
  rw [codes_eq]
  intro c hc
  simp only [codes1, List.mem_cons, List.not_mem_nil, or_false] at hc
  rcases hc with rfl | rfl | rfl | rfl | rfl | rfl | rfl | rfl | rfl
  · exact w_c0
  · exact w_c1
  · exact w_c2
  · exact w_c3
  · exact w_c4
  · exact w_c5
  · exact w_c6
  · exact w_c7
  · exact w_c8
set_option maxRecDepth 65536 in
theorem w_t1 : (words1.take 24).all (fun c => isCode c || c.before args0 about1) = true := by decide +kernel
set_option maxRecDepth 65536 in
theorem w_t2 : ((words1.drop 24).take 24).all (fun c => isCode c || c.before args0 about1) = true := by decide +kernel
set_option maxRecDepth 65536 in
theorem w_t3 : ((words1.drop 24).drop 24).all (fun c => isCode c || c.before args0 about1) = true := by decide +kernel
theorem w_tables : (allAtoms (Jvm.Cond.code x code maxLocals ret :: tables_1)).before args0 about1 = true := by
  rw [allAtoms_all]
  show words1.all (fun c => c.before args0 about1) = true
  refine all_split ?_ w_codes
  rw [← List.take_append_drop 24 words1, List.all_append, w_t1, ← List.take_append_drop 24 (words1.drop 24), List.all_append, w_t2, w_t3]
  rfl
set_option maxRecDepth 65536 in
theorem w_case : (Jvm.Cond.and given_1 narrow_1).before args0 about1 = true := by decide +kernel
theorem w_applies : (headSpec (Jvm.Cond.code x code maxLocals ret :: tables_1) room_1).applies x e0.platform about1 = true :=
  (Spec.applies_iff w_frames).mpr ⟨w_running, w_runnable, w_alone, w_named, w_hears, w_ripe, w_room, w_tables⟩
theorem atStart : AtStart classFile x code maxLocals ret World_1 tables_1 room_1 Calls_1 rest_1 Pre_1 launch0 p0 e0 about1 theMethod args0 below0 :=
  ⟨lists_1, trivial, launch0.admits_env _ _ _, launch0.least_env, fairChoices_fair.cas, fairChoices_fair.clock, w_frames, w_args, w_heap, w_applies, trivial, trivial, w_case⟩
end start1
theorem witness_1 : WitnessClaimed_1 := ⟨start1.p0, start1.e0, start1.about1, start1.theMethod, start1.args0, start1.below0, start1.atStart⟩
end Jvm.Pilot.@@N@@
