import JvmDerived
import JvmDerived.Pilot.@@N@@Statement
import JvmDerived.Pilot.@@N@@Code
set_option linter.unusedVariables false
set_option linter.unusedSimpArgs false
namespace Jvm.RoadKit
open Sem ClassFile Op Lib Jvm.Stand Jvm.Free Jvm.LawKit
section New
variable {p : Program} {l : Launch} {e : Env} {R : Room} {s : State} {m : MethodId} {args : Array Value} {below : List Frame} {meth : Method} {c : Code} {T : State} {locs : List Loc} {cells slots : Nat}
theorem retI (X : Stand p l e R s m args below meth c T locs cells slots) (hx : p.tables.exec = Jvm.exec) {pc : Nat} {Ls : Array Slot} {z : Int32} {rest : List Value} (hret : meth.sig.returnType = some .int) (hd : decode c.code pc = .ok (.ireturn, 1)) {fs : List Frame}
    (hl : ∀ (f : JFrame) (acts : List Action), f.method = m → f.locked = none → f.entered = [] → (doReturn e (T.setTop f) acts (some (.int z))).1 = T.setFrames fs) : Steps p.tables e below (T.setTop (mkF m pc Ls (.int z :: rest))) (T.setFrames fs) := by
  have hm' : T.vm.method? m = some meth := X.method'
  have hn : narrow .int (.int z) = .int z := rfl
  show Steps p.tables e below (T.setTop { method := m, pc := pc, locals := Ls, stack := _ :: rest, locked := none }) _
  jvm_step X.here [X.here.top, hx, hd, hm', hret, hn]
  first | (intro acts; rw [hl _ acts rfl rfl rfl]) | rw [hl _ _ rfl rfl rfl]
  exact Steps.refl _
theorem own_lrem {target : State} (X : Stand p l e R s m args below meth c T locs cells slots) (hx : p.tables.exec = Jvm.exec) {g : JFrame} (hg : g.method = m) {x y : Int64} {rest : List Value} (hd : decode c.code g.pc = .ok (.lrem, 1)) (hs : g.stack = .long y :: .long x :: rest) (hy : y ≠ 0)
    (hr : Steps p.tables e below (T.setTop { g with pc := g.pc + 1, stack := .long (x % y) :: rest }) target) : Steps p.tables e below (T.setTop g) target :=
  XS.lrem X.here hx hg hd hs hy (by rw [lrem_mod]; exact hr)
theorem own_retJ (Y : Stand p l e R s m args below meth c T locs cells slots) (hexec : p.tables.exec = Jvm.exec) {pc : Nat} {Ls : Array Slot} {w : Int64} (hret : meth.sig.returnType = some .long)
    (hdg : decode c.code pc = .ok (.lreturn, 1)) {fs : List Frame} (hleave : ∀ (f : JFrame) (acts : List Action), f.method = m → f.locked = none → f.entered = [] → (doReturn e (T.setTop f) acts (some (.long w))).1 = T.setFrames fs) :
    Steps p.tables e below (T.setTop (mkF m pc Ls [.long w])) (T.setFrames fs) := Y.lreturnOut hexec hret hdg hleave
theorem own_retR (X : Stand p l e R s m args below meth c T locs cells slots) (hx : p.tables.exec = Jvm.exec) {pc : Nat} {Ls : Array Slot} {w : Value} {t : FieldType} {rest : List Value} (hret : meth.sig.returnType = some t) (hn : narrow t w = w) (ht : t.isReference = true) (hw : w.isRef = true)
    (hd : decode c.code pc = .ok (.areturn, 1)) {fs : List Frame} (hl : ∀ (f : JFrame) (acts : List Action), f.method = m → f.locked = none → f.entered = [] → (doReturn e (T.setTop f) acts (some w)).1 = T.setFrames fs) :
    Steps p.tables e below (T.setTop (mkF m pc Ls (w :: rest))) (T.setFrames fs) := retOut X hx hret hn (Or.inr (Or.inr (Or.inr (Or.inr ⟨rfl, ht, hw⟩)))) hd hl
theorem own_selP {Z : State} {A0 args' : Array Value} {y : MethodName} {k : Nat} (hZ : Z.Warmed39 s.vm) (wi : (Cond.instantiable y.cls k).before A0 Z = true) (wp : (Cond.privateMethod y).before A0 Z = true) (wn : (Cond.instanceMethod y).before A0 Z = true) (hy : y.cls ≠ "java/lang/invoke/MethodHandle" ∧ y.cls ≠ "java/lang/invoke/VarHandle") : (Cond.selects y.cls y y).before args' s = true := by
  obtain ⟨c, k', h1, h2, -, h4, -⟩ := Cond.instantiable_spec (mvT (args := args') hZ wi)
  exact selects_self_of_private h1 h2 (by simp only [Bool.or_eq_false_iff] at h4; exact h4.1) (Cond.privateMethod_at (mvP hZ wp (args := args'))) (mvT hZ wn) hy
theorem own_callSU (X : Stand p l e R s m args below meth c T locs cells slots) (hexec : p.tables.exec = Jvm.exec) {own owner : String} {index : Nat} {x : MethodName} {bytes : ByteArray} {maxL : Nat} {ret : Option FieldType}
    (hown : s.vm.findClass own = some m.cls) (hlink : (Cond.methodLink own index x).before args s = true) (hsame : (Cond.sameMethod x.cls owner x.name x.desc).before args s = true)
    (hstat : (Cond.static ⟨owner, x.name, x.desc⟩).before args s = true) (hinit : (Cond.initialized owner).before args s = true) (hcode : (Cond.code ⟨owner, x.name, x.desc⟩ bytes maxL ret).before args s = true)
    (howner : owner ≠ "java/lang/invoke/MethodHandle" ∧ owner ≠ "java/lang/invoke/VarHandle")
    {W : Nat} {Pre : Pt → Array Value → Prop} {Post : Pt → Array Value → Option Value → Pt → Prop} (hK : Back l R p e below s args ⟨owner, x.name, x.desc⟩ 3 W Pre Post)
    {g : JFrame} (hg : g.method = m) (hsize : g.locals.size = c.maxLocals) {argsL rest : List Value} (hlen : ∀ sig, parseMethodDescriptor x.desc = some sig → argsL.length = sig.parameters.length)
    (hstack : g.stack = argsL.reverse ++ rest) (hW : 2 * g.monitorRoom + (rest.map fun v => v.category).sum ≤ W) (hdg : decode c.code g.pc = .ok (.invokestatic index, 3))
    (hpre : ∀ vm₁, s.WarmedH vm₁ → Pre ⟨T.setVm vm₁, locs, cells, slots⟩ argsL.toArray) :
    ∃ (v : Option Value) (vm₁ : Vm) (B : Pt), s.WarmedH vm₁ ∧ Stand p l e R s m args below meth c B.U B.locs B.cells B.slots ∧ Post ⟨T.setVm vm₁, locs, cells, slots⟩ argsL.toArray v B ∧
      ∀ target, Steps p.tables e below (B.U.setTop { g with pc := g.pc + 3, stack := v.toList ++ rest }) target → Steps p.tables e below (T.setTop g) target := by
  obtain ⟨mk, hnamed⟩ := Cond.code_named hcode
  obtain ⟨methM, cM, hmethM, -, -, -, -, -, -, hsigM⟩ := Cond.code_spec hnamed hcode
  obtain ⟨v, vm₁, B, hW₁, X', hpost, st⟩ := X.staticBackUp hexec hown hlink hsame hstat hinit hnamed hmethM hsigM howner hK hg hsize (Steps.refl _) hlen hstack hW hdg hpre
  exact ⟨v, vm₁, B, hW₁, X', hpost, fun t k => st.trans k⟩
theorem own_via {tb : Tables} {s0 target : State} (s' : State) (h : Steps tb e below s' target → Steps tb e below s0 target) (k : Steps tb e below s' target) : Steps tb e below s0 target := h k
end New
end Jvm.RoadKit
namespace Jvm.Pilot.@@N@@
open Jvm Jvm.ClassFile Sem Op Lib Jvm.Free Jvm.Stand Jvm.LawKit Jvm.RoadKit Bundle Jvm.Pilot.@@N@@.Jvm.D
theorem own_z32 : (0 : Int32).toInt = 0 := by decide
theorem own_gt0 {z : Int32} (h : 0 < z.toInt ∧ z.toInt < 256) : (0 : Int32) < z := by rw [Int32.lt_iff_toInt_lt, own_z32]; exact h.1
theorem own_lt64 {z : Int32} (h : 0 < z.toInt ∧ z.toInt < 256) : z < (65536 : Int32) := by
  have e : (65536 : Int32).toInt = 65536 := by decide
  rw [Int32.lt_iff_toInt_lt, e]; omega
theorem own_lt256 {z : Int32} (h : 0 < z.toInt ∧ z.toInt < 256) : z < (256 : Int32) := by
  have e : (256 : Int32).toInt = 256 := by decide
  rw [Int32.lt_iff_toInt_lt, e]; exact h.2
theorem own_nneg {z : Int32} (h : 0 ≤ z.toInt) : ¬ (z < 0) := by rw [Int32.lt_iff_toInt_lt, own_z32]; omega
theorem own_tn (z : Int32) : z.toNatClampNeg = z.toInt.toNat := rfl
theorem own_min {a b cn : Int32} (h : a.toInt ≤ b.toInt) (hc : cn = (if b < a then b else a)) : cn = a := by
  rw [hc, if_neg (by rw [Int32.lt_iff_toInt_lt]; omega)]
def own_copy (vs : List Value) (n m : Nat) : List Value := (List.replicate m (.int (0 : Int32))).take 0 ++ ((List.range n).map fun i => vs.getD (0 + i) (.int (0 : Int32))) ++ (List.replicate m (.int (0 : Int32))).drop (0 + n)

theorem d14_0 : decode jdk_29_method_65_code 0 = .ok (.iload_n 0, 1) := by decide +kernel
theorem d14_1 : decode jdk_29_method_65_code 1 = .ok (.iload_n 1, 1) := by decide +kernel
theorem d14_2 : decode jdk_29_method_65_code 2 = .ok (.if_icmp .lt 7, 3) := by decide +kernel
theorem d14_5 : decode jdk_29_method_65_code 5 = .ok (.iload_n 0, 1) := by decide +kernel
theorem d14_6 : decode jdk_29_method_65_code 6 = .ok (.goto 4, 3) := by decide +kernel
theorem d14_9 : decode jdk_29_method_65_code 9 = .ok (.iload_n 1, 1) := by decide +kernel
theorem d14_10 : decode jdk_29_method_65_code 10 = .ok (.ireturn, 1) := by decide +kernel
theorem ef_rm14 (m : MethodId) (p0 : Int32) (p1 : Int32) : entryFrame m #[(.int p0), (.int p1)] 2 = mkF m 0 #[.val (.int p0), .val (.int p1)] [] := by first | (simp [entryFrame, mkF, argsToLocals, Value.category]; done) | rfl
def Qrm14 (Z : State) (p0 : Int32) (p1 : Int32) (h0 : Heap) (n0 : Nat) (v : Option Value) (h : Heap) (L : List Loc) : Prop := v = some (.int (if p0 < p1 then p1 else p0)) ∧ Fr n0 L ∧ h = h0
set_option maxRecDepth 65536 in
set_option maxHeartbeats 40000000 in
theorem rm14 (l : Launch) (Z : State) (A0 : Array Value) (hw : ∀ d ∈ tables_1, d.before A0 Z = true) (ws : List Jvm.Cond) (p0 : Int32) (p1 : Int32) (h0 : Heap) (n0 : Nat) (Z0 : n0 ≤ h0.size) :
    MetFree l (⟨"java/lang/Math", "max", "(II)I"⟩ : MethodName) (head1 (Jvm.Cond.code (⟨"java/lang/Math", "max", "(II)I"⟩ : MethodName) jdk_29_method_65_code 2 (some .int) :: ws) ({ frames := 0, cells := 0, slots := 0, locals := 0 } : Room)) (fun a U => a = #[(.int p0), (.int p1)] ∧ Z.Warmed39 U.vm ∧ U.heap = h0) (fun _ _ _ _ _ => True) (fun _ U o U' => ∃ v L, o = .returned v ∧ Qrm14 Z p0 p1 h0 n0 v U'.heap L ∧ FrameEnd U o U' L ({ frames := 0, cells := 0, slots := 0, locals := 0 } : Room).cells ({ frames := 0, cells := 0, slots := 0, locals := 0 } : Room).slots) := by
  refine MetFree.of_bodySF (Jvm.Free.JP.mathPlain rfl (by decide +kernel)) hisR ?_
  intro p e s m args below meth c s₁ Bd hml0 hP hK
  obtain ⟨rfl, hZ, hh⟩ := hP
  have hx := Bd.exec
  have hby := Bd.bytes
  have hml : c.maxLocals = 2 := hml0
  have hown : s.vm.findClass "java/lang/Math" = some m.cls := findClass_of_methodNamed Bd.named
  have hnm := (name_of_methodNamed Bd.named Bd.method).1
  have X0 : Stand p l e ({ frames := 0, cells := 0, slots := 0, locals := 0 } : Room) s m #[(.int p0), (.int p1)] below meth c s₁ [] 0 0 := Stand.of_body Bd
  have e0 : s₁.heap = h0 := by rw [← hh, Bd.state]; rfl
  have N0 := Fr.nil n0
  have K0 : Keep h0 h0 [] := Keep.refl _ _
  have pre0 : ∀ t, Steps p.tables e below (s₁.setTop (mkF m 0 #[.val (.int p0), .val (.int p1)] [])) t → Steps p.tables e below (s₁.setTop (entryFrame m #[(.int p0), (.int p1)] 2)) t := fun t k => castTop (ef_rm14 m p0 p1) k
  obtain ⟨fs, hr, hrun, hended, hW, hsame⟩ := X0.leave (v := some (.int (if p0 < p1 then p1 else p0))) (fun h => by rw [Bd.returns] at h; cases h)
  refine ⟨_, _, pre0 _ ?_, hrun, hended, _, _, rfl, ?_, ⟨_, rfl⟩, hW, hsame.mono (by decide) (by decide)⟩
  · show Steps p.tables e below (s₁.setTop (mkF m 0 #[.val (.int p0), .val (.int p1)] [])) _
    refine XS.iloadN X0.here hx rfl (hb hby d14_0) rfl ?_
    show Steps p.tables e below (s₁.setTop (mkF m 1 #[.val (.int p0), .val (.int p1)] [(.int p0)])) _
    refine XS.iloadN X0.here hx rfl (hb hby d14_1) rfl ?_
    refine own_via (s₁.setTop (mkF m 10 #[.val (.int p0), .val (.int p1)] [(.int (if p0 < p1 then p1 else p0))])) (fun k => ?_) ?_
    · by_cases hc2 : p0 < p1
      · show Steps p.tables e below (s₁.setTop (mkF m 2 #[.val (.int p0), .val (.int p1)] [(.int p1), (.int p0)])) _
        refine XS.icmpYes X0.here hx rfl (pc0 := 2) (pc' := 9) rfl (hb hby d14_2) rfl (tlt hc2).1 (by decide) (by decide) ?_
        show Steps p.tables e below (s₁.setTop (mkF m 9 #[.val (.int p0), .val (.int p1)] [])) _
        refine XS.iloadN X0.here hx rfl (hb hby d14_9) rfl ?_
        try simp only [if_pos hc2] at k
        exact k
      · show Steps p.tables e below (s₁.setTop (mkF m 2 #[.val (.int p0), .val (.int p1)] [(.int p1), (.int p0)])) _
        refine XS.icmpNo X0.here hx rfl (hb hby d14_2) rfl (flt hc2).1 ?_
        show Steps p.tables e below (s₁.setTop (mkF m 5 #[.val (.int p0), .val (.int p1)] [])) _
        refine XS.iloadN X0.here hx rfl (hb hby d14_5) rfl ?_
        show Steps p.tables e below (s₁.setTop (mkF m 6 #[.val (.int p0), .val (.int p1)] [(.int p0)])) _
        refine XS.goto X0.here hx rfl (pc0 := 6) (pc' := 10) rfl (hb hby d14_6) (by decide) (by decide) ?_
        try simp only [if_neg hc2] at k
        exact k
    show Steps p.tables e below (s₁.setTop (mkF m 10 #[.val (.int p0), .val (.int p1)] [(.int (if p0 < p1 then p1 else p0))])) _
    exact retI X0 hx Bd.returns (hb hby d14_10) hr
  · show Qrm14 Z p0 p1 h0 n0 _ s₁.heap _
    rw [e0]
    exact ⟨rfl, N0, rfl⟩
theorem d15_0 : decode jdk_29_method_69_code 0 = .ok (.iload_n 0, 1) := by decide +kernel
theorem d15_1 : decode jdk_29_method_69_code 1 = .ok (.iload_n 1, 1) := by decide +kernel
theorem d15_2 : decode jdk_29_method_69_code 2 = .ok (.if_icmp .gt 7, 3) := by decide +kernel
theorem d15_5 : decode jdk_29_method_69_code 5 = .ok (.iload_n 0, 1) := by decide +kernel
theorem d15_6 : decode jdk_29_method_69_code 6 = .ok (.goto 4, 3) := by decide +kernel
theorem d15_9 : decode jdk_29_method_69_code 9 = .ok (.iload_n 1, 1) := by decide +kernel
theorem d15_10 : decode jdk_29_method_69_code 10 = .ok (.ireturn, 1) := by decide +kernel
theorem ef_rm15 (m : MethodId) (p0 : Int32) (p1 : Int32) : entryFrame m #[(.int p0), (.int p1)] 2 = mkF m 0 #[.val (.int p0), .val (.int p1)] [] := by first | (simp [entryFrame, mkF, argsToLocals, Value.category]; done) | rfl
def Qrm15 (Z : State) (p0 : Int32) (p1 : Int32) (h0 : Heap) (n0 : Nat) (v : Option Value) (h : Heap) (L : List Loc) : Prop := v = some (.int (if p1 < p0 then p1 else p0)) ∧ Fr n0 L ∧ h = h0
set_option maxRecDepth 65536 in
set_option maxHeartbeats 40000000 in
theorem rm15 (l : Launch) (Z : State) (A0 : Array Value) (hw : ∀ d ∈ tables_1, d.before A0 Z = true) (ws : List Jvm.Cond) (p0 : Int32) (p1 : Int32) (h0 : Heap) (n0 : Nat) (Z0 : n0 ≤ h0.size) :
    MetFree l (⟨"java/lang/Math", "min", "(II)I"⟩ : MethodName) (head1 (Jvm.Cond.code (⟨"java/lang/Math", "min", "(II)I"⟩ : MethodName) jdk_29_method_69_code 2 (some .int) :: ws) ({ frames := 0, cells := 0, slots := 0, locals := 0 } : Room)) (fun a U => a = #[(.int p0), (.int p1)] ∧ Z.Warmed39 U.vm ∧ U.heap = h0) (fun _ _ _ _ _ => True) (fun _ U o U' => ∃ v L, o = .returned v ∧ Qrm15 Z p0 p1 h0 n0 v U'.heap L ∧ FrameEnd U o U' L ({ frames := 0, cells := 0, slots := 0, locals := 0 } : Room).cells ({ frames := 0, cells := 0, slots := 0, locals := 0 } : Room).slots) := by
  refine MetFree.of_bodySF (Jvm.Free.JP.mathPlain rfl (by decide +kernel)) hisR ?_
  intro p e s m args below meth c s₁ Bd hml0 hP hK
  obtain ⟨rfl, hZ, hh⟩ := hP
  have hx := Bd.exec
  have hby := Bd.bytes
  have hml : c.maxLocals = 2 := hml0
  have hown : s.vm.findClass "java/lang/Math" = some m.cls := findClass_of_methodNamed Bd.named
  have hnm := (name_of_methodNamed Bd.named Bd.method).1
  have X0 : Stand p l e ({ frames := 0, cells := 0, slots := 0, locals := 0 } : Room) s m #[(.int p0), (.int p1)] below meth c s₁ [] 0 0 := Stand.of_body Bd
  have e0 : s₁.heap = h0 := by rw [← hh, Bd.state]; rfl
  have N0 := Fr.nil n0
  have K0 : Keep h0 h0 [] := Keep.refl _ _
  have pre0 : ∀ t, Steps p.tables e below (s₁.setTop (mkF m 0 #[.val (.int p0), .val (.int p1)] [])) t → Steps p.tables e below (s₁.setTop (entryFrame m #[(.int p0), (.int p1)] 2)) t := fun t k => castTop (ef_rm15 m p0 p1) k
  obtain ⟨fs, hr, hrun, hended, hW, hsame⟩ := X0.leave (v := some (.int (if p1 < p0 then p1 else p0))) (fun h => by rw [Bd.returns] at h; cases h)
  refine ⟨_, _, pre0 _ ?_, hrun, hended, _, _, rfl, ?_, ⟨_, rfl⟩, hW, hsame.mono (by decide) (by decide)⟩
  · show Steps p.tables e below (s₁.setTop (mkF m 0 #[.val (.int p0), .val (.int p1)] [])) _
    refine XS.iloadN X0.here hx rfl (hb hby d15_0) rfl ?_
    show Steps p.tables e below (s₁.setTop (mkF m 1 #[.val (.int p0), .val (.int p1)] [(.int p0)])) _
    refine XS.iloadN X0.here hx rfl (hb hby d15_1) rfl ?_
    refine own_via (s₁.setTop (mkF m 10 #[.val (.int p0), .val (.int p1)] [(.int (if p1 < p0 then p1 else p0))])) (fun k => ?_) ?_
    · by_cases hc2 : p1 < p0
      · show Steps p.tables e below (s₁.setTop (mkF m 2 #[.val (.int p0), .val (.int p1)] [(.int p1), (.int p0)])) _
        refine XS.icmpYes X0.here hx rfl (pc0 := 2) (pc' := 9) rfl (hb hby d15_2) rfl (tlt hc2).2.2.1 (by decide) (by decide) ?_
        show Steps p.tables e below (s₁.setTop (mkF m 9 #[.val (.int p0), .val (.int p1)] [])) _
        refine XS.iloadN X0.here hx rfl (hb hby d15_9) rfl ?_
        try simp only [if_pos hc2] at k
        exact k
      · show Steps p.tables e below (s₁.setTop (mkF m 2 #[.val (.int p0), .val (.int p1)] [(.int p1), (.int p0)])) _
        refine XS.icmpNo X0.here hx rfl (hb hby d15_2) rfl (flt hc2).2.2.1 ?_
        show Steps p.tables e below (s₁.setTop (mkF m 5 #[.val (.int p0), .val (.int p1)] [])) _
        refine XS.iloadN X0.here hx rfl (hb hby d15_5) rfl ?_
        show Steps p.tables e below (s₁.setTop (mkF m 6 #[.val (.int p0), .val (.int p1)] [(.int p0)])) _
        refine XS.goto X0.here hx rfl (pc0 := 6) (pc' := 10) rfl (hb hby d15_6) (by decide) (by decide) ?_
        try simp only [if_neg hc2] at k
        exact k
    show Steps p.tables e below (s₁.setTop (mkF m 10 #[.val (.int p0), .val (.int p1)] [(.int (if p1 < p0 then p1 else p0))])) _
    exact retI X0 hx Bd.returns (hb hby d15_10) hr
  · show Qrm15 Z p0 p1 h0 n0 _ s₁.heap _
    rw [e0]
    exact ⟨rfl, N0, rfl⟩
def own_nlz (p0 : Int32) : Int32 := ((if (if p0 < (16 : Int32) then p0 else ((p0.toUInt32 >>> ((4 : Int32) &&& 31).toUInt32).toInt32)) < (4 : Int32) then (if p0 < (16 : Int32) then (31 : Int32) else ((31 : Int32) + (-4 : Int32))) else ((if p0 < (16 : Int32) then (31 : Int32) else ((31 : Int32) + (-4 : Int32))) + (-2 : Int32))) - (((if (if p0 < (16 : Int32) then p0 else ((p0.toUInt32 >>> ((4 : Int32) &&& 31).toUInt32).toInt32)) < (4 : Int32) then (if p0 < (16 : Int32) then p0 else ((p0.toUInt32 >>> ((4 : Int32) &&& 31).toUInt32).toInt32)) else (((if p0 < (16 : Int32) then p0 else ((p0.toUInt32 >>> ((4 : Int32) &&& 31).toUInt32).toInt32)).toUInt32 >>> ((2 : Int32) &&& 31).toUInt32).toInt32)).toUInt32 >>> ((1 : Int32) &&& 31).toUInt32).toInt32))
theorem d13_0 : decode jdk_33_method_47_code 0 = .ok (.iload_n 0, 1) := by decide +kernel
theorem d13_1 : decode jdk_33_method_47_code 1 = .ok (.ifCond .gt 14, 3) := by decide +kernel
theorem d13_15 : decode jdk_33_method_47_code 15 = .ok (.bipush 31, 2) := by decide +kernel
theorem d13_17 : decode jdk_33_method_47_code 17 = .ok (.istore_n 1, 1) := by decide +kernel
theorem d13_18 : decode jdk_33_method_47_code 18 = .ok (.iload_n 0, 1) := by decide +kernel
theorem d13_19 : decode jdk_33_method_47_code 19 = .ok (.ldc_w 264, 3) := by decide +kernel
theorem d13_22 : decode jdk_33_method_47_code 22 = .ok (.if_icmp .lt 11, 3) := by decide +kernel
theorem d13_33 : decode jdk_33_method_47_code 33 = .ok (.iload_n 0, 1) := by decide +kernel
theorem d13_34 : decode jdk_33_method_47_code 34 = .ok (.sipush 256, 3) := by decide +kernel
theorem d13_37 : decode jdk_33_method_47_code 37 = .ok (.if_icmp .lt 11, 3) := by decide +kernel
theorem d13_48 : decode jdk_33_method_47_code 48 = .ok (.iload_n 0, 1) := by decide +kernel
theorem d13_49 : decode jdk_33_method_47_code 49 = .ok (.bipush 16, 2) := by decide +kernel
theorem d13_51 : decode jdk_33_method_47_code 51 = .ok (.if_icmp .lt 10, 3) := by decide +kernel
theorem d13_54 : decode jdk_33_method_47_code 54 = .ok (.iinc 1 (-4), 3) := by decide +kernel
theorem d13_57 : decode jdk_33_method_47_code 57 = .ok (.iload_n 0, 1) := by decide +kernel
theorem d13_58 : decode jdk_33_method_47_code 58 = .ok (.iconst 4, 1) := by decide +kernel
theorem d13_59 : decode jdk_33_method_47_code 59 = .ok (.iushr, 1) := by decide +kernel
theorem d13_60 : decode jdk_33_method_47_code 60 = .ok (.istore_n 0, 1) := by decide +kernel
theorem d13_61 : decode jdk_33_method_47_code 61 = .ok (.iload_n 0, 1) := by decide +kernel
theorem d13_62 : decode jdk_33_method_47_code 62 = .ok (.iconst 4, 1) := by decide +kernel
theorem d13_63 : decode jdk_33_method_47_code 63 = .ok (.if_icmp .lt 10, 3) := by decide +kernel
theorem d13_66 : decode jdk_33_method_47_code 66 = .ok (.iinc 1 (-2), 3) := by decide +kernel
theorem d13_69 : decode jdk_33_method_47_code 69 = .ok (.iload_n 0, 1) := by decide +kernel
theorem d13_70 : decode jdk_33_method_47_code 70 = .ok (.iconst 2, 1) := by decide +kernel
theorem d13_71 : decode jdk_33_method_47_code 71 = .ok (.iushr, 1) := by decide +kernel
theorem d13_72 : decode jdk_33_method_47_code 72 = .ok (.istore_n 0, 1) := by decide +kernel
theorem d13_73 : decode jdk_33_method_47_code 73 = .ok (.iload_n 1, 1) := by decide +kernel
theorem d13_74 : decode jdk_33_method_47_code 74 = .ok (.iload_n 0, 1) := by decide +kernel
theorem d13_75 : decode jdk_33_method_47_code 75 = .ok (.iconst 1, 1) := by decide +kernel
theorem d13_76 : decode jdk_33_method_47_code 76 = .ok (.iushr, 1) := by decide +kernel
theorem d13_77 : decode jdk_33_method_47_code 77 = .ok (.isub, 1) := by decide +kernel
theorem d13_78 : decode jdk_33_method_47_code 78 = .ok (.ireturn, 1) := by decide +kernel
theorem pn_13 : plainName "java/lang/Integer" = true := by first | (simp [plainName, overriddenIn]; done) | decide +kernel
theorem ef_rm13 (m : MethodId) (p0 : Int32) : entryFrame m #[(.int p0)] 2 = mkF m 0 #[.val (.int p0), .unset] [] := by first | (simp [entryFrame, mkF, argsToLocals, Value.category]; done) | rfl
def Qrm13 (Z : State) (p0 : Int32) (h0 : Heap) (n0 : Nat) (v : Option Value) (h : Heap) (L : List Loc) : Prop := v = some (.int (own_nlz p0)) ∧ Fr n0 L ∧ h = h0
set_option maxRecDepth 65536 in
set_option maxHeartbeats 40000000 in
theorem rm13 (l : Launch) (Z : State) (A0 : Array Value) (hw : ∀ d ∈ tables_1, d.before A0 Z = true) (ws : List Jvm.Cond) (p0 : Int32) (h0 : Heap) (n0 : Nat) (Z0 : n0 ≤ h0.size) (hs : 0 < p0.toInt ∧ p0.toInt < 256) :
    MetFree l (⟨"java/lang/Integer", "numberOfLeadingZeros", "(I)I"⟩ : MethodName) (head1 (Jvm.Cond.code (⟨"java/lang/Integer", "numberOfLeadingZeros", "(I)I"⟩ : MethodName) jdk_33_method_47_code 2 (some .int) :: ws) ({ frames := 0, cells := 0, slots := 0, locals := 0 } : Room)) (fun a U => a = #[(.int p0)] ∧ Z.Warmed39 U.vm ∧ U.heap = h0) (fun _ _ _ _ _ => True) (fun _ U o U' => ∃ v L, o = .returned v ∧ Qrm13 Z p0 h0 n0 v U'.heap L ∧ FrameEnd U o U' L ({ frames := 0, cells := 0, slots := 0, locals := 0 } : Room).cells ({ frames := 0, cells := 0, slots := 0, locals := 0 } : Room).slots) := by
  refine MetFree.of_bodySF (plainFor_of_name pn_13) hisR ?_
  intro p e s m args below meth c s₁ Bd hml0 hP hK
  obtain ⟨rfl, hZ, hh⟩ := hP
  have hx := Bd.exec
  have hby := Bd.bytes
  have hml : c.maxLocals = 2 := hml0
  have hown : s.vm.findClass "java/lang/Integer" = some m.cls := findClass_of_methodNamed Bd.named
  have hnm := (name_of_methodNamed Bd.named Bd.method).1
  have X0 : Stand p l e ({ frames := 0, cells := 0, slots := 0, locals := 0 } : Room) s m #[(.int p0)] below meth c s₁ [] 0 0 := Stand.of_body Bd
  have e0 : s₁.heap = h0 := by rw [← hh, Bd.state]; rfl
  have N0 := Fr.nil n0
  have K0 : Keep h0 h0 [] := Keep.refl _ _
  have pre0 : ∀ t, Steps p.tables e below (s₁.setTop (mkF m 0 #[.val (.int p0), .unset] [])) t → Steps p.tables e below (s₁.setTop (entryFrame m #[(.int p0)] 2)) t := fun t k => castTop (ef_rm13 m p0) k
  obtain ⟨fs, hr, hrun, hended, hW, hsame⟩ := X0.leave (v := some (.int ((if (if p0 < (16 : Int32) then p0 else ((p0.toUInt32 >>> ((4 : Int32) &&& 31).toUInt32).toInt32)) < (4 : Int32) then (if p0 < (16 : Int32) then (31 : Int32) else ((31 : Int32) + (-4 : Int32))) else ((if p0 < (16 : Int32) then (31 : Int32) else ((31 : Int32) + (-4 : Int32))) + (-2 : Int32))) - (((if (if p0 < (16 : Int32) then p0 else ((p0.toUInt32 >>> ((4 : Int32) &&& 31).toUInt32).toInt32)) < (4 : Int32) then (if p0 < (16 : Int32) then p0 else ((p0.toUInt32 >>> ((4 : Int32) &&& 31).toUInt32).toInt32)) else (((if p0 < (16 : Int32) then p0 else ((p0.toUInt32 >>> ((4 : Int32) &&& 31).toUInt32).toInt32)).toUInt32 >>> ((2 : Int32) &&& 31).toUInt32).toInt32)).toUInt32 >>> ((1 : Int32) &&& 31).toUInt32).toInt32)))) (fun h => by rw [Bd.returns] at h; cases h)
  refine ⟨_, _, pre0 _ ?_, hrun, hended, _, _, rfl, ?_, ⟨_, rfl⟩, hW, hsame.mono (by decide) (by decide)⟩
  · show Steps p.tables e below (s₁.setTop (mkF m 0 #[.val (.int p0), .unset] [])) _
    refine XS.iloadN X0.here hx rfl (hb hby d13_0) rfl ?_
    show Steps p.tables e below (s₁.setTop (mkF m 1 #[.val (.int p0), .unset] [(.int p0)])) _
    refine XS.ifYes X0.here hx rfl (pc0 := 1) (pc' := 15) rfl (hb hby d13_1) rfl ((if0 _ _).trans (tlt (own_gt0 hs : (0 : Int32) < p0)).2.2.1) (by decide) (by decide) ?_
    show Steps p.tables e below (s₁.setTop (mkF m 15 #[.val (.int p0), .unset] [])) _
    refine XS.bipush X0.here hx rfl (hb hby d13_15) ?_
    show Steps p.tables e below (s₁.setTop (mkF m 17 #[.val (.int p0), .unset] [(.int (31 : Int32))])) _
    refine XS.istoreN X0.here hx rfl (hb hby d13_17) rfl (l' := #[.val (.int p0), .val (.int (31 : Int32))]) rfl ?_
    show Steps p.tables e below (s₁.setTop (mkF m 18 #[.val (.int p0), .val (.int (31 : Int32))] [])) _
    refine XS.iloadN X0.here hx rfl (hb hby d13_18) rfl ?_
    show Steps p.tables e below (s₁.setTop (mkF m 19 #[.val (.int p0), .val (.int (31 : Int32))] [(.int p0)])) _
    refine X0.ldcwInt hx hown (mvT hZ (hw _ (List.mem_of_getElem? (i := 71) rfl))) (g := (mkF m 19 #[.val (.int p0), .val (.int (31 : Int32))] [(.int p0)])) rfl (hb hby d13_19) _ ?_
    show Steps p.tables e below (s₁.setTop (mkF m 22 #[.val (.int p0), .val (.int (31 : Int32))] [(.int (65536 : Int32)), (.int p0)])) _
    refine XS.icmpYes X0.here hx rfl (pc0 := 22) (pc' := 33) rfl (hb hby d13_22) rfl (tlt (own_lt64 hs : p0 < (65536 : Int32))).1 (by decide) (by decide) ?_
    show Steps p.tables e below (s₁.setTop (mkF m 33 #[.val (.int p0), .val (.int (31 : Int32))] [])) _
    refine XS.iloadN X0.here hx rfl (hb hby d13_33) rfl ?_
    show Steps p.tables e below (s₁.setTop (mkF m 34 #[.val (.int p0), .val (.int (31 : Int32))] [(.int p0)])) _
    refine XS.sipush X0.here hx rfl (hb hby d13_34) ?_
    show Steps p.tables e below (s₁.setTop (mkF m 37 #[.val (.int p0), .val (.int (31 : Int32))] [(.int (256 : Int32)), (.int p0)])) _
    refine XS.icmpYes X0.here hx rfl (pc0 := 37) (pc' := 48) rfl (hb hby d13_37) rfl (tlt (own_lt256 hs : p0 < (256 : Int32))).1 (by decide) (by decide) ?_
    show Steps p.tables e below (s₁.setTop (mkF m 48 #[.val (.int p0), .val (.int (31 : Int32))] [])) _
    refine XS.iloadN X0.here hx rfl (hb hby d13_48) rfl ?_
    show Steps p.tables e below (s₁.setTop (mkF m 49 #[.val (.int p0), .val (.int (31 : Int32))] [(.int p0)])) _
    refine XS.bipush X0.here hx rfl (hb hby d13_49) ?_
    refine own_via (s₁.setTop (mkF m 61 #[.val (.int (if p0 < (16 : Int32) then p0 else ((p0.toUInt32 >>> ((4 : Int32) &&& 31).toUInt32).toInt32))), .val (.int (if p0 < (16 : Int32) then (31 : Int32) else ((31 : Int32) + (-4 : Int32))))] [])) (fun k => ?_) ?_
    · by_cases hc51 : p0 < (16 : Int32)
      · show Steps p.tables e below (s₁.setTop (mkF m 51 #[.val (.int p0), .val (.int (31 : Int32))] [(.int (16 : Int32)), (.int p0)])) _
        refine XS.icmpYes X0.here hx rfl (pc0 := 51) (pc' := 61) rfl (hb hby d13_51) rfl (tlt hc51).1 (by decide) (by decide) ?_
        try simp only [if_pos hc51] at k
        exact k
      · show Steps p.tables e below (s₁.setTop (mkF m 51 #[.val (.int p0), .val (.int (31 : Int32))] [(.int (16 : Int32)), (.int p0)])) _
        refine XS.icmpNo X0.here hx rfl (hb hby d13_51) rfl (flt hc51).1 ?_
        show Steps p.tables e below (s₁.setTop (mkF m 54 #[.val (.int p0), .val (.int (31 : Int32))] [])) _
        refine XS.iinc X0.here hx rfl (hb hby d13_54) rfl (l' := #[.val (.int p0), .val (.int ((31 : Int32) + (-4 : Int32)))]) rfl ?_
        show Steps p.tables e below (s₁.setTop (mkF m 57 #[.val (.int p0), .val (.int ((31 : Int32) + (-4 : Int32)))] [])) _
        refine XS.iloadN X0.here hx rfl (hb hby d13_57) rfl ?_
        show Steps p.tables e below (s₁.setTop (mkF m 58 #[.val (.int p0), .val (.int ((31 : Int32) + (-4 : Int32)))] [(.int p0)])) _
        refine XS.iconst X0.here hx rfl (hb hby d13_58) ?_
        show Steps p.tables e below (s₁.setTop (mkF m 59 #[.val (.int p0), .val (.int ((31 : Int32) + (-4 : Int32)))] [(.int (4 : Int32)), (.int p0)])) _
        refine XS.iushr X0.here hx rfl (hb hby d13_59) rfl ?_
        show Steps p.tables e below (s₁.setTop (mkF m 60 #[.val (.int p0), .val (.int ((31 : Int32) + (-4 : Int32)))] [(.int ((p0.toUInt32 >>> ((4 : Int32) &&& 31).toUInt32).toInt32))])) _
        refine XS.istoreN X0.here hx rfl (hb hby d13_60) rfl (l' := #[.val (.int ((p0.toUInt32 >>> ((4 : Int32) &&& 31).toUInt32).toInt32)), .val (.int ((31 : Int32) + (-4 : Int32)))]) rfl ?_
        try simp only [if_neg hc51] at k
        exact k
    show Steps p.tables e below (s₁.setTop (mkF m 61 #[.val (.int (if p0 < (16 : Int32) then p0 else ((p0.toUInt32 >>> ((4 : Int32) &&& 31).toUInt32).toInt32))), .val (.int (if p0 < (16 : Int32) then (31 : Int32) else ((31 : Int32) + (-4 : Int32))))] [])) _
    refine XS.iloadN X0.here hx rfl (hb hby d13_61) rfl ?_
    show Steps p.tables e below (s₁.setTop (mkF m 62 #[.val (.int (if p0 < (16 : Int32) then p0 else ((p0.toUInt32 >>> ((4 : Int32) &&& 31).toUInt32).toInt32))), .val (.int (if p0 < (16 : Int32) then (31 : Int32) else ((31 : Int32) + (-4 : Int32))))] [(.int (if p0 < (16 : Int32) then p0 else ((p0.toUInt32 >>> ((4 : Int32) &&& 31).toUInt32).toInt32)))])) _
    refine XS.iconst X0.here hx rfl (hb hby d13_62) ?_
    refine own_via (s₁.setTop (mkF m 73 #[.val (.int (if (if p0 < (16 : Int32) then p0 else ((p0.toUInt32 >>> ((4 : Int32) &&& 31).toUInt32).toInt32)) < (4 : Int32) then (if p0 < (16 : Int32) then p0 else ((p0.toUInt32 >>> ((4 : Int32) &&& 31).toUInt32).toInt32)) else (((if p0 < (16 : Int32) then p0 else ((p0.toUInt32 >>> ((4 : Int32) &&& 31).toUInt32).toInt32)).toUInt32 >>> ((2 : Int32) &&& 31).toUInt32).toInt32))), .val (.int (if (if p0 < (16 : Int32) then p0 else ((p0.toUInt32 >>> ((4 : Int32) &&& 31).toUInt32).toInt32)) < (4 : Int32) then (if p0 < (16 : Int32) then (31 : Int32) else ((31 : Int32) + (-4 : Int32))) else ((if p0 < (16 : Int32) then (31 : Int32) else ((31 : Int32) + (-4 : Int32))) + (-2 : Int32))))] [])) (fun k => ?_) ?_
    · by_cases hc63 : (if p0 < (16 : Int32) then p0 else ((p0.toUInt32 >>> ((4 : Int32) &&& 31).toUInt32).toInt32)) < (4 : Int32)
      · show Steps p.tables e below (s₁.setTop (mkF m 63 #[.val (.int (if p0 < (16 : Int32) then p0 else ((p0.toUInt32 >>> ((4 : Int32) &&& 31).toUInt32).toInt32))), .val (.int (if p0 < (16 : Int32) then (31 : Int32) else ((31 : Int32) + (-4 : Int32))))] [(.int (4 : Int32)), (.int (if p0 < (16 : Int32) then p0 else ((p0.toUInt32 >>> ((4 : Int32) &&& 31).toUInt32).toInt32)))])) _
        refine XS.icmpYes X0.here hx rfl (pc0 := 63) (pc' := 73) rfl (hb hby d13_63) rfl (tlt hc63).1 (by decide) (by decide) ?_
        try simp only [if_pos hc63] at k
        exact k
      · show Steps p.tables e below (s₁.setTop (mkF m 63 #[.val (.int (if p0 < (16 : Int32) then p0 else ((p0.toUInt32 >>> ((4 : Int32) &&& 31).toUInt32).toInt32))), .val (.int (if p0 < (16 : Int32) then (31 : Int32) else ((31 : Int32) + (-4 : Int32))))] [(.int (4 : Int32)), (.int (if p0 < (16 : Int32) then p0 else ((p0.toUInt32 >>> ((4 : Int32) &&& 31).toUInt32).toInt32)))])) _
        refine XS.icmpNo X0.here hx rfl (hb hby d13_63) rfl (flt hc63).1 ?_
        show Steps p.tables e below (s₁.setTop (mkF m 66 #[.val (.int (if p0 < (16 : Int32) then p0 else ((p0.toUInt32 >>> ((4 : Int32) &&& 31).toUInt32).toInt32))), .val (.int (if p0 < (16 : Int32) then (31 : Int32) else ((31 : Int32) + (-4 : Int32))))] [])) _
        refine XS.iinc X0.here hx rfl (hb hby d13_66) rfl (l' := #[.val (.int (if p0 < (16 : Int32) then p0 else ((p0.toUInt32 >>> ((4 : Int32) &&& 31).toUInt32).toInt32))), .val (.int ((if p0 < (16 : Int32) then (31 : Int32) else ((31 : Int32) + (-4 : Int32))) + (-2 : Int32)))]) rfl ?_
        show Steps p.tables e below (s₁.setTop (mkF m 69 #[.val (.int (if p0 < (16 : Int32) then p0 else ((p0.toUInt32 >>> ((4 : Int32) &&& 31).toUInt32).toInt32))), .val (.int ((if p0 < (16 : Int32) then (31 : Int32) else ((31 : Int32) + (-4 : Int32))) + (-2 : Int32)))] [])) _
        refine XS.iloadN X0.here hx rfl (hb hby d13_69) rfl ?_
        show Steps p.tables e below (s₁.setTop (mkF m 70 #[.val (.int (if p0 < (16 : Int32) then p0 else ((p0.toUInt32 >>> ((4 : Int32) &&& 31).toUInt32).toInt32))), .val (.int ((if p0 < (16 : Int32) then (31 : Int32) else ((31 : Int32) + (-4 : Int32))) + (-2 : Int32)))] [(.int (if p0 < (16 : Int32) then p0 else ((p0.toUInt32 >>> ((4 : Int32) &&& 31).toUInt32).toInt32)))])) _
        refine XS.iconst X0.here hx rfl (hb hby d13_70) ?_
        show Steps p.tables e below (s₁.setTop (mkF m 71 #[.val (.int (if p0 < (16 : Int32) then p0 else ((p0.toUInt32 >>> ((4 : Int32) &&& 31).toUInt32).toInt32))), .val (.int ((if p0 < (16 : Int32) then (31 : Int32) else ((31 : Int32) + (-4 : Int32))) + (-2 : Int32)))] [(.int (2 : Int32)), (.int (if p0 < (16 : Int32) then p0 else ((p0.toUInt32 >>> ((4 : Int32) &&& 31).toUInt32).toInt32)))])) _
        refine XS.iushr X0.here hx rfl (hb hby d13_71) rfl ?_
        show Steps p.tables e below (s₁.setTop (mkF m 72 #[.val (.int (if p0 < (16 : Int32) then p0 else ((p0.toUInt32 >>> ((4 : Int32) &&& 31).toUInt32).toInt32))), .val (.int ((if p0 < (16 : Int32) then (31 : Int32) else ((31 : Int32) + (-4 : Int32))) + (-2 : Int32)))] [(.int (((if p0 < (16 : Int32) then p0 else ((p0.toUInt32 >>> ((4 : Int32) &&& 31).toUInt32).toInt32)).toUInt32 >>> ((2 : Int32) &&& 31).toUInt32).toInt32))])) _
        refine XS.istoreN X0.here hx rfl (hb hby d13_72) rfl (l' := #[.val (.int (((if p0 < (16 : Int32) then p0 else ((p0.toUInt32 >>> ((4 : Int32) &&& 31).toUInt32).toInt32)).toUInt32 >>> ((2 : Int32) &&& 31).toUInt32).toInt32)), .val (.int ((if p0 < (16 : Int32) then (31 : Int32) else ((31 : Int32) + (-4 : Int32))) + (-2 : Int32)))]) rfl ?_
        try simp only [if_neg hc63] at k
        exact k
    show Steps p.tables e below (s₁.setTop (mkF m 73 #[.val (.int (if (if p0 < (16 : Int32) then p0 else ((p0.toUInt32 >>> ((4 : Int32) &&& 31).toUInt32).toInt32)) < (4 : Int32) then (if p0 < (16 : Int32) then p0 else ((p0.toUInt32 >>> ((4 : Int32) &&& 31).toUInt32).toInt32)) else (((if p0 < (16 : Int32) then p0 else ((p0.toUInt32 >>> ((4 : Int32) &&& 31).toUInt32).toInt32)).toUInt32 >>> ((2 : Int32) &&& 31).toUInt32).toInt32))), .val (.int (if (if p0 < (16 : Int32) then p0 else ((p0.toUInt32 >>> ((4 : Int32) &&& 31).toUInt32).toInt32)) < (4 : Int32) then (if p0 < (16 : Int32) then (31 : Int32) else ((31 : Int32) + (-4 : Int32))) else ((if p0 < (16 : Int32) then (31 : Int32) else ((31 : Int32) + (-4 : Int32))) + (-2 : Int32))))] [])) _
    refine XS.iloadN X0.here hx rfl (hb hby d13_73) rfl ?_
    show Steps p.tables e below (s₁.setTop (mkF m 74 #[.val (.int (if (if p0 < (16 : Int32) then p0 else ((p0.toUInt32 >>> ((4 : Int32) &&& 31).toUInt32).toInt32)) < (4 : Int32) then (if p0 < (16 : Int32) then p0 else ((p0.toUInt32 >>> ((4 : Int32) &&& 31).toUInt32).toInt32)) else (((if p0 < (16 : Int32) then p0 else ((p0.toUInt32 >>> ((4 : Int32) &&& 31).toUInt32).toInt32)).toUInt32 >>> ((2 : Int32) &&& 31).toUInt32).toInt32))), .val (.int (if (if p0 < (16 : Int32) then p0 else ((p0.toUInt32 >>> ((4 : Int32) &&& 31).toUInt32).toInt32)) < (4 : Int32) then (if p0 < (16 : Int32) then (31 : Int32) else ((31 : Int32) + (-4 : Int32))) else ((if p0 < (16 : Int32) then (31 : Int32) else ((31 : Int32) + (-4 : Int32))) + (-2 : Int32))))] [(.int (if (if p0 < (16 : Int32) then p0 else ((p0.toUInt32 >>> ((4 : Int32) &&& 31).toUInt32).toInt32)) < (4 : Int32) then (if p0 < (16 : Int32) then (31 : Int32) else ((31 : Int32) + (-4 : Int32))) else ((if p0 < (16 : Int32) then (31 : Int32) else ((31 : Int32) + (-4 : Int32))) + (-2 : Int32))))])) _
    refine XS.iloadN X0.here hx rfl (hb hby d13_74) rfl ?_
    show Steps p.tables e below (s₁.setTop (mkF m 75 #[.val (.int (if (if p0 < (16 : Int32) then p0 else ((p0.toUInt32 >>> ((4 : Int32) &&& 31).toUInt32).toInt32)) < (4 : Int32) then (if p0 < (16 : Int32) then p0 else ((p0.toUInt32 >>> ((4 : Int32) &&& 31).toUInt32).toInt32)) else (((if p0 < (16 : Int32) then p0 else ((p0.toUInt32 >>> ((4 : Int32) &&& 31).toUInt32).toInt32)).toUInt32 >>> ((2 : Int32) &&& 31).toUInt32).toInt32))), .val (.int (if (if p0 < (16 : Int32) then p0 else ((p0.toUInt32 >>> ((4 : Int32) &&& 31).toUInt32).toInt32)) < (4 : Int32) then (if p0 < (16 : Int32) then (31 : Int32) else ((31 : Int32) + (-4 : Int32))) else ((if p0 < (16 : Int32) then (31 : Int32) else ((31 : Int32) + (-4 : Int32))) + (-2 : Int32))))] [(.int (if (if p0 < (16 : Int32) then p0 else ((p0.toUInt32 >>> ((4 : Int32) &&& 31).toUInt32).toInt32)) < (4 : Int32) then (if p0 < (16 : Int32) then p0 else ((p0.toUInt32 >>> ((4 : Int32) &&& 31).toUInt32).toInt32)) else (((if p0 < (16 : Int32) then p0 else ((p0.toUInt32 >>> ((4 : Int32) &&& 31).toUInt32).toInt32)).toUInt32 >>> ((2 : Int32) &&& 31).toUInt32).toInt32))), (.int (if (if p0 < (16 : Int32) then p0 else ((p0.toUInt32 >>> ((4 : Int32) &&& 31).toUInt32).toInt32)) < (4 : Int32) then (if p0 < (16 : Int32) then (31 : Int32) else ((31 : Int32) + (-4 : Int32))) else ((if p0 < (16 : Int32) then (31 : Int32) else ((31 : Int32) + (-4 : Int32))) + (-2 : Int32))))])) _
    refine XS.iconst X0.here hx rfl (hb hby d13_75) ?_
    show Steps p.tables e below (s₁.setTop (mkF m 76 #[.val (.int (if (if p0 < (16 : Int32) then p0 else ((p0.toUInt32 >>> ((4 : Int32) &&& 31).toUInt32).toInt32)) < (4 : Int32) then (if p0 < (16 : Int32) then p0 else ((p0.toUInt32 >>> ((4 : Int32) &&& 31).toUInt32).toInt32)) else (((if p0 < (16 : Int32) then p0 else ((p0.toUInt32 >>> ((4 : Int32) &&& 31).toUInt32).toInt32)).toUInt32 >>> ((2 : Int32) &&& 31).toUInt32).toInt32))), .val (.int (if (if p0 < (16 : Int32) then p0 else ((p0.toUInt32 >>> ((4 : Int32) &&& 31).toUInt32).toInt32)) < (4 : Int32) then (if p0 < (16 : Int32) then (31 : Int32) else ((31 : Int32) + (-4 : Int32))) else ((if p0 < (16 : Int32) then (31 : Int32) else ((31 : Int32) + (-4 : Int32))) + (-2 : Int32))))] [(.int (1 : Int32)), (.int (if (if p0 < (16 : Int32) then p0 else ((p0.toUInt32 >>> ((4 : Int32) &&& 31).toUInt32).toInt32)) < (4 : Int32) then (if p0 < (16 : Int32) then p0 else ((p0.toUInt32 >>> ((4 : Int32) &&& 31).toUInt32).toInt32)) else (((if p0 < (16 : Int32) then p0 else ((p0.toUInt32 >>> ((4 : Int32) &&& 31).toUInt32).toInt32)).toUInt32 >>> ((2 : Int32) &&& 31).toUInt32).toInt32))), (.int (if (if p0 < (16 : Int32) then p0 else ((p0.toUInt32 >>> ((4 : Int32) &&& 31).toUInt32).toInt32)) < (4 : Int32) then (if p0 < (16 : Int32) then (31 : Int32) else ((31 : Int32) + (-4 : Int32))) else ((if p0 < (16 : Int32) then (31 : Int32) else ((31 : Int32) + (-4 : Int32))) + (-2 : Int32))))])) _
    refine XS.iushr X0.here hx rfl (hb hby d13_76) rfl ?_
    show Steps p.tables e below (s₁.setTop (mkF m 77 #[.val (.int (if (if p0 < (16 : Int32) then p0 else ((p0.toUInt32 >>> ((4 : Int32) &&& 31).toUInt32).toInt32)) < (4 : Int32) then (if p0 < (16 : Int32) then p0 else ((p0.toUInt32 >>> ((4 : Int32) &&& 31).toUInt32).toInt32)) else (((if p0 < (16 : Int32) then p0 else ((p0.toUInt32 >>> ((4 : Int32) &&& 31).toUInt32).toInt32)).toUInt32 >>> ((2 : Int32) &&& 31).toUInt32).toInt32))), .val (.int (if (if p0 < (16 : Int32) then p0 else ((p0.toUInt32 >>> ((4 : Int32) &&& 31).toUInt32).toInt32)) < (4 : Int32) then (if p0 < (16 : Int32) then (31 : Int32) else ((31 : Int32) + (-4 : Int32))) else ((if p0 < (16 : Int32) then (31 : Int32) else ((31 : Int32) + (-4 : Int32))) + (-2 : Int32))))] [(.int (((if (if p0 < (16 : Int32) then p0 else ((p0.toUInt32 >>> ((4 : Int32) &&& 31).toUInt32).toInt32)) < (4 : Int32) then (if p0 < (16 : Int32) then p0 else ((p0.toUInt32 >>> ((4 : Int32) &&& 31).toUInt32).toInt32)) else (((if p0 < (16 : Int32) then p0 else ((p0.toUInt32 >>> ((4 : Int32) &&& 31).toUInt32).toInt32)).toUInt32 >>> ((2 : Int32) &&& 31).toUInt32).toInt32)).toUInt32 >>> ((1 : Int32) &&& 31).toUInt32).toInt32)), (.int (if (if p0 < (16 : Int32) then p0 else ((p0.toUInt32 >>> ((4 : Int32) &&& 31).toUInt32).toInt32)) < (4 : Int32) then (if p0 < (16 : Int32) then (31 : Int32) else ((31 : Int32) + (-4 : Int32))) else ((if p0 < (16 : Int32) then (31 : Int32) else ((31 : Int32) + (-4 : Int32))) + (-2 : Int32))))])) _
    refine XS.isub X0.here hx rfl (hb hby d13_77) rfl ?_
    show Steps p.tables e below (s₁.setTop (mkF m 78 #[.val (.int (if (if p0 < (16 : Int32) then p0 else ((p0.toUInt32 >>> ((4 : Int32) &&& 31).toUInt32).toInt32)) < (4 : Int32) then (if p0 < (16 : Int32) then p0 else ((p0.toUInt32 >>> ((4 : Int32) &&& 31).toUInt32).toInt32)) else (((if p0 < (16 : Int32) then p0 else ((p0.toUInt32 >>> ((4 : Int32) &&& 31).toUInt32).toInt32)).toUInt32 >>> ((2 : Int32) &&& 31).toUInt32).toInt32))), .val (.int (if (if p0 < (16 : Int32) then p0 else ((p0.toUInt32 >>> ((4 : Int32) &&& 31).toUInt32).toInt32)) < (4 : Int32) then (if p0 < (16 : Int32) then (31 : Int32) else ((31 : Int32) + (-4 : Int32))) else ((if p0 < (16 : Int32) then (31 : Int32) else ((31 : Int32) + (-4 : Int32))) + (-2 : Int32))))] [(.int ((if (if p0 < (16 : Int32) then p0 else ((p0.toUInt32 >>> ((4 : Int32) &&& 31).toUInt32).toInt32)) < (4 : Int32) then (if p0 < (16 : Int32) then (31 : Int32) else ((31 : Int32) + (-4 : Int32))) else ((if p0 < (16 : Int32) then (31 : Int32) else ((31 : Int32) + (-4 : Int32))) + (-2 : Int32))) - (((if (if p0 < (16 : Int32) then p0 else ((p0.toUInt32 >>> ((4 : Int32) &&& 31).toUInt32).toInt32)) < (4 : Int32) then (if p0 < (16 : Int32) then p0 else ((p0.toUInt32 >>> ((4 : Int32) &&& 31).toUInt32).toInt32)) else (((if p0 < (16 : Int32) then p0 else ((p0.toUInt32 >>> ((4 : Int32) &&& 31).toUInt32).toInt32)).toUInt32 >>> ((2 : Int32) &&& 31).toUInt32).toInt32)).toUInt32 >>> ((1 : Int32) &&& 31).toUInt32).toInt32)))])) _
    exact retI X0 hx Bd.returns (hb hby d13_78) hr
  · show Qrm13 Z p0 h0 n0 _ s₁.heap _
    rw [e0]
    exact ⟨rfl, N0, rfl⟩
def own_hob (p0 : Int32) : Int32 := (p0 &&& (((-2147483648 : Int32).toUInt32 >>> ((own_nlz p0) &&& 31).toUInt32).toInt32))
theorem pd_0 : parseMethodDescriptor "(I)I" = some ⟨[.int], some .int⟩ := by decide +kernel
theorem d12_0 : decode jdk_33_method_45_code 0 = .ok (.iload_n 0, 1) := by decide +kernel
theorem d12_1 : decode jdk_33_method_45_code 1 = .ok (.ldc 127, 2) := by decide +kernel
theorem d12_3 : decode jdk_33_method_45_code 3 = .ok (.iload_n 0, 1) := by decide +kernel
theorem d12_4 : decode jdk_33_method_45_code 4 = .ok (.invokestatic 51, 3) := by decide +kernel
theorem d12_7 : decode jdk_33_method_45_code 7 = .ok (.iushr, 1) := by decide +kernel
theorem d12_8 : decode jdk_33_method_45_code 8 = .ok (.iand, 1) := by decide +kernel
theorem d12_9 : decode jdk_33_method_45_code 9 = .ok (.ireturn, 1) := by decide +kernel
theorem pn_12 : plainName "java/lang/Integer" = true := by first | (simp [plainName, overriddenIn]; done) | decide +kernel
theorem ef_rm12 (m : MethodId) (p0 : Int32) : entryFrame m #[(.int p0)] 1 = mkF m 0 #[.val (.int p0)] [] := by first | (simp [entryFrame, mkF, argsToLocals, Value.category]; done) | rfl
def Qrm12 (Z : State) (p0 : Int32) (h0 : Heap) (n0 : Nat) (v : Option Value) (h : Heap) (L : List Loc) : Prop := v = some (.int (own_hob p0)) ∧ Fr n0 L ∧ h = h0
set_option maxRecDepth 65536 in
set_option maxHeartbeats 40000000 in
theorem rm12 (l : Launch) (Z : State) (A0 : Array Value) (hw : ∀ d ∈ tables_1, d.before A0 Z = true) (ws : List Jvm.Cond) (p0 : Int32) (h0 : Heap) (n0 : Nat) (Z0 : n0 ≤ h0.size) (hs : 0 < p0.toInt ∧ p0.toInt < 256) :
    MetFree l (⟨"java/lang/Integer", "highestOneBit", "(I)I"⟩ : MethodName) (head1 (Jvm.Cond.code (⟨"java/lang/Integer", "highestOneBit", "(I)I"⟩ : MethodName) jdk_33_method_45_code 1 (some .int) :: ws) ({ frames := 1, cells := 0, slots := 0, locals := 15 } : Room)) (fun a U => a = #[(.int p0)] ∧ Z.Warmed39 U.vm ∧ U.heap = h0) (fun _ _ _ _ _ => True) (fun _ U o U' => ∃ v L, o = .returned v ∧ Qrm12 Z p0 h0 n0 v U'.heap L ∧ FrameEnd U o U' L ({ frames := 1, cells := 0, slots := 0, locals := 15 } : Room).cells ({ frames := 1, cells := 0, slots := 0, locals := 15 } : Room).slots) := by
  refine MetFree.of_bodySF (plainFor_of_name pn_12) hisR ?_
  intro p e s m args below meth c s₁ Bd hml0 hP hK
  obtain ⟨rfl, hZ, hh⟩ := hP
  have hx := Bd.exec
  have hby := Bd.bytes
  have hml : c.maxLocals = 1 := hml0
  have hown : s.vm.findClass "java/lang/Integer" = some m.cls := findClass_of_methodNamed Bd.named
  have hnm := (name_of_methodNamed Bd.named Bd.method).1
  have X0 : Stand p l e ({ frames := 1, cells := 0, slots := 0, locals := 15 } : Room) s m #[(.int p0)] below meth c s₁ [] 0 0 := Stand.of_body Bd
  have e0 : s₁.heap = h0 := by rw [← hh, Bd.state]; rfl
  have N0 := Fr.nil n0
  have K0 : Keep h0 h0 [] := Keep.refl _ _
  have pre0 : ∀ t, Steps p.tables e below (s₁.setTop (mkF m 0 #[.val (.int p0)] [])) t → Steps p.tables e below (s₁.setTop (entryFrame m #[(.int p0)] 1)) t := fun t k => castTop (ef_rm12 m p0) k
  obtain ⟨_, _, ⟨T1, L1, k1, n1⟩, -, X1, ⟨Lc1, hQ1, l1, y1, z1⟩, st1⟩ := Jvm.LawKit.callS X0 hx (y := (⟨"java/lang/Integer", "numberOfLeadingZeros", "(I)I"⟩ : MethodName)) hown (mvT hZ (hw _ (List.mem_of_getElem? (i := 68) rfl))) (mvT hZ (hw _ (List.mem_of_getElem? (i := 69) rfl))) (mvT hZ (hw _ (List.mem_of_getElem? (i := 65) rfl))) (mvT hZ (hw _ (List.mem_of_getElem? (i := 70) rfl))) (by decide) (backOf (W := 2) (rm13 l Z A0 hw [] p0  h0 n0 Z0 (hs)) hZ (hw _ (List.mem_of_getElem? (i := 70) rfl)) (hw _ (List.mem_of_getElem? (i := 65) rfl)) (by decide) (by decide)) (g := (mkF m 4 #[.val (.int p0)] [(.int p0), (.int (-2147483648 : Int32)), (.int p0)])) rfl (by rw [hml]; rfl) (argsL := [(.int p0)]) (rest := [(.int (-2147483648 : Int32)), (.int p0)]) (lenOf pd_0 rfl) rfl (by show 2 * 0 + _ ≤ _; exact Nat.le_of_eq rfl) (hb hby d12_4) (fun _ _ => ⟨rfl, e0, (by decide : 0 + 0 ≤ _), (by decide : 0 + 0 ≤ _)⟩)
  dsimp only [Pt.U, Pt.locs, Pt.cells, Pt.slots] at X1 l1 y1 z1 st1 hQ1
  subst y1 z1
  obtain ⟨rfl, N1q, eh1⟩ := hQ1
  have N1 : Fr n0 L1 := by rw [l1]; exact Fr.app N0 N1q
  clear l1
  obtain ⟨fs, hr, hrun, hended, hW, hsame⟩ := X1.leave (v := some (.int (p0 &&& (((-2147483648 : Int32).toUInt32 >>> ((own_nlz p0) &&& 31).toUInt32).toInt32)))) (fun h => by rw [Bd.returns] at h; cases h)
  refine ⟨_, _, pre0 _ ?_, hrun, hended, _, _, rfl, ?_, ⟨_, rfl⟩, hW, hsame.mono (by decide) (by decide)⟩
  · show Steps p.tables e below (s₁.setTop (mkF m 0 #[.val (.int p0)] [])) _
    refine XS.iloadN X0.here hx rfl (hb hby d12_0) rfl ?_
    show Steps p.tables e below (s₁.setTop (mkF m 1 #[.val (.int p0)] [(.int p0)])) _
    refine X0.ldcInt hx hown (mvT hZ (hw _ (List.mem_of_getElem? (i := 67) rfl))) (g := (mkF m 1 #[.val (.int p0)] [(.int p0)])) rfl (hb hby d12_1) _ ?_
    show Steps p.tables e below (s₁.setTop (mkF m 3 #[.val (.int p0)] [(.int (-2147483648 : Int32)), (.int p0)])) _
    refine XS.iloadN X0.here hx rfl (hb hby d12_3) rfl ?_
    show Steps p.tables e below (s₁.setTop (mkF m 4 #[.val (.int p0)] [(.int p0), (.int (-2147483648 : Int32)), (.int p0)])) _
    refine st1 _ ?_
    show Steps p.tables e below (T1.setTop (mkF m 7 #[.val (.int p0)] [(.int (own_nlz p0)), (.int (-2147483648 : Int32)), (.int p0)])) _
    refine XS.iushr X1.here hx rfl (hb hby d12_7) rfl ?_
    show Steps p.tables e below (T1.setTop (mkF m 8 #[.val (.int p0)] [(.int (((-2147483648 : Int32).toUInt32 >>> ((own_nlz p0) &&& 31).toUInt32).toInt32)), (.int p0)])) _
    refine XS.iand X1.here hx rfl (hb hby d12_8) rfl ?_
    show Steps p.tables e below (T1.setTop (mkF m 9 #[.val (.int p0)] [(.int (p0 &&& (((-2147483648 : Int32).toUInt32 >>> ((own_nlz p0) &&& 31).toUInt32).toInt32)))])) _
    exact retI X1 hx Bd.returns (hb hby d12_9) hr
  · show Qrm12 Z p0 h0 n0 _ T1.heap _
    rw [eh1]
    exact ⟨rfl, N1, rfl⟩
def own_grow (p0 p1 : Int32) : Int32 := (if (256 : Int32) < (if (p0 * (2 : Int32)) < ((own_hob p1) * (2 : Int32)) then ((own_hob p1) * (2 : Int32)) else (p0 * (2 : Int32))) then (256 : Int32) else (if (p0 * (2 : Int32)) < ((own_hob p1) * (2 : Int32)) then ((own_hob p1) * (2 : Int32)) else (p0 * (2 : Int32))))
theorem pd_1 : parseMethodDescriptor "(II)I" = some ⟨[.int, .int], some .int⟩ := by decide +kernel
theorem d11_0 : decode prog_251_method_4_code 0 = .ok (.iload_n 0, 1) := by decide +kernel
theorem d11_1 : decode prog_251_method_4_code 1 = .ok (.iconst 2, 1) := by decide +kernel
theorem d11_2 : decode prog_251_method_4_code 2 = .ok (.imul, 1) := by decide +kernel
theorem d11_3 : decode prog_251_method_4_code 3 = .ok (.iload_n 1, 1) := by decide +kernel
theorem d11_4 : decode prog_251_method_4_code 4 = .ok (.invokestatic 49, 3) := by decide +kernel
theorem d11_7 : decode prog_251_method_4_code 7 = .ok (.iconst 2, 1) := by decide +kernel
theorem d11_8 : decode prog_251_method_4_code 8 = .ok (.imul, 1) := by decide +kernel
theorem d11_9 : decode prog_251_method_4_code 9 = .ok (.invokestatic 53, 3) := by decide +kernel
theorem d11_12 : decode prog_251_method_4_code 12 = .ok (.sipush 256, 3) := by decide +kernel
theorem d11_15 : decode prog_251_method_4_code 15 = .ok (.invokestatic 59, 3) := by decide +kernel
theorem d11_18 : decode prog_251_method_4_code 18 = .ok (.ireturn, 1) := by decide +kernel
theorem pn_11 : plainName "com/example/wadjet/wadjet/storage/ColumnChunk" = true := by first | (simp [plainName, overriddenIn]; done) | decide +kernel
theorem ef_rm11 (m : MethodId) (p0 : Int32) (p1 : Int32) : entryFrame m #[(.int p0), (.int p1)] 2 = mkF m 0 #[.val (.int p0), .val (.int p1)] [] := by first | (simp [entryFrame, mkF, argsToLocals, Value.category]; done) | rfl
def Qrm11 (Z : State) (p0 : Int32) (p1 : Int32) (h0 : Heap) (n0 : Nat) (v : Option Value) (h : Heap) (L : List Loc) : Prop := v = some (.int (own_grow p0 p1)) ∧ Fr n0 L ∧ h = h0
set_option maxRecDepth 65536 in
set_option maxHeartbeats 40000000 in
theorem rm11 (l : Launch) (Z : State) (A0 : Array Value) (hw : ∀ d ∈ tables_1, d.before A0 Z = true) (ws : List Jvm.Cond) (p0 : Int32) (p1 : Int32) (h0 : Heap) (n0 : Nat) (Z0 : n0 ≤ h0.size) (hs : 0 < p1.toInt ∧ p1.toInt < 256) :
    MetFree l (⟨"com/example/wadjet/wadjet/storage/ColumnChunk", "grownCapacity", "(II)I"⟩ : MethodName) (head1 (Jvm.Cond.code (⟨"com/example/wadjet/wadjet/storage/ColumnChunk", "grownCapacity", "(II)I"⟩ : MethodName) prog_251_method_4_code 2 (some .int) :: ws) ({ frames := 2, cells := 0, slots := 0, locals := 28 } : Room)) (fun a U => a = #[(.int p0), (.int p1)] ∧ Z.Warmed39 U.vm ∧ U.heap = h0) (fun _ _ _ _ _ => True) (fun _ U o U' => ∃ v L, o = .returned v ∧ Qrm11 Z p0 p1 h0 n0 v U'.heap L ∧ FrameEnd U o U' L ({ frames := 2, cells := 0, slots := 0, locals := 28 } : Room).cells ({ frames := 2, cells := 0, slots := 0, locals := 28 } : Room).slots) := by
  refine MetFree.of_bodySF (plainFor_of_name pn_11) hisR ?_
  intro p e s m args below meth c s₁ Bd hml0 hP hK
  obtain ⟨rfl, hZ, hh⟩ := hP
  have hx := Bd.exec
  have hby := Bd.bytes
  have hml : c.maxLocals = 2 := hml0
  have hown : s.vm.findClass "com/example/wadjet/wadjet/storage/ColumnChunk" = some m.cls := findClass_of_methodNamed Bd.named
  have hnm := (name_of_methodNamed Bd.named Bd.method).1
  have X0 : Stand p l e ({ frames := 2, cells := 0, slots := 0, locals := 28 } : Room) s m #[(.int p0), (.int p1)] below meth c s₁ [] 0 0 := Stand.of_body Bd
  have e0 : s₁.heap = h0 := by rw [← hh, Bd.state]; rfl
  have N0 := Fr.nil n0
  have K0 : Keep h0 h0 [] := Keep.refl _ _
  have pre0 : ∀ t, Steps p.tables e below (s₁.setTop (mkF m 0 #[.val (.int p0), .val (.int p1)] [])) t → Steps p.tables e below (s₁.setTop (entryFrame m #[(.int p0), (.int p1)] 2)) t := fun t k => castTop (ef_rm11 m p0 p1) k
  obtain ⟨_, _, ⟨T1, L1, k1, n1⟩, -, X1, ⟨Lc1, hQ1, l1, y1, z1⟩, st1⟩ := Jvm.LawKit.callS X0 hx (y := (⟨"java/lang/Integer", "highestOneBit", "(I)I"⟩ : MethodName)) hown (mvT hZ (hw _ (List.mem_of_getElem? (i := 63) rfl))) (mvT hZ (hw _ (List.mem_of_getElem? (i := 64) rfl))) (mvT hZ (hw _ (List.mem_of_getElem? (i := 65) rfl))) (mvT hZ (hw _ (List.mem_of_getElem? (i := 66) rfl))) (by decide) (backOf (W := 1) (rm12 l Z A0 hw [] p1  h0 n0 Z0 (hs)) hZ (hw _ (List.mem_of_getElem? (i := 66) rfl)) (hw _ (List.mem_of_getElem? (i := 65) rfl)) (by decide) (by decide)) (g := (mkF m 4 #[.val (.int p0), .val (.int p1)] [(.int p1), (.int (p0 * (2 : Int32)))])) rfl (by rw [hml]; rfl) (argsL := [(.int p1)]) (rest := [(.int (p0 * (2 : Int32)))]) (lenOf pd_0 rfl) rfl (by show 2 * 0 + _ ≤ _; exact Nat.le_of_eq rfl) (hb hby d11_4) (fun _ _ => ⟨rfl, e0, (by decide : 0 + 0 ≤ _), (by decide : 0 + 0 ≤ _)⟩)
  dsimp only [Pt.U, Pt.locs, Pt.cells, Pt.slots] at X1 l1 y1 z1 st1 hQ1
  subst y1 z1
  obtain ⟨rfl, N1q, eh1⟩ := hQ1
  have N1 : Fr n0 L1 := by rw [l1]; exact Fr.app N0 N1q
  clear l1
  obtain ⟨_, _, ⟨T2, L2, k2, n2⟩, -, X2, ⟨Lc2, hQ2, l2, y2, z2⟩, st2⟩ := Jvm.LawKit.callS X1 hx (y := (⟨"java/lang/Math", "max", "(II)I"⟩ : MethodName)) hown (mvT hZ (hw _ (List.mem_of_getElem? (i := 72) rfl))) (mvT hZ (hw _ (List.mem_of_getElem? (i := 73) rfl))) (mvT hZ (hw _ (List.mem_of_getElem? (i := 43) rfl))) (mvT hZ (hw _ (List.mem_of_getElem? (i := 74) rfl))) (by decide) (backOf (W := 0) (rm14 l Z A0 hw [] (p0 * (2 : Int32)) ((own_hob p1) * (2 : Int32))  h0 n0 Z0 ) hZ (hw _ (List.mem_of_getElem? (i := 74) rfl)) (hw _ (List.mem_of_getElem? (i := 43) rfl)) (by decide) (by decide)) (g := (mkF m 9 #[.val (.int p0), .val (.int p1)] [(.int ((own_hob p1) * (2 : Int32))), (.int (p0 * (2 : Int32)))])) rfl (by rw [hml]; rfl) (argsL := [(.int (p0 * (2 : Int32))), (.int ((own_hob p1) * (2 : Int32)))]) (rest := []) (lenOf pd_1 rfl) rfl (by show 2 * 0 + _ ≤ _; exact Nat.le_of_eq rfl) (hb hby d11_9) (fun _ _ => ⟨rfl, eh1, (by decide : 0 + 0 ≤ _), (by decide : 0 + 0 ≤ _)⟩)
  dsimp only [Pt.U, Pt.locs, Pt.cells, Pt.slots] at X2 l2 y2 z2 st2 hQ2
  subst y2 z2
  obtain ⟨rfl, N2q, eh2⟩ := hQ2
  have N2 : Fr n0 L2 := by rw [l2]; exact Fr.app N1 N2q
  clear l2
  obtain ⟨_, _, ⟨T3, L3, k3, n3⟩, -, X3, ⟨Lc3, hQ3, l3, y3, z3⟩, st3⟩ := Jvm.LawKit.callS X2 hx (y := (⟨"java/lang/Math", "min", "(II)I"⟩ : MethodName)) hown (mvT hZ (hw _ (List.mem_of_getElem? (i := 75) rfl))) (mvT hZ (hw _ (List.mem_of_getElem? (i := 76) rfl))) (mvT hZ (hw _ (List.mem_of_getElem? (i := 43) rfl))) (mvT hZ (hw _ (List.mem_of_getElem? (i := 77) rfl))) (by decide) (backOf (W := 0) (rm15 l Z A0 hw [] (if (p0 * (2 : Int32)) < ((own_hob p1) * (2 : Int32)) then ((own_hob p1) * (2 : Int32)) else (p0 * (2 : Int32))) (256 : Int32)  h0 n0 Z0 ) hZ (hw _ (List.mem_of_getElem? (i := 77) rfl)) (hw _ (List.mem_of_getElem? (i := 43) rfl)) (by decide) (by decide)) (g := (mkF m 15 #[.val (.int p0), .val (.int p1)] [(.int (256 : Int32)), (.int (if (p0 * (2 : Int32)) < ((own_hob p1) * (2 : Int32)) then ((own_hob p1) * (2 : Int32)) else (p0 * (2 : Int32))))])) rfl (by rw [hml]; rfl) (argsL := [(.int (if (p0 * (2 : Int32)) < ((own_hob p1) * (2 : Int32)) then ((own_hob p1) * (2 : Int32)) else (p0 * (2 : Int32)))), (.int (256 : Int32))]) (rest := []) (lenOf pd_1 rfl) rfl (by show 2 * 0 + _ ≤ _; exact Nat.le_of_eq rfl) (hb hby d11_15) (fun _ _ => ⟨rfl, eh2, (by decide : 0 + 0 ≤ _), (by decide : 0 + 0 ≤ _)⟩)
  dsimp only [Pt.U, Pt.locs, Pt.cells, Pt.slots] at X3 l3 y3 z3 st3 hQ3
  subst y3 z3
  obtain ⟨rfl, N3q, eh3⟩ := hQ3
  have N3 : Fr n0 L3 := by rw [l3]; exact Fr.app N2 N3q
  clear l3
  obtain ⟨fs, hr, hrun, hended, hW, hsame⟩ := X3.leave (v := some (.int (if (256 : Int32) < (if (p0 * (2 : Int32)) < ((own_hob p1) * (2 : Int32)) then ((own_hob p1) * (2 : Int32)) else (p0 * (2 : Int32))) then (256 : Int32) else (if (p0 * (2 : Int32)) < ((own_hob p1) * (2 : Int32)) then ((own_hob p1) * (2 : Int32)) else (p0 * (2 : Int32)))))) (fun h => by rw [Bd.returns] at h; cases h)
  refine ⟨_, _, pre0 _ ?_, hrun, hended, _, _, rfl, ?_, ⟨_, rfl⟩, hW, hsame.mono (by decide) (by decide)⟩
  · show Steps p.tables e below (s₁.setTop (mkF m 0 #[.val (.int p0), .val (.int p1)] [])) _
    refine XS.iloadN X0.here hx rfl (hb hby d11_0) rfl ?_
    show Steps p.tables e below (s₁.setTop (mkF m 1 #[.val (.int p0), .val (.int p1)] [(.int p0)])) _
    refine XS.iconst X0.here hx rfl (hb hby d11_1) ?_
    show Steps p.tables e below (s₁.setTop (mkF m 2 #[.val (.int p0), .val (.int p1)] [(.int (2 : Int32)), (.int p0)])) _
    refine XS.imul X0.here hx rfl (hb hby d11_2) rfl ?_
    show Steps p.tables e below (s₁.setTop (mkF m 3 #[.val (.int p0), .val (.int p1)] [(.int (p0 * (2 : Int32)))])) _
    refine XS.iloadN X0.here hx rfl (hb hby d11_3) rfl ?_
    show Steps p.tables e below (s₁.setTop (mkF m 4 #[.val (.int p0), .val (.int p1)] [(.int p1), (.int (p0 * (2 : Int32)))])) _
    refine st1 _ ?_
    show Steps p.tables e below (T1.setTop (mkF m 7 #[.val (.int p0), .val (.int p1)] [(.int (own_hob p1)), (.int (p0 * (2 : Int32)))])) _
    refine XS.iconst X1.here hx rfl (hb hby d11_7) ?_
    show Steps p.tables e below (T1.setTop (mkF m 8 #[.val (.int p0), .val (.int p1)] [(.int (2 : Int32)), (.int (own_hob p1)), (.int (p0 * (2 : Int32)))])) _
    refine XS.imul X1.here hx rfl (hb hby d11_8) rfl ?_
    show Steps p.tables e below (T1.setTop (mkF m 9 #[.val (.int p0), .val (.int p1)] [(.int ((own_hob p1) * (2 : Int32))), (.int (p0 * (2 : Int32)))])) _
    refine st2 _ ?_
    show Steps p.tables e below (T2.setTop (mkF m 12 #[.val (.int p0), .val (.int p1)] [(.int (if (p0 * (2 : Int32)) < ((own_hob p1) * (2 : Int32)) then ((own_hob p1) * (2 : Int32)) else (p0 * (2 : Int32))))])) _
    refine XS.sipush X2.here hx rfl (hb hby d11_12) ?_
    show Steps p.tables e below (T2.setTop (mkF m 15 #[.val (.int p0), .val (.int p1)] [(.int (256 : Int32)), (.int (if (p0 * (2 : Int32)) < ((own_hob p1) * (2 : Int32)) then ((own_hob p1) * (2 : Int32)) else (p0 * (2 : Int32))))])) _
    refine st3 _ ?_
    show Steps p.tables e below (T3.setTop (mkF m 18 #[.val (.int p0), .val (.int p1)] [(.int (if (256 : Int32) < (if (p0 * (2 : Int32)) < ((own_hob p1) * (2 : Int32)) then ((own_hob p1) * (2 : Int32)) else (p0 * (2 : Int32))) then (256 : Int32) else (if (p0 * (2 : Int32)) < ((own_hob p1) * (2 : Int32)) then ((own_hob p1) * (2 : Int32)) else (p0 * (2 : Int32)))))])) _
    exact retI X3 hx Bd.returns (hb hby d11_18) hr
  · show Qrm11 Z p0 p1 h0 n0 _ T3.heap _
    rw [eh3]
    exact ⟨rfl, N3, rfl⟩
theorem d8_0 : decode jdk_29_method_43_code 0 = .ok (.lload_n 0, 1) := by decide +kernel
theorem d8_1 : decode jdk_29_method_43_code 1 = .ok (.l2i, 1) := by decide +kernel
theorem d8_2 : decode jdk_29_method_43_code 2 = .ok (.i2l, 1) := by decide +kernel
theorem d8_3 : decode jdk_29_method_43_code 3 = .ok (.lload_n 0, 1) := by decide +kernel
theorem d8_4 : decode jdk_29_method_43_code 4 = .ok (.lcmp, 1) := by decide +kernel
theorem d8_5 : decode jdk_29_method_43_code 5 = .ok (.ifCond .eq 13, 3) := by decide +kernel
theorem d8_18 : decode jdk_29_method_43_code 18 = .ok (.lload_n 0, 1) := by decide +kernel
theorem d8_19 : decode jdk_29_method_43_code 19 = .ok (.l2i, 1) := by decide +kernel
theorem d8_20 : decode jdk_29_method_43_code 20 = .ok (.ireturn, 1) := by decide +kernel
theorem ef_rm8 (m : MethodId) (q0 : Int64) : entryFrame m #[(.long q0)] 2 = mkF m 0 #[.val (.long q0), .second] [] := by first | (simp [entryFrame, mkF, argsToLocals, Value.category]; done) | rfl
def Qrm8 (Z : State) (q0 : Int64) (h0 : Heap) (n0 : Nat) (v : Option Value) (h : Heap) (L : List Loc) : Prop := v = some (.int (q0.toInt32)) ∧ Fr n0 L ∧ h = h0
set_option maxRecDepth 65536 in
set_option maxHeartbeats 40000000 in
theorem rm8 (l : Launch) (Z : State) (A0 : Array Value) (hw : ∀ d ∈ tables_1, d.before A0 Z = true) (ws : List Jvm.Cond) (q0 : Int64) (h0 : Heap) (n0 : Nat) (Z0 : n0 ≤ h0.size) (hv : (q0.toInt32.toInt64) = q0) :
    MetFree l (⟨"java/lang/Math", "toIntExact", "(J)I"⟩ : MethodName) (head1 (Jvm.Cond.code (⟨"java/lang/Math", "toIntExact", "(J)I"⟩ : MethodName) jdk_29_method_43_code 2 (some .int) :: ws) ({ frames := 0, cells := 0, slots := 0, locals := 0 } : Room)) (fun a U => a = #[(.long q0)] ∧ Z.Warmed39 U.vm ∧ U.heap = h0) (fun _ _ _ _ _ => True) (fun _ U o U' => ∃ v L, o = .returned v ∧ Qrm8 Z q0 h0 n0 v U'.heap L ∧ FrameEnd U o U' L ({ frames := 0, cells := 0, slots := 0, locals := 0 } : Room).cells ({ frames := 0, cells := 0, slots := 0, locals := 0 } : Room).slots) := by
  refine MetFree.of_bodySF (Jvm.Free.JP.mathPlain rfl (by decide +kernel)) hisR ?_
  intro p e s m args below meth c s₁ Bd hml0 hP hK
  obtain ⟨rfl, hZ, hh⟩ := hP
  have hx := Bd.exec
  have hby := Bd.bytes
  have hml : c.maxLocals = 2 := hml0
  have hown : s.vm.findClass "java/lang/Math" = some m.cls := findClass_of_methodNamed Bd.named
  have hnm := (name_of_methodNamed Bd.named Bd.method).1
  have X0 : Stand p l e ({ frames := 0, cells := 0, slots := 0, locals := 0 } : Room) s m #[(.long q0)] below meth c s₁ [] 0 0 := Stand.of_body Bd
  have e0 : s₁.heap = h0 := by rw [← hh, Bd.state]; rfl
  have N0 := Fr.nil n0
  have K0 : Keep h0 h0 [] := Keep.refl _ _
  have pre0 : ∀ t, Steps p.tables e below (s₁.setTop (mkF m 0 #[.val (.long q0), .second] [])) t → Steps p.tables e below (s₁.setTop (entryFrame m #[(.long q0)] 2)) t := fun t k => castTop (ef_rm8 m q0) k
  obtain ⟨fs, hr, hrun, hended, hW, hsame⟩ := X0.leave (v := some (.int (q0.toInt32))) (fun h => by rw [Bd.returns] at h; cases h)
  refine ⟨_, _, pre0 _ ?_, hrun, hended, _, _, rfl, ?_, ⟨_, rfl⟩, hW, hsame.mono (by decide) (by decide)⟩
  · show Steps p.tables e below (s₁.setTop (mkF m 0 #[.val (.long q0), .second] [])) _
    refine XS.lloadN X0.here hx rfl (hb hby d8_0) rfl ?_
    show Steps p.tables e below (s₁.setTop (mkF m 1 #[.val (.long q0), .second] [(.long q0)])) _
    refine XS.l2i X0.here hx rfl (hb hby d8_1) rfl ?_
    show Steps p.tables e below (s₁.setTop (mkF m 2 #[.val (.long q0), .second] [(.int (q0.toInt32))])) _
    refine XS.i2l X0.here hx rfl (hb hby d8_2) rfl ?_
    show Steps p.tables e below (s₁.setTop (mkF m 3 #[.val (.long q0), .second] [(.long ((q0.toInt32).toInt64))])) _
    refine XS.lloadN X0.here hx rfl (hb hby d8_3) rfl ?_
    show Steps p.tables e below (s₁.setTop (mkF m 4 #[.val (.long q0), .second] [(.long q0), (.long ((q0.toInt32).toInt64))])) _
    refine XS.lcmp X0.here hx rfl (hb hby d8_4) rfl ?_
    show Steps p.tables e below (s₁.setTop (mkF m 5 #[.val (.long q0), .second] [(.int (lcmpW ((q0.toInt32).toInt64) q0))])) _
    refine XS.ifYes X0.here hx rfl (pc0 := 5) (pc' := 18) rfl (hb hby d8_5) rfl ((if0 _ _).trans (teq ((lw_eq _ _).mpr (hv : ((q0.toInt32).toInt64) = q0))).1) (by decide) (by decide) ?_
    show Steps p.tables e below (s₁.setTop (mkF m 18 #[.val (.long q0), .second] [])) _
    refine XS.lloadN X0.here hx rfl (hb hby d8_18) rfl ?_
    show Steps p.tables e below (s₁.setTop (mkF m 19 #[.val (.long q0), .second] [(.long q0)])) _
    refine XS.l2i X0.here hx rfl (hb hby d8_19) rfl ?_
    show Steps p.tables e below (s₁.setTop (mkF m 20 #[.val (.long q0), .second] [(.int (q0.toInt32))])) _
    exact retI X0 hx Bd.returns (hb hby d8_20) hr
  · show Qrm8 Z q0 h0 n0 _ s₁.heap _
    rw [e0]
    exact ⟨rfl, N0, rfl⟩
theorem d9_0 : decode prog_257_method_13_code 0 = .ok (.aload_n 0, 1) := by decide +kernel
theorem d9_1 : decode prog_257_method_13_code 1 = .ok (.getfield 7, 3) := by decide +kernel
theorem d9_4 : decode prog_257_method_13_code 4 = .ok (.iconst 1, 1) := by decide +kernel
theorem d9_5 : decode prog_257_method_13_code 5 = .ok (.if_icmp .ne 12, 3) := by decide +kernel
theorem d9_8 : decode prog_257_method_13_code 8 = .ok (.aload_n 0, 1) := by decide +kernel
theorem d9_9 : decode prog_257_method_13_code 9 = .ok (.getfield 13, 3) := by decide +kernel
theorem d9_12 : decode prog_257_method_13_code 12 = .ok (.arraylength, 1) := by decide +kernel
theorem d9_13 : decode prog_257_method_13_code 13 = .ok (.istore_n 1, 1) := by decide +kernel
theorem d9_14 : decode prog_257_method_13_code 14 = .ok (.goto 26, 3) := by decide +kernel
theorem d9_40 : decode prog_257_method_13_code 40 = .ok (.iload_n 1, 1) := by decide +kernel
theorem d9_41 : decode prog_257_method_13_code 41 = .ok (.ireturn, 1) := by decide +kernel
theorem pn_9 : plainName "com/example/wadjet/wadjet/storage/IntegerChunk" = true := by first | (simp [plainName, overriddenIn]; done) | decide +kernel
theorem ef_rm9 (m : MethodId) (a0 : Addr) : entryFrame m #[(.ref a0)] 2 = mkF m 0 #[.val (.ref a0), .unset] [] := by first | (simp [entryFrame, mkF, argsToLocals, Value.category]; done) | rfl
def Qrm9 (Z : State) (a0 : Addr) (nr : Addr) (kn : ClassId) (nn : Int32) (vs : List Value) (dv : Value) (h0 : Heap) (n0 : Nat) (v : Option Value) (h : Heap) (L : List Loc) : Prop := v = some (.int nn) ∧ Fr n0 L ∧ h = h0
set_option maxRecDepth 65536 in
set_option maxHeartbeats 40000000 in
theorem rm9 (l : Launch) (Z : State) (A0 : Array Value) (hw : ∀ d ∈ tables_1, d.before A0 Z = true) (ws : List Jvm.Cond) (a0 : Addr) (nr : Addr) (kn : ClassId) (nn : Int32) (vs : List Value) (dv : Value) (h0 : Heap) (n0 : Nat) (Z0 : n0 ≤ h0.size) (F_width_a0 : Fld Z h0 a0 "com/example/wadjet/wadjet/storage/IntegerChunk" "width" "I" (.int (1 : Int32))) (F_narrow_a0 : Fld Z h0 a0 "com/example/wadjet/wadjet/storage/IntegerChunk" "narrow" "[B" (.ref nr)) (V_nr : Arv Z h0 nr kn .byte nn vs dv) :
    MetFree l (⟨"com/example/wadjet/wadjet/storage/IntegerChunk", "capacity", "()I"⟩ : MethodName) (head1 (Jvm.Cond.code (⟨"com/example/wadjet/wadjet/storage/IntegerChunk", "capacity", "()I"⟩ : MethodName) prog_257_method_13_code 2 (some .int) :: ws) ({ frames := 0, cells := 0, slots := 0, locals := 0 } : Room)) (fun a U => a = #[(.ref a0)] ∧ Z.Warmed39 U.vm ∧ U.heap = h0) (fun _ _ _ _ _ => True) (fun _ U o U' => ∃ v L, o = .returned v ∧ Qrm9 Z a0 nr kn nn vs dv h0 n0 v U'.heap L ∧ FrameEnd U o U' L ({ frames := 0, cells := 0, slots := 0, locals := 0 } : Room).cells ({ frames := 0, cells := 0, slots := 0, locals := 0 } : Room).slots) := by
  refine MetFree.of_bodySF (plainFor_of_name pn_9) hisR ?_
  intro p e s m args below meth c s₁ Bd hml0 hP hK
  obtain ⟨rfl, hZ, hh⟩ := hP
  have hx := Bd.exec
  have hby := Bd.bytes
  have hml : c.maxLocals = 2 := hml0
  have hown : s.vm.findClass "com/example/wadjet/wadjet/storage/IntegerChunk" = some m.cls := findClass_of_methodNamed Bd.named
  have hnm := (name_of_methodNamed Bd.named Bd.method).1
  have X0 : Stand p l e ({ frames := 0, cells := 0, slots := 0, locals := 0 } : Room) s m #[(.ref a0)] below meth c s₁ [] 0 0 := Stand.of_body Bd
  have e0 : s₁.heap = h0 := by rw [← hh, Bd.state]; rfl
  have N0 := Fr.nil n0
  have K0 : Keep h0 h0 [] := Keep.refl _ _
  have pre0 : ∀ t, Steps p.tables e below (s₁.setTop (mkF m 0 #[.val (.ref a0), .unset] [])) t → Steps p.tables e below (s₁.setTop (entryFrame m #[(.ref a0)] 2)) t := fun t k => castTop (ef_rm9 m a0) k
  obtain ⟨T1, X1, e1, st1⟩ := getF X0 hx hZ hown (host := "") (Or.inl (hw _ (List.mem_of_getElem? (i := 14) rfl))) Via.refl e0 F_width_a0 (g := (mkF m 1 #[.val (.ref a0), .unset] [(.ref a0)])) rfl rfl (hb hby d9_1)
  obtain ⟨T2, X2, e2, st2⟩ := getF X1 hx hZ hown (host := "") (Or.inl (hw _ (List.mem_of_getElem? (i := 17) rfl))) Via.refl e1 F_narrow_a0 (g := (mkF m 9 #[.val (.ref a0), .unset] [(.ref a0)])) rfl rfl (hb hby d9_9)
  obtain ⟨cl3, Ar3, -, SS3, MM3, -, -⟩ := id V_nr
  obtain ⟨fs, hr, hrun, hended, hW, hsame⟩ := X2.leave (v := some (.int nn)) (fun h => by rw [Bd.returns] at h; cases h)
  refine ⟨_, _, pre0 _ ?_, hrun, hended, _, _, rfl, ?_, ⟨_, rfl⟩, hW, hsame.mono (by decide) (by decide)⟩
  · show Steps p.tables e below (s₁.setTop (mkF m 0 #[.val (.ref a0), .unset] [])) _
    refine XS.aloadN X0.here hx rfl (hb hby d9_0) rfl rfl ?_
    show Steps p.tables e below (s₁.setTop (mkF m 1 #[.val (.ref a0), .unset] [(.ref a0)])) _
    refine st1 _ ?_
    show Steps p.tables e below (T1.setTop (mkF m 4 #[.val (.ref a0), .unset] [(.int (1 : Int32))])) _
    refine XS.iconst X1.here hx rfl (hb hby d9_4) ?_
    show Steps p.tables e below (T1.setTop (mkF m 5 #[.val (.ref a0), .unset] [(.int (1 : Int32)), (.int (1 : Int32))])) _
    refine XS.icmpNo X1.here hx rfl (hb hby d9_5) rfl (teq (by decide : (1 : Int32) = (1 : Int32))).2 ?_
    show Steps p.tables e below (T1.setTop (mkF m 8 #[.val (.ref a0), .unset] [])) _
    refine XS.aloadN X1.here hx rfl (hb hby d9_8) rfl rfl ?_
    show Steps p.tables e below (T1.setTop (mkF m 9 #[.val (.ref a0), .unset] [(.ref a0)])) _
    refine st2 _ ?_
    show Steps p.tables e below (T2.setTop (mkF m 12 #[.val (.ref a0), .unset] [(.ref nr)])) _
    refine X2.arraylength hx (by rw [e2]; exact Ar3.1) (State.isArrayOf_alike hZ.alike Ar3.2.1) (g := (mkF m 12 #[.val (.ref a0), .unset] [(.ref nr)])) rfl rfl (hb hby d9_12) _ ?_
    rw [len_of SS3 MM3]
    show Steps p.tables e below (T2.setTop (mkF m 13 #[.val (.ref a0), .unset] [(.int nn)])) _
    refine XS.istoreN X2.here hx rfl (hb hby d9_13) rfl (l' := #[.val (.ref a0), .val (.int nn)]) rfl ?_
    show Steps p.tables e below (T2.setTop (mkF m 14 #[.val (.ref a0), .val (.int nn)] [])) _
    refine XS.goto X2.here hx rfl (pc0 := 14) (pc' := 40) rfl (hb hby d9_14) (by decide) (by decide) ?_
    show Steps p.tables e below (T2.setTop (mkF m 40 #[.val (.ref a0), .val (.int nn)] [])) _
    refine XS.iloadN X2.here hx rfl (hb hby d9_40) rfl ?_
    show Steps p.tables e below (T2.setTop (mkF m 41 #[.val (.ref a0), .val (.int nn)] [(.int nn)])) _
    exact retI X2 hx Bd.returns (hb hby d9_41) hr
  · show Qrm9 Z a0 nr kn nn vs dv h0 n0 _ T2.heap _
    rw [e2]
    exact ⟨rfl, N0, rfl⟩
theorem d17_0 : decode jdk_65_method_121_code 0 = .ok (.iload_n 1, 1) := by decide +kernel
theorem d17_1 : decode jdk_65_method_121_code 1 = .ok (.aload_n 0, 1) := by decide +kernel
theorem d17_2 : decode jdk_65_method_121_code 2 = .ok (.arraylength, 1) := by decide +kernel
theorem d17_3 : decode jdk_65_method_121_code 3 = .ok (.if_icmp .ne 11, 3) := by decide +kernel
theorem d17_14 : decode jdk_65_method_121_code 14 = .ok (.iload_n 1, 1) := by decide +kernel
theorem d17_15 : decode jdk_65_method_121_code 15 = .ok (.newarray .byte, 2) := by decide +kernel
theorem d17_17 : decode jdk_65_method_121_code 17 = .ok (.astore_n 2, 1) := by decide +kernel
theorem d17_18 : decode jdk_65_method_121_code 18 = .ok (.aload_n 0, 1) := by decide +kernel
theorem d17_19 : decode jdk_65_method_121_code 19 = .ok (.iconst 0, 1) := by decide +kernel
theorem d17_20 : decode jdk_65_method_121_code 20 = .ok (.aload_n 2, 1) := by decide +kernel
theorem d17_21 : decode jdk_65_method_121_code 21 = .ok (.iconst 0, 1) := by decide +kernel
theorem d17_22 : decode jdk_65_method_121_code 22 = .ok (.aload_n 0, 1) := by decide +kernel
theorem d17_23 : decode jdk_65_method_121_code 23 = .ok (.arraylength, 1) := by decide +kernel
theorem d17_24 : decode jdk_65_method_121_code 24 = .ok (.iload_n 1, 1) := by decide +kernel
theorem d17_25 : decode jdk_65_method_121_code 25 = .ok (.invokestatic 304, 3) := by decide +kernel
theorem d17_28 : decode jdk_65_method_121_code 28 = .ok (.invokestatic 150, 3) := by decide +kernel
theorem d17_31 : decode jdk_65_method_121_code 31 = .ok (.aload_n 2, 1) := by decide +kernel
theorem d17_32 : decode jdk_65_method_121_code 32 = .ok (.areturn, 1) := by decide +kernel
theorem pn_17 : plainName "java/util/Arrays" = true := by first | (simp [plainName, overriddenIn]; done) | decide +kernel
theorem ef_rm17 (m : MethodId) (a0 : Addr) (p1 : Int32) : entryFrame m #[(.ref a0), (.int p1)] 3 = mkF m 0 #[.val (.ref a0), .val (.int p1), .unset] [] := by first | (simp [entryFrame, mkF, argsToLocals, Value.category]; done) | rfl
def Qrm17 (Z : State) (a0 : Addr) (p1 : Int32) (k1 : ClassId) (nn : Int32) (vs : List Value) (h0 : Heap) (n0 : Nat) (v : Option Value) (h : Heap) (L : List Loc) : Prop := ∃ b : Addr, ∃ kb : ClassId, v = some (.ref b) ∧ Fr n0 L ∧ n0 ≤ b ∧ h0.size ≤ b ∧ Keep h0 h [] ∧ Arv Z h b kb .byte p1 (own_copy vs nn.toNatClampNeg p1.toNatClampNeg) (.int (0 : Int32))
set_option maxRecDepth 65536 in
set_option maxHeartbeats 40000000 in
theorem rm17 (l : Launch) (Z : State) (A0 : Array Value) (hw : ∀ d ∈ tables_1, d.before A0 Z = true) (ws : List Jvm.Cond) (a0 : Addr) (p1 : Int32) (k1 : ClassId) (nn : Int32) (vs : List Value) (h0 : Heap) (n0 : Nat) (Z0 : n0 ≤ h0.size) (V_a0 : Arv Z h0 a0 k1 .byte nn vs (.int (0 : Int32))) (hne : ¬ (p1 = nn)) (hle : 0 ≤ nn.toInt ∧ nn.toInt ≤ p1.toInt ∧ p1.toInt ≤ 256) :
    MetFree l (⟨"java/util/Arrays", "copyOf", "([BI)[B"⟩ : MethodName) (head1 (Jvm.Cond.code (⟨"java/util/Arrays", "copyOf", "([BI)[B"⟩ : MethodName) jdk_65_method_121_code 3 (some (.array .byte)) :: ws) ({ frames := 1, cells := 1, slots := 256, locals := 18 } : Room)) (fun a U => a = #[(.ref a0), (.int p1)] ∧ Z.Warmed39 U.vm ∧ U.heap = h0) (fun _ _ _ _ _ => True) (fun _ U o U' => ∃ v L, o = .returned v ∧ Qrm17 Z a0 p1 k1 nn vs h0 n0 v U'.heap L ∧ FrameEnd U o U' L ({ frames := 1, cells := 1, slots := 256, locals := 18 } : Room).cells ({ frames := 1, cells := 1, slots := 256, locals := 18 } : Room).slots) := by
  refine MetFree.of_bodySF (plainFor_of_name pn_17) hisR ?_
  intro p e s m args below meth c s₁ Bd hml0 hP hK
  obtain ⟨rfl, hZ, hh⟩ := hP
  have hx := Bd.exec
  have hby := Bd.bytes
  have hml : c.maxLocals = 3 := hml0
  have hown : s.vm.findClass "java/util/Arrays" = some m.cls := findClass_of_methodNamed Bd.named
  have hnm := (name_of_methodNamed Bd.named Bd.method).1
  have X0 : Stand p l e ({ frames := 1, cells := 1, slots := 256, locals := 18 } : Room) s m #[(.ref a0), (.int p1)] below meth c s₁ [] 0 0 := Stand.of_body Bd
  have e0 : s₁.heap = h0 := by rw [← hh, Bd.state]; rfl
  have N0 := Fr.nil n0
  have K0 : Keep h0 h0 [] := Keep.refl _ _
  have pre0 : ∀ t, Steps p.tables e below (s₁.setTop (mkF m 0 #[.val (.ref a0), .val (.int p1), .unset] [])) t → Steps p.tables e below (s₁.setTop (entryFrame m #[(.ref a0), (.int p1)] 3)) t := fun t k => castTop (ef_rm17 m a0 p1) k
  obtain ⟨cl1, Ar1, -, SS1, MM1, -, -⟩ := id V_a0
  obtain ⟨T2, h2, k2, X2, e2, E2, A2, st2⟩ := newP X0 hx hZ (hw _ (List.mem_of_getElem? (i := 16) rfl)) e0 (g := (mkF m 15 #[.val (.ref a0), .val (.int p1), .unset] [(.int p1)])) rfl (hb hby d17_15) rfl (own_nneg (by omega)) (cap := 256) (by rw [own_tn]; omega) (by decide) (by decide) (by decide)
  obtain ⟨bb, g2⟩ : ∃ z, z = h0.size := ⟨_, rfl⟩
  rw [← g2] at A2 st2
  have ne_a0_bb : a0 ≠ bb := Nat.ne_of_lt (Nat.lt_of_lt_of_le V_a0.lt (Nat.le_of_eq g2.symm))
  have g_bb : n0 ≤ bb := Nat.le_trans Z0 (Nat.le_of_eq g2.symm)
  have sz_bb : h0.size ≤ bb := Nat.le_trans K0.1 (Nat.le_of_eq g2.symm)
  have V_a0 : Arv Z h2 a0 k1 .byte nn vs (.int (0 : Int32)) := V_a0.ext E2
  have Zh2 : n0 ≤ h2.size := Nat.le_trans Z0 E2.1
  have Kh2 : Keep h0 h2 [] := K0.ext E2
  have V_bb : Arv Z h2 bb k2 .byte p1 [] (.int (0 : Int32)) := Arv.new A2 (own_nneg (by omega))
  have V_bb : Arv Z h2 bb k2 .byte p1 (List.replicate (p1).toNatClampNeg (.int (0 : Int32))) (.int (0 : Int32)) := V_bb.pad (pad_rep [] (.int (0 : Int32)) (p1).toNatClampNeg)
  obtain ⟨cl3, Ar3, -, SS3, MM3, -, -⟩ := id V_a0
  obtain ⟨_, _, ⟨T4, L4, k4, n4⟩, -, X4, ⟨Lc4, hQ4, l4, y4, z4⟩, st4⟩ := Jvm.LawKit.callS X2 hx (y := (⟨"java/lang/Math", "min", "(II)I"⟩ : MethodName)) hown (mvT hZ (hw _ (List.mem_of_getElem? (i := 86) rfl))) (mvT hZ (hw _ (List.mem_of_getElem? (i := 76) rfl))) (mvT hZ (hw _ (List.mem_of_getElem? (i := 43) rfl))) (mvT hZ (hw _ (List.mem_of_getElem? (i := 77) rfl))) (by decide) (backOf (W := 4) (rm15 l Z A0 hw [] nn p1  h2 n0 Zh2 ) hZ (hw _ (List.mem_of_getElem? (i := 77) rfl)) (hw _ (List.mem_of_getElem? (i := 43) rfl)) (by decide) (by decide)) (g := (mkF m 25 #[.val (.ref a0), .val (.int p1), .val (.ref bb)] [(.int p1), (.int nn), (.int (0 : Int32)), (.ref bb), (.int (0 : Int32)), (.ref a0)])) rfl (by rw [hml]; rfl) (argsL := [(.int nn), (.int p1)]) (rest := [(.int (0 : Int32)), (.ref bb), (.int (0 : Int32)), (.ref a0)]) (lenOf pd_1 rfl) rfl (by show 2 * 0 + _ ≤ _; exact Nat.le_of_eq rfl) (hb hby d17_25) (fun _ _ => ⟨rfl, e2, (by decide : 1 + 0 ≤ _), (by decide : 256 + 0 ≤ _)⟩)
  dsimp only [Pt.U, Pt.locs, Pt.cells, Pt.slots] at X4 l4 y4 z4 st4 hQ4
  subst y4 z4
  obtain ⟨rfl, N4q, eh4⟩ := hQ4
  have N4 : Fr n0 L4 := by rw [l4]; exact Fr.app N0 N4q
  clear l4
  obtain ⟨cn, h_cn⟩ : ∃ z : Int32, z = (if p1 < nn then p1 else nn) := ⟨_, rfl⟩
  rcases (own_min (a := nn) (b := p1) hle.2.1 h_cn).symm with rfl
  obtain ⟨T5, h5, L5, X5, e5, N5, Kc5, P5, st5⟩ := cpA X4 hx hZ hown (hw _ (List.mem_of_getElem? (i := 87) rfl)) (hw _ (List.mem_of_getElem? (i := 90) rfl)) (hw _ (List.mem_of_getElem? (i := 88) rfl)) (hw _ (List.mem_of_getElem? (i := 89) rfl)) eh4 V_a0 V_bb (us := ((List.range (nn).toNatClampNeg).map fun i => (vs).getD (((0 : Int32)).toNatClampNeg + i) (.int (0 : Int32)))) (Or.inl ⟨rfl, rfl⟩) (by decide) (by decide) (own_nneg hle.1) (by show 0 + _ ≤ _; omega) (by show 0 + _ ≤ _; rw [own_tn, own_tn]; omega) rfl (by rw [List.length_replicate]; show 0 + _ ≤ _; rw [own_tn, own_tn]; omega) N4 g_bb (g := (mkF m 28 #[.val (.ref a0), .val (.int p1), .val (.ref bb)] [(.int nn), (.int (0 : Int32)), (.ref bb), (.int (0 : Int32)), (.ref a0)])) rfl (by rw [hml]; rfl) rfl (hb hby d17_28) (by decide) (W := 0) (by show 2 * 0 + _ ≤ _; exact Nat.le_of_eq rfl) (by decide)
  have V_a0 : Arv Z h5 a0 k1 .byte nn vs (.int (0 : Int32)) := V_a0.keep Kc5 (ninS ne_a0_bb nin0)
  have Zh5 : n0 ≤ h5.size := Nat.le_trans Zh2 Kc5.1
  have Kh5 : Keep h0 h5 [] := Kh2.trans Kc5 (allS (Or.inr sz_bb) all0)
  have V_bb : Arv Z h5 bb k2 .byte p1 (own_copy vs nn.toNatClampNeg p1.toNatClampNeg) (.int (0 : Int32)) := P5
  obtain ⟨fs, hr, hrun, hended, hW, hsame⟩ := X5.leave (v := some (.ref bb)) (fun h => by rw [Bd.returns] at h; cases h)
  refine ⟨_, _, pre0 _ ?_, hrun, hended, _, _, rfl, ?_, ⟨_, rfl⟩, hW, hsame.mono (by decide) (by decide)⟩
  · show Steps p.tables e below (s₁.setTop (mkF m 0 #[.val (.ref a0), .val (.int p1), .unset] [])) _
    refine XS.iloadN X0.here hx rfl (hb hby d17_0) rfl ?_
    show Steps p.tables e below (s₁.setTop (mkF m 1 #[.val (.ref a0), .val (.int p1), .unset] [(.int p1)])) _
    refine XS.aloadN X0.here hx rfl (hb hby d17_1) rfl rfl ?_
    show Steps p.tables e below (s₁.setTop (mkF m 2 #[.val (.ref a0), .val (.int p1), .unset] [(.ref a0), (.int p1)])) _
    refine X0.arraylength hx (by rw [e0]; exact Ar1.1) (State.isArrayOf_alike hZ.alike Ar1.2.1) (g := (mkF m 2 #[.val (.ref a0), .val (.int p1), .unset] [(.ref a0), (.int p1)])) rfl rfl (hb hby d17_2) _ ?_
    rw [len_of SS1 MM1]
    show Steps p.tables e below (s₁.setTop (mkF m 3 #[.val (.ref a0), .val (.int p1), .unset] [(.int nn), (.int p1)])) _
    refine XS.icmpYes X0.here hx rfl (pc0 := 3) (pc' := 14) rfl (hb hby d17_3) rfl (feq (hne : ¬ (p1 = nn))).2 (by decide) (by decide) ?_
    show Steps p.tables e below (s₁.setTop (mkF m 14 #[.val (.ref a0), .val (.int p1), .unset] [])) _
    refine XS.iloadN X0.here hx rfl (hb hby d17_14) rfl ?_
    show Steps p.tables e below (s₁.setTop (mkF m 15 #[.val (.ref a0), .val (.int p1), .unset] [(.int p1)])) _
    refine st2 _ ?_
    show Steps p.tables e below (T2.setTop (mkF m 17 #[.val (.ref a0), .val (.int p1), .unset] [(.ref bb)])) _
    refine XS.astoreN X2.here hx rfl (hb hby d17_17) rfl rfl (l' := #[.val (.ref a0), .val (.int p1), .val (.ref bb)]) rfl ?_
    show Steps p.tables e below (T2.setTop (mkF m 18 #[.val (.ref a0), .val (.int p1), .val (.ref bb)] [])) _
    refine XS.aloadN X2.here hx rfl (hb hby d17_18) rfl rfl ?_
    show Steps p.tables e below (T2.setTop (mkF m 19 #[.val (.ref a0), .val (.int p1), .val (.ref bb)] [(.ref a0)])) _
    refine XS.iconst X2.here hx rfl (hb hby d17_19) ?_
    show Steps p.tables e below (T2.setTop (mkF m 20 #[.val (.ref a0), .val (.int p1), .val (.ref bb)] [(.int (0 : Int32)), (.ref a0)])) _
    refine XS.aloadN X2.here hx rfl (hb hby d17_20) rfl rfl ?_
    show Steps p.tables e below (T2.setTop (mkF m 21 #[.val (.ref a0), .val (.int p1), .val (.ref bb)] [(.ref bb), (.int (0 : Int32)), (.ref a0)])) _
    refine XS.iconst X2.here hx rfl (hb hby d17_21) ?_
    show Steps p.tables e below (T2.setTop (mkF m 22 #[.val (.ref a0), .val (.int p1), .val (.ref bb)] [(.int (0 : Int32)), (.ref bb), (.int (0 : Int32)), (.ref a0)])) _
    refine XS.aloadN X2.here hx rfl (hb hby d17_22) rfl rfl ?_
    show Steps p.tables e below (T2.setTop (mkF m 23 #[.val (.ref a0), .val (.int p1), .val (.ref bb)] [(.ref a0), (.int (0 : Int32)), (.ref bb), (.int (0 : Int32)), (.ref a0)])) _
    refine X2.arraylength hx (by rw [e2]; exact Ar3.1) (State.isArrayOf_alike hZ.alike Ar3.2.1) (g := (mkF m 23 #[.val (.ref a0), .val (.int p1), .val (.ref bb)] [(.ref a0), (.int (0 : Int32)), (.ref bb), (.int (0 : Int32)), (.ref a0)])) rfl rfl (hb hby d17_23) _ ?_
    rw [len_of SS3 MM3]
    show Steps p.tables e below (T2.setTop (mkF m 24 #[.val (.ref a0), .val (.int p1), .val (.ref bb)] [(.int nn), (.int (0 : Int32)), (.ref bb), (.int (0 : Int32)), (.ref a0)])) _
    refine XS.iloadN X2.here hx rfl (hb hby d17_24) rfl ?_
    show Steps p.tables e below (T2.setTop (mkF m 25 #[.val (.ref a0), .val (.int p1), .val (.ref bb)] [(.int p1), (.int nn), (.int (0 : Int32)), (.ref bb), (.int (0 : Int32)), (.ref a0)])) _
    refine st4 _ ?_
    show Steps p.tables e below (T4.setTop (mkF m 28 #[.val (.ref a0), .val (.int p1), .val (.ref bb)] [(.int (if p1 < nn then p1 else nn)), (.int (0 : Int32)), (.ref bb), (.int (0 : Int32)), (.ref a0)])) _
    rw [← h_cn]
    show Steps p.tables e below (T4.setTop (mkF m 28 #[.val (.ref a0), .val (.int p1), .val (.ref bb)] [(.int nn), (.int (0 : Int32)), (.ref bb), (.int (0 : Int32)), (.ref a0)])) _
    refine st5 _ ?_
    show Steps p.tables e below (T5.setTop (mkF m 31 #[.val (.ref a0), .val (.int p1), .val (.ref bb)] [])) _
    refine XS.aloadN X5.here hx rfl (hb hby d17_31) rfl rfl ?_
    show Steps p.tables e below (T5.setTop (mkF m 32 #[.val (.ref a0), .val (.int p1), .val (.ref bb)] [(.ref bb)])) _
    exact own_retR X5 hx Bd.returns rfl rfl rfl (hb hby d17_32) hr
  · show Qrm17 Z a0 p1 k1 nn vs h0 n0 _ T5.heap _
    rw [e5]
    exact ⟨bb, k2, rfl, N5, g_bb, sz_bb, Kh5, V_bb⟩
theorem pd_2 : parseMethodDescriptor "([BI)[B" = some ⟨[(.array .byte), .int], some (.array .byte)⟩ := by decide +kernel
theorem d16_0 : decode prog_257_method_14_code 0 = .ok (.aload_n 0, 1) := by decide +kernel
theorem d16_1 : decode prog_257_method_14_code 1 = .ok (.getfield 7, 3) := by decide +kernel
theorem d16_4 : decode prog_257_method_14_code 4 = .ok (.iconst 1, 1) := by decide +kernel
theorem d16_5 : decode prog_257_method_14_code 5 = .ok (.if_icmp .ne 18, 3) := by decide +kernel
theorem d16_8 : decode prog_257_method_14_code 8 = .ok (.aload_n 0, 1) := by decide +kernel
theorem d16_9 : decode prog_257_method_14_code 9 = .ok (.aload_n 0, 1) := by decide +kernel
theorem d16_10 : decode prog_257_method_14_code 10 = .ok (.getfield 13, 3) := by decide +kernel
theorem d16_13 : decode prog_257_method_14_code 13 = .ok (.iload_n 1, 1) := by decide +kernel
theorem d16_14 : decode prog_257_method_14_code 14 = .ok (.invokestatic 100, 3) := by decide +kernel
theorem d16_17 : decode prog_257_method_14_code 17 = .ok (.putfield 13, 3) := by decide +kernel
theorem d16_20 : decode prog_257_method_14_code 20 = .ok (.goto 38, 3) := by decide +kernel
theorem d16_58 : decode prog_257_method_14_code 58 = .ok (.return_, 1) := by decide +kernel
theorem pn_16 : plainName "com/example/wadjet/wadjet/storage/IntegerChunk" = true := by first | (simp [plainName, overriddenIn]; done) | decide +kernel
theorem ef_rm16 (m : MethodId) (a0 : Addr) (p1 : Int32) : entryFrame m #[(.ref a0), (.int p1)] 2 = mkF m 0 #[.val (.ref a0), .val (.int p1)] [] := by first | (simp [entryFrame, mkF, argsToLocals, Value.category]; done) | rfl
def Qrm16 (Z : State) (a0 : Addr) (p1 : Int32) (u_base : Value) (u_based : Value) (u_middle : Value) (u_wide : Value) (u_nulls : Value) (nr : Addr) (kn : ClassId) (nn : Int32) (vs : List Value) (h0 : Heap) (n0 : Nat) (v : Option Value) (h : Heap) (L : List Loc) : Prop := ∃ b : Addr, ∃ kb : ClassId, v = none ∧ Fr n0 L ∧ (n0 ≤ b ∧ h0.size ≤ b) ∧ Keep h0 h [a0] ∧ Exa Z h a0 "com/example/wadjet/wadjet/storage/IntegerChunk" ∧ Fld Z h a0 "com/example/wadjet/wadjet/storage/IntegerChunk" "width" "I" (.int (1 : Int32)) ∧ Fld Z h a0 "com/example/wadjet/wadjet/storage/IntegerChunk" "base" "J" u_base ∧ Fld Z h a0 "com/example/wadjet/wadjet/storage/IntegerChunk" "based" "Z" u_based ∧ Fld Z h a0 "com/example/wadjet/wadjet/storage/IntegerChunk" "narrow" "[B" (.ref b) ∧ Fld Z h a0 "com/example/wadjet/wadjet/storage/IntegerChunk" "middle" "[C" u_middle ∧ Fld Z h a0 "com/example/wadjet/wadjet/storage/IntegerChunk" "wide" "[I" u_wide ∧ Fld Z h a0 "com/example/wadjet/wadjet/storage/IntegerChunk" "nulls" "[J" u_nulls ∧ Arv Z h b kb .byte p1 (own_copy vs nn.toNatClampNeg p1.toNatClampNeg) (.int (0 : Int32))
set_option maxRecDepth 65536 in
set_option maxHeartbeats 40000000 in
theorem rm16 (l : Launch) (Z : State) (A0 : Array Value) (hw : ∀ d ∈ tables_1, d.before A0 Z = true) (ws : List Jvm.Cond) (a0 : Addr) (p1 : Int32) (u_base : Value) (u_based : Value) (u_middle : Value) (u_wide : Value) (u_nulls : Value) (nr : Addr) (kn : ClassId) (nn : Int32) (vs : List Value) (h0 : Heap) (n0 : Nat) (Z0 : n0 ≤ h0.size) (E_a0 : Exa Z h0 a0 "com/example/wadjet/wadjet/storage/IntegerChunk") (F_width_a0 : Fld Z h0 a0 "com/example/wadjet/wadjet/storage/IntegerChunk" "width" "I" (.int (1 : Int32))) (F_base_a0 : Fld Z h0 a0 "com/example/wadjet/wadjet/storage/IntegerChunk" "base" "J" u_base) (F_based_a0 : Fld Z h0 a0 "com/example/wadjet/wadjet/storage/IntegerChunk" "based" "Z" u_based) (F_narrow_a0 : Fld Z h0 a0 "com/example/wadjet/wadjet/storage/IntegerChunk" "narrow" "[B" (.ref nr)) (F_middle_a0 : Fld Z h0 a0 "com/example/wadjet/wadjet/storage/IntegerChunk" "middle" "[C" u_middle) (F_wide_a0 : Fld Z h0 a0 "com/example/wadjet/wadjet/storage/IntegerChunk" "wide" "[I" u_wide) (F_nulls_a0 : Fld Z h0 a0 "com/example/wadjet/wadjet/storage/IntegerChunk" "nulls" "[J" u_nulls) (V_nr : Arv Z h0 nr kn .byte nn vs (.int (0 : Int32))) (g_a0 : n0 ≤ a0) (ne_nr_a0 : nr ≠ a0) (hne : ¬ (p1 = nn)) (hle : 0 ≤ nn.toInt ∧ nn.toInt ≤ p1.toInt ∧ p1.toInt ≤ 256) :
    MetFree l (⟨"com/example/wadjet/wadjet/storage/IntegerChunk", "resize", "(I)V"⟩ : MethodName) (head1 (Jvm.Cond.code (⟨"com/example/wadjet/wadjet/storage/IntegerChunk", "resize", "(I)V"⟩ : MethodName) prog_257_method_14_code 2 none :: ws) ({ frames := 2, cells := 1, slots := 256, locals := 33 } : Room)) (fun a U => a = #[(.ref a0), (.int p1)] ∧ Z.Warmed39 U.vm ∧ U.heap = h0) (fun _ _ _ _ _ => True) (fun _ U o U' => ∃ v L, o = .returned v ∧ Qrm16 Z a0 p1 u_base u_based u_middle u_wide u_nulls nr kn nn vs h0 n0 v U'.heap L ∧ FrameEnd U o U' L ({ frames := 2, cells := 1, slots := 256, locals := 33 } : Room).cells ({ frames := 2, cells := 1, slots := 256, locals := 33 } : Room).slots) := by
  refine MetFree.of_bodySF (plainFor_of_name pn_16) hisR ?_
  intro p e s m args below meth c s₁ Bd hml0 hP hK
  obtain ⟨rfl, hZ, hh⟩ := hP
  have hx := Bd.exec
  have hby := Bd.bytes
  have hml : c.maxLocals = 2 := hml0
  have hown : s.vm.findClass "com/example/wadjet/wadjet/storage/IntegerChunk" = some m.cls := findClass_of_methodNamed Bd.named
  have hnm := (name_of_methodNamed Bd.named Bd.method).1
  have X0 : Stand p l e ({ frames := 2, cells := 1, slots := 256, locals := 33 } : Room) s m #[(.ref a0), (.int p1)] below meth c s₁ [] 0 0 := Stand.of_body Bd
  have e0 : s₁.heap = h0 := by rw [← hh, Bd.state]; rfl
  have N0 := Fr.nil n0
  have K0 : Keep h0 h0 [a0] := Keep.refl _ _
  have pre0 : ∀ t, Steps p.tables e below (s₁.setTop (mkF m 0 #[.val (.ref a0), .val (.int p1)] [])) t → Steps p.tables e below (s₁.setTop (entryFrame m #[(.ref a0), (.int p1)] 2)) t := fun t k => castTop (ef_rm16 m a0 p1) k
  obtain ⟨T1, X1, e1, st1⟩ := getF X0 hx hZ hown (host := "") (Or.inl (hw _ (List.mem_of_getElem? (i := 14) rfl))) Via.refl e0 F_width_a0 (g := (mkF m 1 #[.val (.ref a0), .val (.int p1)] [(.ref a0)])) rfl rfl (hb hby d16_1)
  obtain ⟨T2, X2, e2, st2⟩ := getF X1 hx hZ hown (host := "") (Or.inl (hw _ (List.mem_of_getElem? (i := 17) rfl))) Via.refl e1 F_narrow_a0 (g := (mkF m 10 #[.val (.ref a0), .val (.int p1)] [(.ref a0), (.ref a0)])) rfl rfl (hb hby d16_10)
  obtain ⟨_, _, ⟨T3, L3, k3, n3⟩, -, X3, ⟨Lc3, hQ3, l3, y3, z3⟩, st3⟩ := Jvm.LawKit.callS X2 hx (y := (⟨"java/util/Arrays", "copyOf", "([BI)[B"⟩ : MethodName)) hown (mvT hZ (hw _ (List.mem_of_getElem? (i := 82) rfl))) (mvT hZ (hw _ (List.mem_of_getElem? (i := 83) rfl))) (mvT hZ (hw _ (List.mem_of_getElem? (i := 84) rfl))) (mvT hZ (hw _ (List.mem_of_getElem? (i := 85) rfl))) (by decide) (backOf (W := 1) (rm17 l Z A0 hw [] nr p1 kn nn vs h0 n0 Z0 V_nr (hne) (hle)) hZ (hw _ (List.mem_of_getElem? (i := 85) rfl)) (hw _ (List.mem_of_getElem? (i := 84) rfl)) (by decide) (by decide)) (g := (mkF m 14 #[.val (.ref a0), .val (.int p1)] [(.int p1), (.ref nr), (.ref a0)])) rfl (by rw [hml]; rfl) (argsL := [(.ref nr), (.int p1)]) (rest := [(.ref a0)]) (lenOf pd_2 rfl) rfl (by show 2 * 0 + _ ≤ _; exact Nat.le_of_eq rfl) (hb hby d16_14) (fun _ _ => ⟨rfl, e2, (by decide : 0 + 1 ≤ _), (by decide : 0 + 256 ≤ _)⟩)
  dsimp only [Pt.U, Pt.locs, Pt.cells, Pt.slots] at X3 l3 y3 z3 st3 hQ3
  subst y3 z3
  obtain ⟨b3, kb3, rfl, N3q, gb3, sb3, Kc3, P3_0⟩ := hQ3
  have N3 : Fr n0 L3 := by rw [l3]; exact Fr.app N0 N3q
  clear l3
  have ne_a0_b3 : a0 ≠ b3 := Nat.ne_of_lt (Nat.lt_of_lt_of_le E_a0.lt sb3)
  have ne_nr_b3 : nr ≠ b3 := Nat.ne_of_lt (Nat.lt_of_lt_of_le V_nr.lt sb3)
  have sz_b3 : h0.size ≤ b3 := Nat.le_trans K0.1 sb3
  have E_a0 : Exa Z T3.heap a0 "com/example/wadjet/wadjet/storage/IntegerChunk" := E_a0.keep Kc3
  have F_width_a0 : Fld Z T3.heap a0 "com/example/wadjet/wadjet/storage/IntegerChunk" "width" "I" (.int (1 : Int32)) := F_width_a0.keep Kc3 nin0
  have F_base_a0 : Fld Z T3.heap a0 "com/example/wadjet/wadjet/storage/IntegerChunk" "base" "J" u_base := F_base_a0.keep Kc3 nin0
  have F_based_a0 : Fld Z T3.heap a0 "com/example/wadjet/wadjet/storage/IntegerChunk" "based" "Z" u_based := F_based_a0.keep Kc3 nin0
  have F_narrow_a0 : Fld Z T3.heap a0 "com/example/wadjet/wadjet/storage/IntegerChunk" "narrow" "[B" (.ref nr) := F_narrow_a0.keep Kc3 nin0
  have F_middle_a0 : Fld Z T3.heap a0 "com/example/wadjet/wadjet/storage/IntegerChunk" "middle" "[C" u_middle := F_middle_a0.keep Kc3 nin0
  have F_wide_a0 : Fld Z T3.heap a0 "com/example/wadjet/wadjet/storage/IntegerChunk" "wide" "[I" u_wide := F_wide_a0.keep Kc3 nin0
  have F_nulls_a0 : Fld Z T3.heap a0 "com/example/wadjet/wadjet/storage/IntegerChunk" "nulls" "[J" u_nulls := F_nulls_a0.keep Kc3 nin0
  have V_nr : Arv Z T3.heap nr kn .byte nn vs (.int (0 : Int32)) := V_nr.keep Kc3 nin0
  have ZT3_heap : n0 ≤ T3.heap.size := Nat.le_trans Z0 Kc3.1
  have KT3_heap : Keep h0 T3.heap [a0] := K0.trans Kc3 all0
  have V_b3 : Arv Z T3.heap b3 kb3 .byte p1 (own_copy vs nn.toNatClampNeg p1.toNatClampNeg) (.int (0 : Int32)) := P3_0
  obtain ⟨T4, h4, X4, e4, W4, st4⟩ := putF X3 hx hZ hown (host := "") (Or.inl (hw _ (List.mem_of_getElem? (i := 17) rfl))) Via.refl rfl F_narrow_a0 E_a0 (Or.inl (hw _ (List.mem_of_getElem? (i := 18) rfl))) (hw _ (List.mem_of_getElem? (i := 1) rfl)) (ty := (.array .byte)) (by decide) rfl rfl (g := (mkF m 17 #[.val (.ref a0), .val (.int p1)] [(.ref b3), (.ref a0)])) rfl rfl (hb hby d16_17)
  have F_narrow_a0 : Fld Z h4 a0 "com/example/wadjet/wadjet/storage/IntegerChunk" "narrow" "[B" (.ref b3) := F_narrow_a0.same W4
  have E_a0 : Exa Z h4 a0 "com/example/wadjet/wadjet/storage/IntegerChunk" := E_a0.wr W4
  have F_width_a0 : Fld Z h4 a0 "com/example/wadjet/wadjet/storage/IntegerChunk" "width" "I" (.int (1 : Int32)) := F_width_a0.other W4 (Or.inr (slot_ne (Or.inl (hw _ (List.mem_of_getElem? (i := 15) rfl))) (Or.inl (hw _ (List.mem_of_getElem? (i := 18) rfl))) (by decide) (t := .int) (t' := (.array .byte)) (by decide) (by decide)))
  have F_base_a0 : Fld Z h4 a0 "com/example/wadjet/wadjet/storage/IntegerChunk" "base" "J" u_base := F_base_a0.other W4 (Or.inr (slot_ne (Or.inl (hw _ (List.mem_of_getElem? (i := 48) rfl))) (Or.inl (hw _ (List.mem_of_getElem? (i := 18) rfl))) (by decide) (t := .long) (t' := (.array .byte)) (by decide) (by decide)))
  have F_based_a0 : Fld Z h4 a0 "com/example/wadjet/wadjet/storage/IntegerChunk" "based" "Z" u_based := F_based_a0.other W4 (Or.inr (slot_ne (Or.inl (hw _ (List.mem_of_getElem? (i := 46) rfl))) (Or.inl (hw _ (List.mem_of_getElem? (i := 18) rfl))) (by decide) (t := .boolean) (t' := (.array .byte)) (by decide) (by decide)))
  have F_middle_a0 : Fld Z h4 a0 "com/example/wadjet/wadjet/storage/IntegerChunk" "middle" "[C" u_middle := F_middle_a0.other W4 (Or.inr (slot_ne (Or.inl (hw _ (List.mem_of_getElem? (i := 92) rfl))) (Or.inl (hw _ (List.mem_of_getElem? (i := 18) rfl))) (by decide) (t := (.array .char)) (t' := (.array .byte)) (by decide) (by decide)))
  have F_wide_a0 : Fld Z h4 a0 "com/example/wadjet/wadjet/storage/IntegerChunk" "wide" "[I" u_wide := F_wide_a0.other W4 (Or.inr (slot_ne (Or.inl (hw _ (List.mem_of_getElem? (i := 94) rfl))) (Or.inl (hw _ (List.mem_of_getElem? (i := 18) rfl))) (by decide) (t := (.array .int)) (t' := (.array .byte)) (by decide) (by decide)))
  have F_nulls_a0 : Fld Z h4 a0 "com/example/wadjet/wadjet/storage/IntegerChunk" "nulls" "[J" u_nulls := F_nulls_a0.other W4 (Or.inr (slot_ne (Or.inl (hw _ (List.mem_of_getElem? (i := 25) rfl))) (Or.inl (hw _ (List.mem_of_getElem? (i := 18) rfl))) (by decide) (t := (.array .long)) (t' := (.array .byte)) (by decide) (by decide)))
  have V_nr : Arv Z h4 nr kn .byte nn vs (.int (0 : Int32)) := V_nr.other W4 ne_nr_a0
  have V_b3 : Arv Z h4 b3 kb3 .byte p1 (own_copy vs nn.toNatClampNeg p1.toNatClampNeg) (.int (0 : Int32)) := V_b3.other W4 (Ne.symm ne_a0_b3)
  have Zh4 : n0 ≤ h4.size := Nat.le_trans ZT3_heap (Keep.of_wr W4).1
  have Kh4 : Keep h0 h4 [a0] := KT3_heap.wr W4 (Or.inl (by simp))
  have N4 := Fr.snoc X4 N3 g_a0
  obtain ⟨fs, hr, hrun, hended, hW, hsame⟩ := X4.leave (v := none) (fun _ => rfl)
  refine ⟨_, _, pre0 _ ?_, hrun, hended, _, _, rfl, ?_, ⟨_, rfl⟩, hW, hsame.mono (by decide) (by decide)⟩
  · show Steps p.tables e below (s₁.setTop (mkF m 0 #[.val (.ref a0), .val (.int p1)] [])) _
    refine XS.aloadN X0.here hx rfl (hb hby d16_0) rfl rfl ?_
    show Steps p.tables e below (s₁.setTop (mkF m 1 #[.val (.ref a0), .val (.int p1)] [(.ref a0)])) _
    refine st1 _ ?_
    show Steps p.tables e below (T1.setTop (mkF m 4 #[.val (.ref a0), .val (.int p1)] [(.int (1 : Int32))])) _
    refine XS.iconst X1.here hx rfl (hb hby d16_4) ?_
    show Steps p.tables e below (T1.setTop (mkF m 5 #[.val (.ref a0), .val (.int p1)] [(.int (1 : Int32)), (.int (1 : Int32))])) _
    refine XS.icmpNo X1.here hx rfl (hb hby d16_5) rfl (teq (by decide : (1 : Int32) = (1 : Int32))).2 ?_
    show Steps p.tables e below (T1.setTop (mkF m 8 #[.val (.ref a0), .val (.int p1)] [])) _
    refine XS.aloadN X1.here hx rfl (hb hby d16_8) rfl rfl ?_
    show Steps p.tables e below (T1.setTop (mkF m 9 #[.val (.ref a0), .val (.int p1)] [(.ref a0)])) _
    refine XS.aloadN X1.here hx rfl (hb hby d16_9) rfl rfl ?_
    show Steps p.tables e below (T1.setTop (mkF m 10 #[.val (.ref a0), .val (.int p1)] [(.ref a0), (.ref a0)])) _
    refine st2 _ ?_
    show Steps p.tables e below (T2.setTop (mkF m 13 #[.val (.ref a0), .val (.int p1)] [(.ref nr), (.ref a0)])) _
    refine XS.iloadN X2.here hx rfl (hb hby d16_13) rfl ?_
    show Steps p.tables e below (T2.setTop (mkF m 14 #[.val (.ref a0), .val (.int p1)] [(.int p1), (.ref nr), (.ref a0)])) _
    refine st3 _ ?_
    show Steps p.tables e below (T3.setTop (mkF m 17 #[.val (.ref a0), .val (.int p1)] [(.ref b3), (.ref a0)])) _
    refine st4 _ ?_
    show Steps p.tables e below (T4.setTop (mkF m 20 #[.val (.ref a0), .val (.int p1)] [])) _
    refine XS.goto X4.here hx rfl (pc0 := 20) (pc' := 58) rfl (hb hby d16_20) (by decide) (by decide) ?_
    show Steps p.tables e below (T4.setTop (mkF m 58 #[.val (.ref a0), .val (.int p1)] [])) _
    exact X4.returnOut hx Bd.returns (hb hby d16_58) hr
  · show Qrm16 Z a0 p1 u_base u_based u_middle u_wide u_nulls nr kn nn vs h0 n0 _ T4.heap _
    rw [e4]
    exact ⟨b3, kb3, rfl, N4, ⟨gb3, sz_b3⟩, Kh4, E_a0, F_width_a0, F_base_a0, F_based_a0, F_narrow_a0, F_middle_a0, F_wide_a0, F_nulls_a0, V_b3⟩
def own_ix (p1 : Int32) : Nat := ((p1.toUInt32 >>> ((6 : Int32) &&& 31).toUInt32).toInt32).toNatClampNeg
theorem own_i6 {z : Int32} (h : 0 ≤ z.toInt ∧ z.toInt < 256) : ¬ (((z.toUInt32 >>> ((6 : Int32) &&& 31).toUInt32).toInt32) < 0) ∧ ((z.toUInt32 >>> ((6 : Int32) &&& 31).toUInt32).toInt32) < (4 : Int32) := by
  have a := c_iushr z 6 6 (by decide) (by decide)
  have e : ((2 ^ 6 : Nat) : Int) = 64 := by decide
  have e4 : (4 : Int32).toInt = 4 := by decide
  rw [e] at a
  rw [Int32.lt_iff_toInt_lt, Int32.lt_iff_toInt_lt, own_z32, e4]
  omega
theorem own_ix_eq {z : Int32} (h : 0 ≤ z.toInt ∧ z.toInt < 256) : (own_ix z : Int) = z.toInt / 64 := by
  have a := c_iushr z 6 6 (by decide) (by decide)
  have e : ((2 ^ 6 : Nat) : Int) = 64 := by decide
  rw [e] at a
  unfold own_ix
  rw [own_tn, a]; omega
def own_z4 : List Int64 := [0, 0, 0, 0]
def own_bit (p1 : Int32) : Int64 := ((1 : Int64) <<< (p1 &&& 0x3f).toInt64)
def own_or (xs : List Int64) (p1 : Int32) : List Int64 := xs.set (own_ix p1) ((xs.getD (own_ix p1) 0) ||| ((1 : Int64) <<< (p1 &&& 0x3f).toInt64))
def own_an (xs : List Int64) (p1 : Int32) : List Int64 := xs.set (own_ix p1) ((xs.getD (own_ix p1) 0) &&& (((1 : Int64) <<< (p1 &&& 0x3f).toInt64) ^^^ (-1 : Int64)))
def own_wn (st : Option (List Int64)) (p1 : Int32) : Option (List Int64) := some (own_or (st.getD own_z4) p1)
def own_cl (st : Option (List Int64)) (p1 : Int32) : Option (List Int64) := st.map fun xs => own_an xs p1
def own_isn (st : Option (List Int64)) (p1 : Int32) : Int32 := match st with
  | none => 0
  | some xs => nar .boolean (if ((xs.getD (own_ix p1) 0) &&& ((1 : Int64) <<< (p1 &&& 0x3f).toInt64)) = (0 : Int64) then (0 : Int32) else (1 : Int32))
theorem own_mg (xs : List Int64) (i : Nat) : (xs.map Value.long).getD i (.long (0 : Int64)) = .long (xs.getD i 0) := by
  simp only [List.getD_eq_getElem?_getD, List.getElem?_map]
  cases xs[i]? <;> rfl
theorem own_ixl {xs : List Int64} {z : Int32} (hx : xs.length = 4) (h : 0 ≤ z.toInt ∧ z.toInt < 256) : own_ix z < (xs.map Value.long).length := by
  rw [List.length_map, hx]; have := own_ix_eq h; omega
def own_Nu (Z : State) (h : Heap) (n0 : Nat) (a nr : Addr) (nu : Value) : Option (List Int64) → Prop
  | none => nu = .null
  | some xs => ∃ (nl : Addr) (kl : ClassId), nu = .ref nl ∧ n0 ≤ nl ∧ nl ≠ a ∧ nr ≠ nl ∧ xs.length = 4 ∧ Arv Z h nl kl .long (4 : Int32) (xs.map Value.long) (.long (0 : Int64))
def own_K (Z : State) (h : Heap) (n0 : Nat) (a : Addr) (cap bd : Int32) (st : Option (List Int64)) : Prop := n0 ≤ a ∧ Exa Z h a "com/example/wadjet/wadjet/storage/IntegerChunk" ∧ ∃ (ub : Int64) (nr : Addr) (kn : ClassId) (vs : List Value) (mi wi nu : Value), n0 ≤ nr ∧ nr ≠ a ∧
  Fld Z h a "com/example/wadjet/wadjet/storage/IntegerChunk" "width" "I" (.int (1 : Int32)) ∧ Fld Z h a "com/example/wadjet/wadjet/storage/IntegerChunk" "base" "J" (.long ub) ∧ Fld Z h a "com/example/wadjet/wadjet/storage/IntegerChunk" "based" "Z" (.int bd) ∧ Fld Z h a "com/example/wadjet/wadjet/storage/IntegerChunk" "narrow" "[B" (.ref nr) ∧ Fld Z h a "com/example/wadjet/wadjet/storage/IntegerChunk" "middle" "[C" mi ∧ Fld Z h a "com/example/wadjet/wadjet/storage/IntegerChunk" "wide" "[I" wi ∧ Fld Z h a "com/example/wadjet/wadjet/storage/IntegerChunk" "nulls" "[J" nu ∧
  Arv Z h nr kn .byte cap vs (.int (0 : Int32)) ∧ own_Nu Z h n0 a nr nu st
def Qin (Z : State) (a0 : Addr) (p1 : Int32) (h0 : Heap) (n0 : Nat) (v : Option Value) (h : Heap) (L : List Loc) : Prop := v = none ∧ Fr n0 L ∧ h0.size ≤ h.size ∧ own_K Z h n0 a0 p1 0 none
def Qwn (Z : State) (a0 : Addr) (p1 cap bd : Int32) (st : Option (List Int64)) (h0 : Heap) (n0 : Nat) (v : Option Value) (h : Heap) (L : List Loc) : Prop := v = none ∧ Fr n0 L ∧ h0.size ≤ h.size ∧ own_K Z h n0 a0 cap bd (own_wn st p1)
def Qcl (Z : State) (a0 : Addr) (p1 cap bd : Int32) (st : Option (List Int64)) (h0 : Heap) (n0 : Nat) (v : Option Value) (h : Heap) (L : List Loc) : Prop := v = none ∧ Fr n0 L ∧ h0.size ≤ h.size ∧ own_K Z h n0 a0 cap bd (own_cl st p1)
def Qwi (Z : State) (a0 : Addr) (p1 : Int32) (st : Option (List Int64)) (h0 : Heap) (n0 : Nat) (v : Option Value) (h : Heap) (L : List Loc) : Prop := v = none ∧ Fr n0 L ∧ h0.size ≤ h.size ∧ ∃ cap : Int32, own_K Z h n0 a0 cap 1 (own_cl st p1)
def Qis (Z : State) (a0 : Addr) (p1 : Int32) (st : Option (List Int64)) (h0 : Heap) (n0 : Nat) (v : Option Value) (h : Heap) (L : List Loc) : Prop := v = some (.int (own_isn st p1)) ∧ Fr n0 L ∧ h = h0
theorem own_or_len {xs : List Int64} {z : Int32} (hx : xs.length = 4) : (own_or xs z).length = 4 := by rw [own_or, List.length_set, hx]
theorem own_an_len {xs : List Int64} {z : Int32} (hx : xs.length = 4) : (own_an xs z).length = 4 := by rw [own_an, List.length_set, hx]
theorem own_NuS {Z : State} {h : Heap} {n0 : Nat} {a nr nl : Addr} {kl : ClassId} {xs : List Int64} (h1 : n0 ≤ nl) (h2 : nl ≠ a) (h3 : nr ≠ nl) (h4 : xs.length = 4) (V : Arv Z h nl kl .long (4 : Int32) (xs.map Value.long) (.long (0 : Int64))) : own_Nu Z h n0 a nr (.ref nl) (some xs) := ⟨nl, kl, rfl, h1, h2, h3, h4, V⟩
theorem own_lt8 (q : Int64) : (q - q) < ((1 : Int64) <<< (((8 : Int32) * (1 : Int32)) &&& 0x3f).toInt64) := by
  have e : (q - q) = 0 := Int64.sub_self q
  rw [e]; decide
theorem own_growall : ∀ k : Fin 256, 4 ≤ k.1 → k.1 < (own_grow 4 (Int32.ofNat k.1)).toInt ∧ (own_grow 4 (Int32.ofNat k.1)).toInt ≤ 256 := by decide +kernel
theorem own_growb {cap z : Int32} (hp : 0 ≤ z.toInt ∧ z.toInt < 256) (hcap : cap.toInt = 4 ∨ cap.toInt = 256) (h : ¬ (z < cap)) : cap = 4 ∧ 4 ≤ z.toInt ∧ z.toInt < (own_grow cap z).toInt ∧ (own_grow cap z).toInt ≤ 256 := by
  rw [Int32.lt_iff_toInt_lt] at h
  have e4 : (4 : Int32).toInt = 4 := by decide
  have hc : cap = 4 := by apply Int32.toInt_inj.mp; omega
  subst hc
  have hz : z = Int32.ofNat z.toInt.toNat := by
    apply Int32.toInt_inj.mp
    have q : ∀ k : Fin 256, (Int32.ofNat k.1).toInt = (k.1 : Int) := by decide +kernel
    have := q ⟨z.toInt.toNat, by omega⟩
    rw [this]; show z.toInt = ((z.toInt.toNat : Nat) : Int); omega
  have g := own_growall ⟨z.toInt.toNat, by omega⟩ (by show 4 ≤ z.toInt.toNat; omega)
  rw [← hz] at g
  have g1 : ((z.toInt.toNat : Nat) : Int) < (own_grow 4 z).toInt := g.1
  exact ⟨rfl, by omega, by omega, g.2⟩

theorem d2_0 : decode prog_251_method_1_code 0 = .ok (.aload_n 0, 1) := by decide +kernel
theorem d2_1 : decode prog_251_method_1_code 1 = .ok (.invokespecial 1, 3) := by decide +kernel
theorem d2_4 : decode prog_251_method_1_code 4 = .ok (.return_, 1) := by decide +kernel
theorem pn_2 : plainName "com/example/wadjet/wadjet/storage/ColumnChunk" = true := by first | (simp [plainName, overriddenIn]; done) | decide +kernel
theorem ef_rm2 (m : MethodId) (a0 : Addr) : entryFrame m #[(.ref a0)] 1 = mkF m 0 #[.val (.ref a0)] [] := by first | (simp [entryFrame, mkF, argsToLocals, Value.category]; done) | rfl
def Qrm2 (Z : State) (a0 : Addr) (h0 : Heap) (n0 : Nat) (v : Option Value) (h : Heap) (L : List Loc) : Prop := v = none ∧ Fr n0 L ∧ h = h0
set_option maxRecDepth 65536 in
set_option maxHeartbeats 40000000 in
theorem rm2 (l : Launch) (Z : State) (A0 : Array Value) (hw : ∀ d ∈ tables_1, d.before A0 Z = true) (ws : List Jvm.Cond) (a0 : Addr) (h0 : Heap) (n0 : Nat) (Z0 : n0 ≤ h0.size) :
    MetFree l (⟨"com/example/wadjet/wadjet/storage/ColumnChunk", "<init>", "()V"⟩ : MethodName) (head1 (Jvm.Cond.code (⟨"com/example/wadjet/wadjet/storage/ColumnChunk", "<init>", "()V"⟩ : MethodName) prog_251_method_1_code 1 none :: ws) ({ frames := 1, cells := 0, slots := 0, locals := 12 } : Room)) (fun a U => a = #[(.ref a0)] ∧ Z.Warmed39 U.vm ∧ U.heap = h0) (fun _ _ _ _ _ => True) (fun _ U o U' => ∃ v L, o = .returned v ∧ Qrm2 Z a0 h0 n0 v U'.heap L ∧ FrameEnd U o U' L ({ frames := 1, cells := 0, slots := 0, locals := 12 } : Room).cells ({ frames := 1, cells := 0, slots := 0, locals := 12 } : Room).slots) := by
  refine MetFree.of_bodySF (plainFor_of_name pn_2) hisR ?_
  intro p e s m args below meth c s₁ Bd hml0 hP hK
  obtain ⟨rfl, hZ, hh⟩ := hP
  have hx := Bd.exec
  have hby := Bd.bytes
  have hml : c.maxLocals = 1 := hml0
  have hown : s.vm.findClass "com/example/wadjet/wadjet/storage/ColumnChunk" = some m.cls := findClass_of_methodNamed Bd.named
  have hnm := (name_of_methodNamed Bd.named Bd.method).1
  have X0 : Stand p l e ({ frames := 1, cells := 0, slots := 0, locals := 12 } : Room) s m #[(.ref a0)] below meth c s₁ [] 0 0 := Stand.of_body Bd
  have e0 : s₁.heap = h0 := by rw [← hh, Bd.state]; rfl
  have N0 := Fr.nil n0
  have K0 : Keep h0 h0 [] := Keep.refl _ _
  have pre0 : ∀ t, Steps p.tables e below (s₁.setTop (mkF m 0 #[.val (.ref a0)] [])) t → Steps p.tables e below (s₁.setTop (entryFrame m #[(.ref a0)] 1)) t := fun t k => castTop (ef_rm2 m a0) k
  obtain ⟨T1, X1, e1, st1⟩ := initO X0 hx hZ hown (hw _ (List.mem_of_getElem? (i := 11) rfl)) (hw _ (List.mem_of_getElem? (i := 12) rfl)) (hw _ (List.mem_of_getElem? (i := 13) rfl)) e0 (g := (mkF m 1 #[.val (.ref a0)] [(.ref a0)])) rfl (by rw [hml]; rfl) rfl (hb hby d2_1) (by decide) (W := 0) (by show 2 * 0 + _ ≤ _; exact Nat.le_of_eq rfl) (by decide)
  obtain ⟨fs, hr, hrun, hended, hW, hsame⟩ := X1.leave (v := none) (fun _ => rfl)
  refine ⟨_, _, pre0 _ ?_, hrun, hended, _, _, rfl, ?_, ⟨_, rfl⟩, hW, hsame.mono (by decide) (by decide)⟩
  · show Steps p.tables e below (s₁.setTop (mkF m 0 #[.val (.ref a0)] [])) _
    refine XS.aloadN X0.here hx rfl (hb hby d2_0) rfl rfl ?_
    show Steps p.tables e below (s₁.setTop (mkF m 1 #[.val (.ref a0)] [(.ref a0)])) _
    refine st1 _ ?_
    show Steps p.tables e below (T1.setTop (mkF m 4 #[.val (.ref a0)] [])) _
    exact X1.returnOut hx Bd.returns (hb hby d2_4) hr
  · show Qrm2 Z a0 h0 n0 _ T1.heap _
    rw [e1]
    exact ⟨rfl, N0, rfl⟩
theorem pd_3 : parseMethodDescriptor "()V" = some ⟨[], none⟩ := by decide +kernel
theorem d1_0 : decode prog_257_method_1_code 0 = .ok (.aload_n 0, 1) := by decide +kernel
theorem d1_1 : decode prog_257_method_1_code 1 = .ok (.invokespecial 1, 3) := by decide +kernel
theorem d1_4 : decode prog_257_method_1_code 4 = .ok (.aload_n 0, 1) := by decide +kernel
theorem d1_5 : decode prog_257_method_1_code 5 = .ok (.iconst 1, 1) := by decide +kernel
theorem d1_6 : decode prog_257_method_1_code 6 = .ok (.putfield 7, 3) := by decide +kernel
theorem d1_9 : decode prog_257_method_1_code 9 = .ok (.aload_n 0, 1) := by decide +kernel
theorem d1_10 : decode prog_257_method_1_code 10 = .ok (.iload_n 1, 1) := by decide +kernel
theorem d1_11 : decode prog_257_method_1_code 11 = .ok (.newarray .byte, 2) := by decide +kernel
theorem d1_13 : decode prog_257_method_1_code 13 = .ok (.putfield 13, 3) := by decide +kernel
theorem d1_16 : decode prog_257_method_1_code 16 = .ok (.return_, 1) := by decide +kernel
theorem pn_1 : plainName "com/example/wadjet/wadjet/storage/IntegerChunk" = true := by first | (simp [plainName, overriddenIn]; done) | decide +kernel
theorem ef_rm1 (m : MethodId) (a0 : Addr) (p1 : Int32) : entryFrame m #[(.ref a0), (.int p1)] 2 = mkF m 0 #[.val (.ref a0), .val (.int p1)] [] := by first | (simp [entryFrame, mkF, argsToLocals, Value.category]; done) | rfl
set_option maxRecDepth 65536 in
set_option maxHeartbeats 40000000 in
theorem rm1 (l : Launch) (Z : State) (A0 : Array Value) (hw : ∀ d ∈ tables_1, d.before A0 Z = true) (ws : List Jvm.Cond) (a0 : Addr) (p1 : Int32) (u_width : Value) (u_narrow : Value) (u_middle : Value) (u_wide : Value) (h0 : Heap) (n0 : Nat) (Z0 : n0 ≤ h0.size) (E_a0 : Exa Z h0 a0 "com/example/wadjet/wadjet/storage/IntegerChunk") (F_width_a0 : Fld Z h0 a0 "com/example/wadjet/wadjet/storage/IntegerChunk" "width" "I" u_width) (F_base_a0 : Fld Z h0 a0 "com/example/wadjet/wadjet/storage/IntegerChunk" "base" "J" (.long (0 : Int64))) (F_based_a0 : Fld Z h0 a0 "com/example/wadjet/wadjet/storage/IntegerChunk" "based" "Z" (.int (0 : Int32))) (F_narrow_a0 : Fld Z h0 a0 "com/example/wadjet/wadjet/storage/IntegerChunk" "narrow" "[B" u_narrow) (F_middle_a0 : Fld Z h0 a0 "com/example/wadjet/wadjet/storage/IntegerChunk" "middle" "[C" u_middle) (F_wide_a0 : Fld Z h0 a0 "com/example/wadjet/wadjet/storage/IntegerChunk" "wide" "[I" u_wide) (F_nulls_a0 : Fld Z h0 a0 "com/example/wadjet/wadjet/storage/IntegerChunk" "nulls" "[J" .null) (g_a0 : n0 ≤ a0) (hcap : 0 ≤ p1.toInt ∧ p1.toInt ≤ 256) :
    MetFree l (⟨"com/example/wadjet/wadjet/storage/IntegerChunk", "<init>", "(I)V"⟩ : MethodName) (head1 (Jvm.Cond.code (⟨"com/example/wadjet/wadjet/storage/IntegerChunk", "<init>", "(I)V"⟩ : MethodName) prog_257_method_1_code 2 none :: ws) ({ frames := 2, cells := 1, slots := 256, locals := 24 } : Room)) (fun a U => a = #[(.ref a0), (.int p1)] ∧ Z.Warmed39 U.vm ∧ U.heap = h0) (fun _ _ _ _ _ => True) (fun _ U o U' => ∃ v L, o = .returned v ∧ Qin Z a0 p1 h0 n0 v U'.heap L ∧ FrameEnd U o U' L ({ frames := 2, cells := 1, slots := 256, locals := 24 } : Room).cells ({ frames := 2, cells := 1, slots := 256, locals := 24 } : Room).slots) := by
  refine MetFree.of_bodySF (plainFor_of_name pn_1) hisR ?_
  intro p e s m args below meth c s₁ Bd hml0 hP hK
  obtain ⟨rfl, hZ, hh⟩ := hP
  have hx := Bd.exec
  have hby := Bd.bytes
  have hml : c.maxLocals = 2 := hml0
  have hown : s.vm.findClass "com/example/wadjet/wadjet/storage/IntegerChunk" = some m.cls := findClass_of_methodNamed Bd.named
  have hnm := (name_of_methodNamed Bd.named Bd.method).1
  have X0 : Stand p l e ({ frames := 2, cells := 1, slots := 256, locals := 24 } : Room) s m #[(.ref a0), (.int p1)] below meth c s₁ [] 0 0 := Stand.of_body Bd
  have e0 : s₁.heap = h0 := by rw [← hh, Bd.state]; rfl
  have N0 := Fr.nil n0
  have K0 : Keep h0 h0 [a0] := Keep.refl _ _
  have pre0 : ∀ t, Steps p.tables e below (s₁.setTop (mkF m 0 #[.val (.ref a0), .val (.int p1)] [])) t → Steps p.tables e below (s₁.setTop (entryFrame m #[(.ref a0), (.int p1)] 2)) t := fun t k => castTop (ef_rm1 m a0 p1) k
  obtain ⟨_, _, ⟨T1, L1, k1, n1⟩, -, X1, ⟨Lc1, hQ1, l1, y1, z1⟩, st1⟩ := X0.specialBack hx (y := (⟨"com/example/wadjet/wadjet/storage/ColumnChunk", "<init>", "()V"⟩ : MethodName)) rfl hown (mvT hZ (hw _ (List.mem_of_getElem? (i := 6) rfl))) (mvT hZ (hw _ (List.mem_of_getElem? (i := 7) rfl))) (mvT hZ (hw _ (List.mem_of_getElem? (i := 10) rfl))) (by decide) (backOf (W := 0) (rm2 l Z A0 hw [] a0  h0 n0 Z0 ) hZ (hw _ (List.mem_of_getElem? (i := 10) rfl)) (hw _ (List.mem_of_getElem? (i := 9) rfl)) (by decide) (by decide)) (g := (mkF m 1 #[.val (.ref a0), .val (.int p1)] [(.ref a0)])) rfl (by rw [hml]; rfl) (Steps.refl _) (a := a0) (argsL := []) (rest := []) (lenOf pd_3 rfl) rfl (by show 2 * 0 + _ ≤ _; exact Nat.le_of_eq rfl) (hb hby d1_1) (fun _ _ => ⟨rfl, e0, (by decide : 0 + 0 ≤ _), (by decide : 0 + 0 ≤ _)⟩)
  dsimp only [Pt.U, Pt.locs, Pt.cells, Pt.slots] at X1 l1 y1 z1 st1 hQ1
  subst y1 z1
  obtain ⟨rfl, N1q, eh1⟩ := hQ1
  have N1 : Fr n0 L1 := by rw [l1]; exact Fr.app N0 N1q
  clear l1
  obtain ⟨T2, h2, X2, e2, W2, st2⟩ := putF X1 hx hZ hown (host := "") (Or.inl (hw _ (List.mem_of_getElem? (i := 14) rfl))) Via.refl eh1 F_width_a0 E_a0 (Or.inl (hw _ (List.mem_of_getElem? (i := 15) rfl))) (hw _ (List.mem_of_getElem? (i := 1) rfl)) (ty := .int) (by decide) rfl rfl (g := (mkF m 6 #[.val (.ref a0), .val (.int p1)] [(.int (1 : Int32)), (.ref a0)])) rfl rfl (hb hby d1_6)
  have F_width_a0 : Fld Z h2 a0 "com/example/wadjet/wadjet/storage/IntegerChunk" "width" "I" (.int (1 : Int32)) := F_width_a0.same W2
  have E_a0 : Exa Z h2 a0 "com/example/wadjet/wadjet/storage/IntegerChunk" := E_a0.wr W2
  have F_base_a0 : Fld Z h2 a0 "com/example/wadjet/wadjet/storage/IntegerChunk" "base" "J" (.long (0 : Int64)) := F_base_a0.other W2 (Or.inr (slot_ne (Or.inl (hw _ (List.mem_of_getElem? (i := 48) rfl))) (Or.inl (hw _ (List.mem_of_getElem? (i := 15) rfl))) (by decide) (t := .long) (t' := .int) (by decide) (by decide)))
  have F_based_a0 : Fld Z h2 a0 "com/example/wadjet/wadjet/storage/IntegerChunk" "based" "Z" (.int (0 : Int32)) := F_based_a0.other W2 (Or.inr (slot_ne (Or.inl (hw _ (List.mem_of_getElem? (i := 46) rfl))) (Or.inl (hw _ (List.mem_of_getElem? (i := 15) rfl))) (by decide) (t := .boolean) (t' := .int) (by decide) (by decide)))
  have F_narrow_a0 : Fld Z h2 a0 "com/example/wadjet/wadjet/storage/IntegerChunk" "narrow" "[B" u_narrow := F_narrow_a0.other W2 (Or.inr (slot_ne (Or.inl (hw _ (List.mem_of_getElem? (i := 18) rfl))) (Or.inl (hw _ (List.mem_of_getElem? (i := 15) rfl))) (by decide) (t := (.array .byte)) (t' := .int) (by decide) (by decide)))
  have F_middle_a0 : Fld Z h2 a0 "com/example/wadjet/wadjet/storage/IntegerChunk" "middle" "[C" u_middle := F_middle_a0.other W2 (Or.inr (slot_ne (Or.inl (hw _ (List.mem_of_getElem? (i := 92) rfl))) (Or.inl (hw _ (List.mem_of_getElem? (i := 15) rfl))) (by decide) (t := (.array .char)) (t' := .int) (by decide) (by decide)))
  have F_wide_a0 : Fld Z h2 a0 "com/example/wadjet/wadjet/storage/IntegerChunk" "wide" "[I" u_wide := F_wide_a0.other W2 (Or.inr (slot_ne (Or.inl (hw _ (List.mem_of_getElem? (i := 94) rfl))) (Or.inl (hw _ (List.mem_of_getElem? (i := 15) rfl))) (by decide) (t := (.array .int)) (t' := .int) (by decide) (by decide)))
  have F_nulls_a0 : Fld Z h2 a0 "com/example/wadjet/wadjet/storage/IntegerChunk" "nulls" "[J" .null := F_nulls_a0.other W2 (Or.inr (slot_ne (Or.inl (hw _ (List.mem_of_getElem? (i := 25) rfl))) (Or.inl (hw _ (List.mem_of_getElem? (i := 15) rfl))) (by decide) (t := (.array .long)) (t' := .int) (by decide) (by decide)))
  have Zh2 : n0 ≤ h2.size := Nat.le_trans Z0 (Keep.of_wr W2).1
  have Kh2 : Keep h0 h2 [a0] := K0.wr W2 (Or.inl (by simp))
  have N2 := Fr.snoc X2 N1 g_a0
  obtain ⟨T3, h3, k3, X3, e3, E3, A3, st3⟩ := newP X2 hx hZ (hw _ (List.mem_of_getElem? (i := 16) rfl)) e2 (g := (mkF m 11 #[.val (.ref a0), .val (.int p1)] [(.int p1), (.ref a0)])) rfl (hb hby d1_11) rfl (own_nneg hcap.1) (cap := 256) (by rw [own_tn]; omega) (by decide) (by decide) (by decide)
  obtain ⟨nb, g3⟩ : ∃ z, z = h2.size := ⟨_, rfl⟩
  rw [← g3] at A3 st3
  have ne_a0_nb : a0 ≠ nb := Nat.ne_of_lt (Nat.lt_of_lt_of_le E_a0.lt (Nat.le_of_eq g3.symm))
  have g_nb : n0 ≤ nb := Nat.le_trans Zh2 (Nat.le_of_eq g3.symm)
  have sz_nb : h0.size ≤ nb := Nat.le_trans Kh2.1 (Nat.le_of_eq g3.symm)
  have E_a0 : Exa Z h3 a0 "com/example/wadjet/wadjet/storage/IntegerChunk" := E_a0.ext E3
  have F_width_a0 : Fld Z h3 a0 "com/example/wadjet/wadjet/storage/IntegerChunk" "width" "I" (.int (1 : Int32)) := F_width_a0.ext E3
  have F_base_a0 : Fld Z h3 a0 "com/example/wadjet/wadjet/storage/IntegerChunk" "base" "J" (.long (0 : Int64)) := F_base_a0.ext E3
  have F_based_a0 : Fld Z h3 a0 "com/example/wadjet/wadjet/storage/IntegerChunk" "based" "Z" (.int (0 : Int32)) := F_based_a0.ext E3
  have F_narrow_a0 : Fld Z h3 a0 "com/example/wadjet/wadjet/storage/IntegerChunk" "narrow" "[B" u_narrow := F_narrow_a0.ext E3
  have F_middle_a0 : Fld Z h3 a0 "com/example/wadjet/wadjet/storage/IntegerChunk" "middle" "[C" u_middle := F_middle_a0.ext E3
  have F_wide_a0 : Fld Z h3 a0 "com/example/wadjet/wadjet/storage/IntegerChunk" "wide" "[I" u_wide := F_wide_a0.ext E3
  have F_nulls_a0 : Fld Z h3 a0 "com/example/wadjet/wadjet/storage/IntegerChunk" "nulls" "[J" .null := F_nulls_a0.ext E3
  have Zh3 : n0 ≤ h3.size := Nat.le_trans Zh2 E3.1
  have Kh3 : Keep h0 h3 [a0] := Kh2.ext E3
  have V_nb : Arv Z h3 nb k3 .byte p1 [] (.int (0 : Int32)) := Arv.new A3 (own_nneg hcap.1)
  obtain ⟨T4, h4, X4, e4, W4, st4⟩ := putF X3 hx hZ hown (host := "") (Or.inl (hw _ (List.mem_of_getElem? (i := 17) rfl))) Via.refl e3 F_narrow_a0 E_a0 (Or.inl (hw _ (List.mem_of_getElem? (i := 18) rfl))) (hw _ (List.mem_of_getElem? (i := 1) rfl)) (ty := (.array .byte)) (by decide) rfl rfl (g := (mkF m 13 #[.val (.ref a0), .val (.int p1)] [(.ref nb), (.ref a0)])) rfl rfl (hb hby d1_13)
  have F_narrow_a0 : Fld Z h4 a0 "com/example/wadjet/wadjet/storage/IntegerChunk" "narrow" "[B" (.ref nb) := F_narrow_a0.same W4
  have E_a0 : Exa Z h4 a0 "com/example/wadjet/wadjet/storage/IntegerChunk" := E_a0.wr W4
  have F_width_a0 : Fld Z h4 a0 "com/example/wadjet/wadjet/storage/IntegerChunk" "width" "I" (.int (1 : Int32)) := F_width_a0.other W4 (Or.inr (slot_ne (Or.inl (hw _ (List.mem_of_getElem? (i := 15) rfl))) (Or.inl (hw _ (List.mem_of_getElem? (i := 18) rfl))) (by decide) (t := .int) (t' := (.array .byte)) (by decide) (by decide)))
  have F_base_a0 : Fld Z h4 a0 "com/example/wadjet/wadjet/storage/IntegerChunk" "base" "J" (.long (0 : Int64)) := F_base_a0.other W4 (Or.inr (slot_ne (Or.inl (hw _ (List.mem_of_getElem? (i := 48) rfl))) (Or.inl (hw _ (List.mem_of_getElem? (i := 18) rfl))) (by decide) (t := .long) (t' := (.array .byte)) (by decide) (by decide)))
  have F_based_a0 : Fld Z h4 a0 "com/example/wadjet/wadjet/storage/IntegerChunk" "based" "Z" (.int (0 : Int32)) := F_based_a0.other W4 (Or.inr (slot_ne (Or.inl (hw _ (List.mem_of_getElem? (i := 46) rfl))) (Or.inl (hw _ (List.mem_of_getElem? (i := 18) rfl))) (by decide) (t := .boolean) (t' := (.array .byte)) (by decide) (by decide)))
  have F_middle_a0 : Fld Z h4 a0 "com/example/wadjet/wadjet/storage/IntegerChunk" "middle" "[C" u_middle := F_middle_a0.other W4 (Or.inr (slot_ne (Or.inl (hw _ (List.mem_of_getElem? (i := 92) rfl))) (Or.inl (hw _ (List.mem_of_getElem? (i := 18) rfl))) (by decide) (t := (.array .char)) (t' := (.array .byte)) (by decide) (by decide)))
  have F_wide_a0 : Fld Z h4 a0 "com/example/wadjet/wadjet/storage/IntegerChunk" "wide" "[I" u_wide := F_wide_a0.other W4 (Or.inr (slot_ne (Or.inl (hw _ (List.mem_of_getElem? (i := 94) rfl))) (Or.inl (hw _ (List.mem_of_getElem? (i := 18) rfl))) (by decide) (t := (.array .int)) (t' := (.array .byte)) (by decide) (by decide)))
  have F_nulls_a0 : Fld Z h4 a0 "com/example/wadjet/wadjet/storage/IntegerChunk" "nulls" "[J" .null := F_nulls_a0.other W4 (Or.inr (slot_ne (Or.inl (hw _ (List.mem_of_getElem? (i := 25) rfl))) (Or.inl (hw _ (List.mem_of_getElem? (i := 18) rfl))) (by decide) (t := (.array .long)) (t' := (.array .byte)) (by decide) (by decide)))
  have V_nb : Arv Z h4 nb k3 .byte p1 [] (.int (0 : Int32)) := V_nb.other W4 (Ne.symm ne_a0_nb)
  have Zh4 : n0 ≤ h4.size := Nat.le_trans Zh3 (Keep.of_wr W4).1
  have Kh4 : Keep h0 h4 [a0] := Kh3.wr W4 (Or.inl (by simp))
  have N4 := Fr.snoc X4 N2 g_a0
  obtain ⟨fs, hr, hrun, hended, hW, hsame⟩ := X4.leave (v := none) (fun _ => rfl)
  refine ⟨_, _, pre0 _ ?_, hrun, hended, _, _, rfl, ?_, ⟨_, rfl⟩, hW, hsame.mono (by decide) (by decide)⟩
  · show Steps p.tables e below (s₁.setTop (mkF m 0 #[.val (.ref a0), .val (.int p1)] [])) _
    refine XS.aloadN X0.here hx rfl (hb hby d1_0) rfl rfl ?_
    show Steps p.tables e below (s₁.setTop (mkF m 1 #[.val (.ref a0), .val (.int p1)] [(.ref a0)])) _
    refine st1.trans ?_
    show Steps p.tables e below (T1.setTop (mkF m 4 #[.val (.ref a0), .val (.int p1)] [])) _
    refine XS.aloadN X1.here hx rfl (hb hby d1_4) rfl rfl ?_
    show Steps p.tables e below (T1.setTop (mkF m 5 #[.val (.ref a0), .val (.int p1)] [(.ref a0)])) _
    refine XS.iconst X1.here hx rfl (hb hby d1_5) ?_
    show Steps p.tables e below (T1.setTop (mkF m 6 #[.val (.ref a0), .val (.int p1)] [(.int (1 : Int32)), (.ref a0)])) _
    refine st2 _ ?_
    show Steps p.tables e below (T2.setTop (mkF m 9 #[.val (.ref a0), .val (.int p1)] [])) _
    refine XS.aloadN X2.here hx rfl (hb hby d1_9) rfl rfl ?_
    show Steps p.tables e below (T2.setTop (mkF m 10 #[.val (.ref a0), .val (.int p1)] [(.ref a0)])) _
    refine XS.iloadN X2.here hx rfl (hb hby d1_10) rfl ?_
    show Steps p.tables e below (T2.setTop (mkF m 11 #[.val (.ref a0), .val (.int p1)] [(.int p1), (.ref a0)])) _
    refine st3 _ ?_
    show Steps p.tables e below (T3.setTop (mkF m 13 #[.val (.ref a0), .val (.int p1)] [(.ref nb), (.ref a0)])) _
    refine st4 _ ?_
    show Steps p.tables e below (T4.setTop (mkF m 16 #[.val (.ref a0), .val (.int p1)] [])) _
    exact X4.returnOut hx Bd.returns (hb hby d1_16) hr
  · show Qin Z a0 p1 h0 n0 _ T4.heap _
    rw [e4]
    exact ⟨rfl, N4, Kh4.1, g_a0, E_a0, _, _, _, _, _, _, _, g_nb, (Ne.symm ne_a0_nb), F_width_a0, F_base_a0, F_based_a0, F_narrow_a0, F_middle_a0, F_wide_a0, F_nulls_a0, V_nb, rfl⟩
theorem d4_0 : decode prog_257_method_11_code 0 = .ok (.aload_n 0, 1) := by decide +kernel
theorem d4_1 : decode prog_257_method_11_code 1 = .ok (.getfield 31, 3) := by decide +kernel
theorem d4_4 : decode prog_257_method_11_code 4 = .ok (.ifnonnull 10, 3) := by decide +kernel
theorem d4_7 : decode prog_257_method_11_code 7 = .ok (.aload_n 0, 1) := by decide +kernel
theorem d4_8 : decode prog_257_method_11_code 8 = .ok (.iconst 4, 1) := by decide +kernel
theorem d4_9 : decode prog_257_method_11_code 9 = .ok (.newarray .long, 2) := by decide +kernel
theorem d4_11 : decode prog_257_method_11_code 11 = .ok (.putfield 31, 3) := by decide +kernel
theorem d4_14 : decode prog_257_method_11_code 14 = .ok (.aload_n 0, 1) := by decide +kernel
theorem d4_15 : decode prog_257_method_11_code 15 = .ok (.getfield 31, 3) := by decide +kernel
theorem d4_18 : decode prog_257_method_11_code 18 = .ok (.iload_n 1, 1) := by decide +kernel
theorem d4_19 : decode prog_257_method_11_code 19 = .ok (.bipush 6, 2) := by decide +kernel
theorem d4_21 : decode prog_257_method_11_code 21 = .ok (.iushr, 1) := by decide +kernel
theorem d4_22 : decode prog_257_method_11_code 22 = .ok (.dup2, 1) := by decide +kernel
theorem d4_23 : decode prog_257_method_11_code 23 = .ok (.laload, 1) := by decide +kernel
theorem d4_24 : decode prog_257_method_11_code 24 = .ok (.lconst 1, 1) := by decide +kernel
theorem d4_25 : decode prog_257_method_11_code 25 = .ok (.iload_n 1, 1) := by decide +kernel
theorem d4_26 : decode prog_257_method_11_code 26 = .ok (.lshl, 1) := by decide +kernel
theorem d4_27 : decode prog_257_method_11_code 27 = .ok (.lor, 1) := by decide +kernel
theorem d4_28 : decode prog_257_method_11_code 28 = .ok (.lastore, 1) := by decide +kernel
theorem d4_29 : decode prog_257_method_11_code 29 = .ok (.return_, 1) := by decide +kernel
theorem pn_4 : plainName "com/example/wadjet/wadjet/storage/IntegerChunk" = true := by first | (simp [plainName, overriddenIn]; done) | decide +kernel
theorem ef_rm4_n (m : MethodId) (a0 : Addr) (p1 : Int32) : entryFrame m #[(.ref a0), (.int p1)] 2 = mkF m 0 #[.val (.ref a0), .val (.int p1)] [] := by first | (simp [entryFrame, mkF, argsToLocals, Value.category]; done) | rfl
set_option maxRecDepth 65536 in
set_option maxHeartbeats 40000000 in
theorem rm4_n (l : Launch) (Z : State) (A0 : Array Value) (hw : ∀ d ∈ tables_1, d.before A0 Z = true) (ws : List Jvm.Cond) (a0 : Addr) (p1 : Int32) (cap : Int32) (bd : Int32) (h0 : Heap) (n0 : Nat) (Z0 : n0 ≤ h0.size) (hp : 0 ≤ p1.toInt ∧ p1.toInt < 256) (HK : own_K Z h0 n0 a0 cap bd none) :
    MetFree l (⟨"com/example/wadjet/wadjet/storage/IntegerChunk", "writeNull", "(I)V"⟩ : MethodName) (head1 (Jvm.Cond.code (⟨"com/example/wadjet/wadjet/storage/IntegerChunk", "writeNull", "(I)V"⟩ : MethodName) prog_257_method_11_code 2 none :: ws) ({ frames := 0, cells := 1, slots := 4, locals := 0 } : Room)) (fun a U => a = #[(.ref a0), (.int p1)] ∧ Z.Warmed39 U.vm ∧ U.heap = h0) (fun _ _ _ _ _ => True) (fun _ U o U' => ∃ v L, o = .returned v ∧ Qwn Z a0 p1 cap bd none h0 n0 v U'.heap L ∧ FrameEnd U o U' L ({ frames := 0, cells := 1, slots := 4, locals := 0 } : Room).cells ({ frames := 0, cells := 1, slots := 4, locals := 0 } : Room).slots) := by
  refine MetFree.of_bodySF (plainFor_of_name pn_4) hisR ?_
  intro p e s m args below meth c s₁ Bd hml0 hP hK
  obtain ⟨rfl, hZ, hh⟩ := hP
  obtain ⟨g_a0, E_a0, ub, nr, kn, vs, mi, wi, nu, g_nr, ne_nr_a0, F_width_a0, F_base_a0, F_based_a0, F_narrow_a0, F_middle_a0, F_wide_a0, F_nulls_a0, V_nr, HN⟩ := HK
  obtain rfl : nu = .null := HN
  have hx := Bd.exec
  have hby := Bd.bytes
  have hml : c.maxLocals = 2 := hml0
  have hown : s.vm.findClass "com/example/wadjet/wadjet/storage/IntegerChunk" = some m.cls := findClass_of_methodNamed Bd.named
  have hnm := (name_of_methodNamed Bd.named Bd.method).1
  have X0 : Stand p l e ({ frames := 0, cells := 1, slots := 4, locals := 0 } : Room) s m #[(.ref a0), (.int p1)] below meth c s₁ [] 0 0 := Stand.of_body Bd
  have e0 : s₁.heap = h0 := by rw [← hh, Bd.state]; rfl
  have N0 := Fr.nil n0
  have K0 : Keep h0 h0 [a0, nr] := Keep.refl _ _
  have pre0 : ∀ t, Steps p.tables e below (s₁.setTop (mkF m 0 #[.val (.ref a0), .val (.int p1)] [])) t → Steps p.tables e below (s₁.setTop (entryFrame m #[(.ref a0), (.int p1)] 2)) t := fun t k => castTop (ef_rm4_n m a0 p1) k
  obtain ⟨T1, X1, e1, st1⟩ := getF X0 hx hZ hown (host := "") (Or.inl (hw _ (List.mem_of_getElem? (i := 24) rfl))) Via.refl e0 F_nulls_a0 (g := (mkF m 1 #[.val (.ref a0), .val (.int p1)] [(.ref a0)])) rfl rfl (hb hby d4_1)
  obtain ⟨T2, h2, k2, X2, e2, E2, A2, st2⟩ := newP X1 hx hZ (hw _ (List.mem_of_getElem? (i := 26) rfl)) e1 (g := (mkF m 9 #[.val (.ref a0), .val (.int p1)] [(.int (4 : Int32)), (.ref a0)])) rfl (hb hby d4_9) rfl (by decide) (cap := 4) (by decide) (by decide) (by decide) (by decide)
  obtain ⟨nl, g2⟩ : ∃ z, z = h0.size := ⟨_, rfl⟩
  rw [← g2] at A2 st2
  have ne_a0_nl : a0 ≠ nl := Nat.ne_of_lt (Nat.lt_of_lt_of_le E_a0.lt (Nat.le_of_eq g2.symm))
  have ne_nr_nl : nr ≠ nl := Nat.ne_of_lt (Nat.lt_of_lt_of_le V_nr.lt (Nat.le_of_eq g2.symm))
  have g_nl : n0 ≤ nl := Nat.le_trans Z0 (Nat.le_of_eq g2.symm)
  have sz_nl : h0.size ≤ nl := Nat.le_trans K0.1 (Nat.le_of_eq g2.symm)
  have E_a0 : Exa Z h2 a0 "com/example/wadjet/wadjet/storage/IntegerChunk" := E_a0.ext E2
  have F_width_a0 : Fld Z h2 a0 "com/example/wadjet/wadjet/storage/IntegerChunk" "width" "I" (.int (1 : Int32)) := F_width_a0.ext E2
  have F_base_a0 : Fld Z h2 a0 "com/example/wadjet/wadjet/storage/IntegerChunk" "base" "J" (.long ub) := F_base_a0.ext E2
  have F_based_a0 : Fld Z h2 a0 "com/example/wadjet/wadjet/storage/IntegerChunk" "based" "Z" (.int bd) := F_based_a0.ext E2
  have F_narrow_a0 : Fld Z h2 a0 "com/example/wadjet/wadjet/storage/IntegerChunk" "narrow" "[B" (.ref nr) := F_narrow_a0.ext E2
  have F_middle_a0 : Fld Z h2 a0 "com/example/wadjet/wadjet/storage/IntegerChunk" "middle" "[C" mi := F_middle_a0.ext E2
  have F_wide_a0 : Fld Z h2 a0 "com/example/wadjet/wadjet/storage/IntegerChunk" "wide" "[I" wi := F_wide_a0.ext E2
  have F_nulls_a0 : Fld Z h2 a0 "com/example/wadjet/wadjet/storage/IntegerChunk" "nulls" "[J" .null := F_nulls_a0.ext E2
  have V_nr : Arv Z h2 nr kn .byte cap vs (.int (0 : Int32)) := V_nr.ext E2
  have Zh2 : n0 ≤ h2.size := Nat.le_trans Z0 E2.1
  have Kh2 : Keep h0 h2 [a0, nr] := K0.ext E2
  have V_nl : Arv Z h2 nl k2 .long (4 : Int32) [(.long (0 : Int64)), (.long (0 : Int64)), (.long (0 : Int64)), (.long (0 : Int64))] (.long (0 : Int64)) := (Arv.new A2 (by decide)).pad (pad_rep [] (.long (0 : Int64)) 4)
  have V_nl : Arv Z h2 nl k2 .long (4 : Int32) (own_z4.map Value.long) (.long (0 : Int64)) := V_nl
  obtain ⟨T3, h3, X3, e3, W3, st3⟩ := putF X2 hx hZ hown (host := "") (Or.inl (hw _ (List.mem_of_getElem? (i := 24) rfl))) Via.refl e2 F_nulls_a0 E_a0 (Or.inl (hw _ (List.mem_of_getElem? (i := 25) rfl))) (hw _ (List.mem_of_getElem? (i := 1) rfl)) (ty := (.array .long)) (by decide) rfl rfl (g := (mkF m 11 #[.val (.ref a0), .val (.int p1)] [(.ref nl), (.ref a0)])) rfl rfl (hb hby d4_11)
  have F_nulls_a0 : Fld Z h3 a0 "com/example/wadjet/wadjet/storage/IntegerChunk" "nulls" "[J" (.ref nl) := F_nulls_a0.same W3
  have E_a0 : Exa Z h3 a0 "com/example/wadjet/wadjet/storage/IntegerChunk" := E_a0.wr W3
  have F_width_a0 : Fld Z h3 a0 "com/example/wadjet/wadjet/storage/IntegerChunk" "width" "I" (.int (1 : Int32)) := F_width_a0.other W3 (Or.inr (slot_ne (Or.inl (hw _ (List.mem_of_getElem? (i := 15) rfl))) (Or.inl (hw _ (List.mem_of_getElem? (i := 25) rfl))) (by decide) (t := .int) (t' := (.array .long)) (by decide) (by decide)))
  have F_base_a0 : Fld Z h3 a0 "com/example/wadjet/wadjet/storage/IntegerChunk" "base" "J" (.long ub) := F_base_a0.other W3 (Or.inr (slot_ne (Or.inl (hw _ (List.mem_of_getElem? (i := 48) rfl))) (Or.inl (hw _ (List.mem_of_getElem? (i := 25) rfl))) (by decide) (t := .long) (t' := (.array .long)) (by decide) (by decide)))
  have F_based_a0 : Fld Z h3 a0 "com/example/wadjet/wadjet/storage/IntegerChunk" "based" "Z" (.int bd) := F_based_a0.other W3 (Or.inr (slot_ne (Or.inl (hw _ (List.mem_of_getElem? (i := 46) rfl))) (Or.inl (hw _ (List.mem_of_getElem? (i := 25) rfl))) (by decide) (t := .boolean) (t' := (.array .long)) (by decide) (by decide)))
  have F_narrow_a0 : Fld Z h3 a0 "com/example/wadjet/wadjet/storage/IntegerChunk" "narrow" "[B" (.ref nr) := F_narrow_a0.other W3 (Or.inr (slot_ne (Or.inl (hw _ (List.mem_of_getElem? (i := 18) rfl))) (Or.inl (hw _ (List.mem_of_getElem? (i := 25) rfl))) (by decide) (t := (.array .byte)) (t' := (.array .long)) (by decide) (by decide)))
  have F_middle_a0 : Fld Z h3 a0 "com/example/wadjet/wadjet/storage/IntegerChunk" "middle" "[C" mi := F_middle_a0.other W3 (Or.inr (slot_ne (Or.inl (hw _ (List.mem_of_getElem? (i := 92) rfl))) (Or.inl (hw _ (List.mem_of_getElem? (i := 25) rfl))) (by decide) (t := (.array .char)) (t' := (.array .long)) (by decide) (by decide)))
  have F_wide_a0 : Fld Z h3 a0 "com/example/wadjet/wadjet/storage/IntegerChunk" "wide" "[I" wi := F_wide_a0.other W3 (Or.inr (slot_ne (Or.inl (hw _ (List.mem_of_getElem? (i := 94) rfl))) (Or.inl (hw _ (List.mem_of_getElem? (i := 25) rfl))) (by decide) (t := (.array .int)) (t' := (.array .long)) (by decide) (by decide)))
  have V_nr : Arv Z h3 nr kn .byte cap vs (.int (0 : Int32)) := V_nr.other W3 ne_nr_a0
  have V_nl : Arv Z h3 nl k2 .long (4 : Int32) (own_z4.map Value.long) (.long (0 : Int64)) := V_nl.other W3 (Ne.symm ne_a0_nl)
  have Zh3 : n0 ≤ h3.size := Nat.le_trans Zh2 (Keep.of_wr W3).1
  have Kh3 : Keep h0 h3 [a0, nr] := Kh2.wr W3 (Or.inl (by simp))
  have N3 := Fr.snoc X3 N0 g_a0
  obtain ⟨T4, X4, e4, st4⟩ := getF X3 hx hZ hown (host := "") (Or.inl (hw _ (List.mem_of_getElem? (i := 24) rfl))) Via.refl e3 F_nulls_a0 (g := (mkF m 15 #[.val (.ref a0), .val (.int p1)] [(.ref a0)])) rfl rfl (hb hby d4_15)
  obtain ⟨cl5, Ar5, -, SS5, MM5, HH5, -⟩ := id V_nl
  have hin5 := inb_of SS5 (own_i6 hp)
  have hat5 : cl5.slots[(((p1.toUInt32 >>> ((6 : Int32) &&& 31).toUInt32).toInt32)).toNatClampNeg]? = some (.long (own_z4.getD (own_ix p1) 0)) := HH5.at hin5 (own_mg own_z4 _)
  obtain ⟨cl6, Ar6, qq6, SS6, MM6, HH6, GG6⟩ := id V_nl
  have hin6 := inb_of SS6 (own_i6 hp)
  obtain ⟨T6, h6, X6, e6, W6, st6⟩ := stJ X4 hx hZ e4 Ar6 (j := ((p1.toUInt32 >>> ((6 : Int32) &&& 31).toUInt32).toInt32)) hin6 (g := (mkF m 28 #[.val (.ref a0), .val (.int p1)] [(.long ((own_z4.getD (own_ix p1) 0) ||| ((1 : Int64) <<< (p1 &&& 0x3f).toInt64))), (.int ((p1.toUInt32 >>> ((6 : Int32) &&& 31).toUInt32).toInt32)), (.ref nl)])) rfl rfl (hb hby d4_28)
  have V_nl : Arv Z h6 nl k2 .long (4 : Int32) ((own_or own_z4 p1).map Value.long) (.long (0 : Int64)) := by rw [own_or, List.map_set]; exact Arv.set Ar6 qq6 SS6 MM6 HH6 GG6 rfl W6 (own_ix p1) rfl (own_ixl rfl hp)
  have E_a0 : Exa Z h6 a0 "com/example/wadjet/wadjet/storage/IntegerChunk" := E_a0.wr W6
  have F_width_a0 : Fld Z h6 a0 "com/example/wadjet/wadjet/storage/IntegerChunk" "width" "I" (.int (1 : Int32)) := F_width_a0.other W6 (Or.inl ne_a0_nl)
  have F_base_a0 : Fld Z h6 a0 "com/example/wadjet/wadjet/storage/IntegerChunk" "base" "J" (.long ub) := F_base_a0.other W6 (Or.inl ne_a0_nl)
  have F_based_a0 : Fld Z h6 a0 "com/example/wadjet/wadjet/storage/IntegerChunk" "based" "Z" (.int bd) := F_based_a0.other W6 (Or.inl ne_a0_nl)
  have F_narrow_a0 : Fld Z h6 a0 "com/example/wadjet/wadjet/storage/IntegerChunk" "narrow" "[B" (.ref nr) := F_narrow_a0.other W6 (Or.inl ne_a0_nl)
  have F_middle_a0 : Fld Z h6 a0 "com/example/wadjet/wadjet/storage/IntegerChunk" "middle" "[C" mi := F_middle_a0.other W6 (Or.inl ne_a0_nl)
  have F_wide_a0 : Fld Z h6 a0 "com/example/wadjet/wadjet/storage/IntegerChunk" "wide" "[I" wi := F_wide_a0.other W6 (Or.inl ne_a0_nl)
  have F_nulls_a0 : Fld Z h6 a0 "com/example/wadjet/wadjet/storage/IntegerChunk" "nulls" "[J" (.ref nl) := F_nulls_a0.other W6 (Or.inl ne_a0_nl)
  have V_nr : Arv Z h6 nr kn .byte cap vs (.int (0 : Int32)) := V_nr.other W6 ne_nr_nl
  have Zh6 : n0 ≤ h6.size := Nat.le_trans Zh3 (Keep.of_wr W6).1
  have Kh6 : Keep h0 h6 [a0, nr] := Kh3.wr W6 (Or.inr sz_nl)
  have N6 := Fr.snoc X6 N3 g_nl
  obtain ⟨fs, hr, hrun, hended, hW, hsame⟩ := X6.leave (v := none) (fun _ => rfl)
  refine ⟨_, _, pre0 _ ?_, hrun, hended, _, _, rfl, ?_, ⟨_, rfl⟩, hW, hsame.mono (by decide) (by decide)⟩
  · show Steps p.tables e below (s₁.setTop (mkF m 0 #[.val (.ref a0), .val (.int p1)] [])) _
    refine XS.aloadN X0.here hx rfl (hb hby d4_0) rfl rfl ?_
    show Steps p.tables e below (s₁.setTop (mkF m 1 #[.val (.ref a0), .val (.int p1)] [(.ref a0)])) _
    refine st1 _ ?_
    show Steps p.tables e below (T1.setTop (mkF m 4 #[.val (.ref a0), .val (.int p1)] [.null])) _
    refine XS.ifnonnullNo X1.here hx rfl (hb hby d4_4) rfl ?_
    show Steps p.tables e below (T1.setTop (mkF m 7 #[.val (.ref a0), .val (.int p1)] [])) _
    refine XS.aloadN X1.here hx rfl (hb hby d4_7) rfl rfl ?_
    show Steps p.tables e below (T1.setTop (mkF m 8 #[.val (.ref a0), .val (.int p1)] [(.ref a0)])) _
    refine XS.iconst X1.here hx rfl (hb hby d4_8) ?_
    show Steps p.tables e below (T1.setTop (mkF m 9 #[.val (.ref a0), .val (.int p1)] [(.int (4 : Int32)), (.ref a0)])) _
    refine st2 _ ?_
    show Steps p.tables e below (T2.setTop (mkF m 11 #[.val (.ref a0), .val (.int p1)] [(.ref nl), (.ref a0)])) _
    refine st3 _ ?_
    show Steps p.tables e below (T3.setTop (mkF m 14 #[.val (.ref a0), .val (.int p1)] [])) _
    refine XS.aloadN X3.here hx rfl (hb hby d4_14) rfl rfl ?_
    show Steps p.tables e below (T3.setTop (mkF m 15 #[.val (.ref a0), .val (.int p1)] [(.ref a0)])) _
    refine st4 _ ?_
    show Steps p.tables e below (T4.setTop (mkF m 18 #[.val (.ref a0), .val (.int p1)] [(.ref nl)])) _
    refine XS.iloadN X4.here hx rfl (hb hby d4_18) rfl ?_
    show Steps p.tables e below (T4.setTop (mkF m 19 #[.val (.ref a0), .val (.int p1)] [(.int p1), (.ref nl)])) _
    refine XS.bipush X4.here hx rfl (hb hby d4_19) ?_
    show Steps p.tables e below (T4.setTop (mkF m 21 #[.val (.ref a0), .val (.int p1)] [(.int (6 : Int32)), (.int p1), (.ref nl)])) _
    refine XS.iushr X4.here hx rfl (hb hby d4_21) rfl ?_
    show Steps p.tables e below (T4.setTop (mkF m 22 #[.val (.ref a0), .val (.int p1)] [(.int ((p1.toUInt32 >>> ((6 : Int32) &&& 31).toUInt32).toInt32)), (.ref nl)])) _
    refine XT.dup2 X4.here hx rfl (hb hby d4_22) rfl rfl rfl ?_
    show Steps p.tables e below (T4.setTop (mkF m 23 #[.val (.ref a0), .val (.int p1)] [(.int ((p1.toUInt32 >>> ((6 : Int32) &&& 31).toUInt32).toInt32)), (.ref nl), (.int ((p1.toUInt32 >>> ((6 : Int32) &&& 31).toUInt32).toInt32)), (.ref nl)])) _
    refine X4.laload hx (j := ((p1.toUInt32 >>> ((6 : Int32) &&& 31).toUInt32).toInt32)) (v := (.long (own_z4.getD (own_ix p1) 0))) (by rw [e4]; exact Ar5.1) (State.isArrayOf_alike hZ.alike Ar5.2.1) Ar5.2.2 hin5 hat5 (g := (mkF m 23 #[.val (.ref a0), .val (.int p1)] [(.int ((p1.toUInt32 >>> ((6 : Int32) &&& 31).toUInt32).toInt32)), (.ref nl), (.int ((p1.toUInt32 >>> ((6 : Int32) &&& 31).toUInt32).toInt32)), (.ref nl)])) rfl rfl (hb hby d4_23) _ ?_
    show Steps p.tables e below (T4.setTop (mkF m 24 #[.val (.ref a0), .val (.int p1)] [(.long (own_z4.getD (own_ix p1) 0)), (.int ((p1.toUInt32 >>> ((6 : Int32) &&& 31).toUInt32).toInt32)), (.ref nl)])) _
    refine XS.lconst X4.here hx rfl (hb hby d4_24) ?_
    show Steps p.tables e below (T4.setTop (mkF m 25 #[.val (.ref a0), .val (.int p1)] [(.long (1 : Int64)), (.long (own_z4.getD (own_ix p1) 0)), (.int ((p1.toUInt32 >>> ((6 : Int32) &&& 31).toUInt32).toInt32)), (.ref nl)])) _
    refine XS.iloadN X4.here hx rfl (hb hby d4_25) rfl ?_
    show Steps p.tables e below (T4.setTop (mkF m 26 #[.val (.ref a0), .val (.int p1)] [(.int p1), (.long (1 : Int64)), (.long (own_z4.getD (own_ix p1) 0)), (.int ((p1.toUInt32 >>> ((6 : Int32) &&& 31).toUInt32).toInt32)), (.ref nl)])) _
    refine XS.lshl X4.here hx rfl (hb hby d4_26) rfl ?_
    show Steps p.tables e below (T4.setTop (mkF m 27 #[.val (.ref a0), .val (.int p1)] [(.long ((1 : Int64) <<< (p1 &&& 0x3f).toInt64)), (.long (own_z4.getD (own_ix p1) 0)), (.int ((p1.toUInt32 >>> ((6 : Int32) &&& 31).toUInt32).toInt32)), (.ref nl)])) _
    refine XS.lor X4.here hx rfl (hb hby d4_27) rfl ?_
    show Steps p.tables e below (T4.setTop (mkF m 28 #[.val (.ref a0), .val (.int p1)] [(.long ((own_z4.getD (own_ix p1) 0) ||| ((1 : Int64) <<< (p1 &&& 0x3f).toInt64))), (.int ((p1.toUInt32 >>> ((6 : Int32) &&& 31).toUInt32).toInt32)), (.ref nl)])) _
    refine st6 _ ?_
    show Steps p.tables e below (T6.setTop (mkF m 29 #[.val (.ref a0), .val (.int p1)] [])) _
    exact X6.returnOut hx Bd.returns (hb hby d4_29) hr
  · show Qwn Z a0 p1 cap bd none h0 n0 _ T6.heap _
    rw [e6]
    exact ⟨rfl, N6, Kh6.1, g_a0, E_a0, _, _, _, _, _, _, _, g_nr, ne_nr_a0, F_width_a0, F_base_a0, F_based_a0, F_narrow_a0, F_middle_a0, F_wide_a0, F_nulls_a0, V_nr, own_NuS g_nl (Ne.symm ne_a0_nl) ne_nr_nl (own_or_len rfl) V_nl⟩
theorem ef_rm4_s (m : MethodId) (a0 : Addr) (p1 : Int32) : entryFrame m #[(.ref a0), (.int p1)] 2 = mkF m 0 #[.val (.ref a0), .val (.int p1)] [] := by first | (simp [entryFrame, mkF, argsToLocals, Value.category]; done) | rfl
set_option maxRecDepth 65536 in
set_option maxHeartbeats 40000000 in
theorem rm4_s (l : Launch) (Z : State) (A0 : Array Value) (hw : ∀ d ∈ tables_1, d.before A0 Z = true) (ws : List Jvm.Cond) (a0 : Addr) (p1 : Int32) (cap : Int32) (bd : Int32) (xs : List Int64) (h0 : Heap) (n0 : Nat) (Z0 : n0 ≤ h0.size) (hp : 0 ≤ p1.toInt ∧ p1.toInt < 256) (HK : own_K Z h0 n0 a0 cap bd (some xs)) :
    MetFree l (⟨"com/example/wadjet/wadjet/storage/IntegerChunk", "writeNull", "(I)V"⟩ : MethodName) (head1 (Jvm.Cond.code (⟨"com/example/wadjet/wadjet/storage/IntegerChunk", "writeNull", "(I)V"⟩ : MethodName) prog_257_method_11_code 2 none :: ws) ({ frames := 0, cells := 1, slots := 4, locals := 0 } : Room)) (fun a U => a = #[(.ref a0), (.int p1)] ∧ Z.Warmed39 U.vm ∧ U.heap = h0) (fun _ _ _ _ _ => True) (fun _ U o U' => ∃ v L, o = .returned v ∧ Qwn Z a0 p1 cap bd (some xs) h0 n0 v U'.heap L ∧ FrameEnd U o U' L ({ frames := 0, cells := 1, slots := 4, locals := 0 } : Room).cells ({ frames := 0, cells := 1, slots := 4, locals := 0 } : Room).slots) := by
  refine MetFree.of_bodySF (plainFor_of_name pn_4) hisR ?_
  intro p e s m args below meth c s₁ Bd hml0 hP hK
  obtain ⟨rfl, hZ, hh⟩ := hP
  obtain ⟨g_a0, E_a0, ub, nr, kn, vs, mi, wi, nu, g_nr, ne_nr_a0, F_width_a0, F_base_a0, F_based_a0, F_narrow_a0, F_middle_a0, F_wide_a0, F_nulls_a0, V_nr, HN⟩ := HK
  obtain ⟨nl, kl, rfl, g_nl, ne_nl_a0, ne_nr_nl, hx4, V_nl⟩ := HN
  have hx := Bd.exec
  have hby := Bd.bytes
  have hml : c.maxLocals = 2 := hml0
  have hown : s.vm.findClass "com/example/wadjet/wadjet/storage/IntegerChunk" = some m.cls := findClass_of_methodNamed Bd.named
  have hnm := (name_of_methodNamed Bd.named Bd.method).1
  have X0 : Stand p l e ({ frames := 0, cells := 1, slots := 4, locals := 0 } : Room) s m #[(.ref a0), (.int p1)] below meth c s₁ [] 0 0 := Stand.of_body Bd
  have e0 : s₁.heap = h0 := by rw [← hh, Bd.state]; rfl
  have N0 := Fr.nil n0
  have K0 : Keep h0 h0 [a0, nr, nl] := Keep.refl _ _
  have pre0 : ∀ t, Steps p.tables e below (s₁.setTop (mkF m 0 #[.val (.ref a0), .val (.int p1)] [])) t → Steps p.tables e below (s₁.setTop (entryFrame m #[(.ref a0), (.int p1)] 2)) t := fun t k => castTop (ef_rm4_s m a0 p1) k
  obtain ⟨T1, X1, e1, st1⟩ := getF X0 hx hZ hown (host := "") (Or.inl (hw _ (List.mem_of_getElem? (i := 24) rfl))) Via.refl e0 F_nulls_a0 (g := (mkF m 1 #[.val (.ref a0), .val (.int p1)] [(.ref a0)])) rfl rfl (hb hby d4_1)
  obtain ⟨T2, X2, e2, st2⟩ := getF X1 hx hZ hown (host := "") (Or.inl (hw _ (List.mem_of_getElem? (i := 24) rfl))) Via.refl e1 F_nulls_a0 (g := (mkF m 15 #[.val (.ref a0), .val (.int p1)] [(.ref a0)])) rfl rfl (hb hby d4_15)
  obtain ⟨cl3, Ar3, -, SS3, MM3, HH3, -⟩ := id V_nl
  have hin3 := inb_of SS3 (own_i6 hp)
  have hat3 : cl3.slots[(((p1.toUInt32 >>> ((6 : Int32) &&& 31).toUInt32).toInt32)).toNatClampNeg]? = some (.long (xs.getD (own_ix p1) 0)) := HH3.at hin3 (own_mg xs _)
  obtain ⟨cl4, Ar4, qq4, SS4, MM4, HH4, GG4⟩ := id V_nl
  have hin4 := inb_of SS4 (own_i6 hp)
  obtain ⟨T4, h4, X4, e4, W4, st4⟩ := stJ X2 hx hZ e2 Ar4 (j := ((p1.toUInt32 >>> ((6 : Int32) &&& 31).toUInt32).toInt32)) hin4 (g := (mkF m 28 #[.val (.ref a0), .val (.int p1)] [(.long ((xs.getD (own_ix p1) 0) ||| ((1 : Int64) <<< (p1 &&& 0x3f).toInt64))), (.int ((p1.toUInt32 >>> ((6 : Int32) &&& 31).toUInt32).toInt32)), (.ref nl)])) rfl rfl (hb hby d4_28)
  have V_nl : Arv Z h4 nl kl .long (4 : Int32) ((own_or xs p1).map Value.long) (.long (0 : Int64)) := by rw [own_or, List.map_set]; exact Arv.set Ar4 qq4 SS4 MM4 HH4 GG4 rfl W4 (own_ix p1) rfl (own_ixl hx4 hp)
  have E_a0 : Exa Z h4 a0 "com/example/wadjet/wadjet/storage/IntegerChunk" := E_a0.wr W4
  have F_width_a0 : Fld Z h4 a0 "com/example/wadjet/wadjet/storage/IntegerChunk" "width" "I" (.int (1 : Int32)) := F_width_a0.other W4 (Or.inl (Ne.symm ne_nl_a0))
  have F_base_a0 : Fld Z h4 a0 "com/example/wadjet/wadjet/storage/IntegerChunk" "base" "J" (.long ub) := F_base_a0.other W4 (Or.inl (Ne.symm ne_nl_a0))
  have F_based_a0 : Fld Z h4 a0 "com/example/wadjet/wadjet/storage/IntegerChunk" "based" "Z" (.int bd) := F_based_a0.other W4 (Or.inl (Ne.symm ne_nl_a0))
  have F_narrow_a0 : Fld Z h4 a0 "com/example/wadjet/wadjet/storage/IntegerChunk" "narrow" "[B" (.ref nr) := F_narrow_a0.other W4 (Or.inl (Ne.symm ne_nl_a0))
  have F_middle_a0 : Fld Z h4 a0 "com/example/wadjet/wadjet/storage/IntegerChunk" "middle" "[C" mi := F_middle_a0.other W4 (Or.inl (Ne.symm ne_nl_a0))
  have F_wide_a0 : Fld Z h4 a0 "com/example/wadjet/wadjet/storage/IntegerChunk" "wide" "[I" wi := F_wide_a0.other W4 (Or.inl (Ne.symm ne_nl_a0))
  have F_nulls_a0 : Fld Z h4 a0 "com/example/wadjet/wadjet/storage/IntegerChunk" "nulls" "[J" (.ref nl) := F_nulls_a0.other W4 (Or.inl (Ne.symm ne_nl_a0))
  have V_nr : Arv Z h4 nr kn .byte cap vs (.int (0 : Int32)) := V_nr.other W4 ne_nr_nl
  have Zh4 : n0 ≤ h4.size := Nat.le_trans Z0 (Keep.of_wr W4).1
  have Kh4 : Keep h0 h4 [a0, nr, nl] := K0.wr W4 (Or.inl (by simp))
  have N4 := Fr.snoc X4 N0 g_nl
  obtain ⟨fs, hr, hrun, hended, hW, hsame⟩ := X4.leave (v := none) (fun _ => rfl)
  refine ⟨_, _, pre0 _ ?_, hrun, hended, _, _, rfl, ?_, ⟨_, rfl⟩, hW, hsame.mono (by decide) (by decide)⟩
  · show Steps p.tables e below (s₁.setTop (mkF m 0 #[.val (.ref a0), .val (.int p1)] [])) _
    refine XS.aloadN X0.here hx rfl (hb hby d4_0) rfl rfl ?_
    show Steps p.tables e below (s₁.setTop (mkF m 1 #[.val (.ref a0), .val (.int p1)] [(.ref a0)])) _
    refine st1 _ ?_
    show Steps p.tables e below (T1.setTop (mkF m 4 #[.val (.ref a0), .val (.int p1)] [(.ref nl)])) _
    refine XS.ifnonnullYes X1.here hx rfl (pc0 := 4) (pc' := 14) rfl (hb hby d4_4) rfl (by decide) (by decide) ?_
    show Steps p.tables e below (T1.setTop (mkF m 14 #[.val (.ref a0), .val (.int p1)] [])) _
    refine XS.aloadN X1.here hx rfl (hb hby d4_14) rfl rfl ?_
    show Steps p.tables e below (T1.setTop (mkF m 15 #[.val (.ref a0), .val (.int p1)] [(.ref a0)])) _
    refine st2 _ ?_
    show Steps p.tables e below (T2.setTop (mkF m 18 #[.val (.ref a0), .val (.int p1)] [(.ref nl)])) _
    refine XS.iloadN X2.here hx rfl (hb hby d4_18) rfl ?_
    show Steps p.tables e below (T2.setTop (mkF m 19 #[.val (.ref a0), .val (.int p1)] [(.int p1), (.ref nl)])) _
    refine XS.bipush X2.here hx rfl (hb hby d4_19) ?_
    show Steps p.tables e below (T2.setTop (mkF m 21 #[.val (.ref a0), .val (.int p1)] [(.int (6 : Int32)), (.int p1), (.ref nl)])) _
    refine XS.iushr X2.here hx rfl (hb hby d4_21) rfl ?_
    show Steps p.tables e below (T2.setTop (mkF m 22 #[.val (.ref a0), .val (.int p1)] [(.int ((p1.toUInt32 >>> ((6 : Int32) &&& 31).toUInt32).toInt32)), (.ref nl)])) _
    refine XT.dup2 X2.here hx rfl (hb hby d4_22) rfl rfl rfl ?_
    show Steps p.tables e below (T2.setTop (mkF m 23 #[.val (.ref a0), .val (.int p1)] [(.int ((p1.toUInt32 >>> ((6 : Int32) &&& 31).toUInt32).toInt32)), (.ref nl), (.int ((p1.toUInt32 >>> ((6 : Int32) &&& 31).toUInt32).toInt32)), (.ref nl)])) _
    refine X2.laload hx (j := ((p1.toUInt32 >>> ((6 : Int32) &&& 31).toUInt32).toInt32)) (v := (.long (xs.getD (own_ix p1) 0))) (by rw [e2]; exact Ar3.1) (State.isArrayOf_alike hZ.alike Ar3.2.1) Ar3.2.2 hin3 hat3 (g := (mkF m 23 #[.val (.ref a0), .val (.int p1)] [(.int ((p1.toUInt32 >>> ((6 : Int32) &&& 31).toUInt32).toInt32)), (.ref nl), (.int ((p1.toUInt32 >>> ((6 : Int32) &&& 31).toUInt32).toInt32)), (.ref nl)])) rfl rfl (hb hby d4_23) _ ?_
    show Steps p.tables e below (T2.setTop (mkF m 24 #[.val (.ref a0), .val (.int p1)] [(.long (xs.getD (own_ix p1) 0)), (.int ((p1.toUInt32 >>> ((6 : Int32) &&& 31).toUInt32).toInt32)), (.ref nl)])) _
    refine XS.lconst X2.here hx rfl (hb hby d4_24) ?_
    show Steps p.tables e below (T2.setTop (mkF m 25 #[.val (.ref a0), .val (.int p1)] [(.long (1 : Int64)), (.long (xs.getD (own_ix p1) 0)), (.int ((p1.toUInt32 >>> ((6 : Int32) &&& 31).toUInt32).toInt32)), (.ref nl)])) _
    refine XS.iloadN X2.here hx rfl (hb hby d4_25) rfl ?_
    show Steps p.tables e below (T2.setTop (mkF m 26 #[.val (.ref a0), .val (.int p1)] [(.int p1), (.long (1 : Int64)), (.long (xs.getD (own_ix p1) 0)), (.int ((p1.toUInt32 >>> ((6 : Int32) &&& 31).toUInt32).toInt32)), (.ref nl)])) _
    refine XS.lshl X2.here hx rfl (hb hby d4_26) rfl ?_
    show Steps p.tables e below (T2.setTop (mkF m 27 #[.val (.ref a0), .val (.int p1)] [(.long ((1 : Int64) <<< (p1 &&& 0x3f).toInt64)), (.long (xs.getD (own_ix p1) 0)), (.int ((p1.toUInt32 >>> ((6 : Int32) &&& 31).toUInt32).toInt32)), (.ref nl)])) _
    refine XS.lor X2.here hx rfl (hb hby d4_27) rfl ?_
    show Steps p.tables e below (T2.setTop (mkF m 28 #[.val (.ref a0), .val (.int p1)] [(.long ((xs.getD (own_ix p1) 0) ||| ((1 : Int64) <<< (p1 &&& 0x3f).toInt64))), (.int ((p1.toUInt32 >>> ((6 : Int32) &&& 31).toUInt32).toInt32)), (.ref nl)])) _
    refine st4 _ ?_
    show Steps p.tables e below (T4.setTop (mkF m 29 #[.val (.ref a0), .val (.int p1)] [])) _
    exact X4.returnOut hx Bd.returns (hb hby d4_29) hr
  · show Qwn Z a0 p1 cap bd (some xs) h0 n0 _ T4.heap _
    rw [e4]
    exact ⟨rfl, N4, Kh4.1, g_a0, E_a0, _, _, _, _, _, _, _, g_nr, ne_nr_a0, F_width_a0, F_base_a0, F_based_a0, F_narrow_a0, F_middle_a0, F_wide_a0, F_nulls_a0, V_nr, own_NuS g_nl ne_nl_a0 ne_nr_nl (own_or_len hx4) V_nl⟩
theorem rm4 (l : Launch) (Z : State) (A0 : Array Value) (hw : ∀ d ∈ tables_1, d.before A0 Z = true) (ws : List Jvm.Cond) (a0 : Addr) (p1 : Int32) (cap : Int32) (bd : Int32) (st : Option (List Int64)) (h0 : Heap) (n0 : Nat) (Z0 : n0 ≤ h0.size) (hp : 0 ≤ p1.toInt ∧ p1.toInt < 256) (HK : own_K Z h0 n0 a0 cap bd st) :
    MetFree l (⟨"com/example/wadjet/wadjet/storage/IntegerChunk", "writeNull", "(I)V"⟩ : MethodName) (head1 (Jvm.Cond.code (⟨"com/example/wadjet/wadjet/storage/IntegerChunk", "writeNull", "(I)V"⟩ : MethodName) prog_257_method_11_code 2 none :: ws) ({ frames := 0, cells := 1, slots := 4, locals := 0 } : Room)) (fun a U => a = #[(.ref a0), (.int p1)] ∧ Z.Warmed39 U.vm ∧ U.heap = h0) (fun _ _ _ _ _ => True) (fun _ U o U' => ∃ v L, o = .returned v ∧ Qwn Z a0 p1 cap bd st h0 n0 v U'.heap L ∧ FrameEnd U o U' L ({ frames := 0, cells := 1, slots := 4, locals := 0 } : Room).cells ({ frames := 0, cells := 1, slots := 4, locals := 0 } : Room).slots) := by
  cases st with
  | none => exact rm4_n l Z A0 hw ws a0 p1 cap bd h0 n0 Z0 hp  HK
  | some xs => exact rm4_s l Z A0 hw ws a0 p1 cap bd xs h0 n0 Z0 hp  HK
theorem d10_0 : decode prog_257_method_12_code 0 = .ok (.aload_n 0, 1) := by decide +kernel
theorem d10_1 : decode prog_257_method_12_code 1 = .ok (.getfield 31, 3) := by decide +kernel
theorem d10_4 : decode prog_257_method_12_code 4 = .ok (.ifnull 22, 3) := by decide +kernel
theorem d10_26 : decode prog_257_method_12_code 26 = .ok (.return_, 1) := by decide +kernel
theorem pn_10 : plainName "com/example/wadjet/wadjet/storage/IntegerChunk" = true := by first | (simp [plainName, overriddenIn]; done) | decide +kernel
theorem ef_rm10_n (m : MethodId) (a0 : Addr) (p1 : Int32) : entryFrame m #[(.ref a0), (.int p1)] 2 = mkF m 0 #[.val (.ref a0), .val (.int p1)] [] := by first | (simp [entryFrame, mkF, argsToLocals, Value.category]; done) | rfl
set_option maxRecDepth 65536 in
set_option maxHeartbeats 40000000 in
theorem rm10_n (l : Launch) (Z : State) (A0 : Array Value) (hw : ∀ d ∈ tables_1, d.before A0 Z = true) (ws : List Jvm.Cond) (a0 : Addr) (p1 : Int32) (cap : Int32) (bd : Int32) (h0 : Heap) (n0 : Nat) (Z0 : n0 ≤ h0.size) (hp : 0 ≤ p1.toInt ∧ p1.toInt < 256) (HK : own_K Z h0 n0 a0 cap bd none) :
    MetFree l (⟨"com/example/wadjet/wadjet/storage/IntegerChunk", "clear", "(I)V"⟩ : MethodName) (head1 (Jvm.Cond.code (⟨"com/example/wadjet/wadjet/storage/IntegerChunk", "clear", "(I)V"⟩ : MethodName) prog_257_method_12_code 2 none :: ws) ({ frames := 0, cells := 0, slots := 0, locals := 0 } : Room)) (fun a U => a = #[(.ref a0), (.int p1)] ∧ Z.Warmed39 U.vm ∧ U.heap = h0) (fun _ _ _ _ _ => True) (fun _ U o U' => ∃ v L, o = .returned v ∧ Qcl Z a0 p1 cap bd none h0 n0 v U'.heap L ∧ FrameEnd U o U' L ({ frames := 0, cells := 0, slots := 0, locals := 0 } : Room).cells ({ frames := 0, cells := 0, slots := 0, locals := 0 } : Room).slots) := by
  refine MetFree.of_bodySF (plainFor_of_name pn_10) hisR ?_
  intro p e s m args below meth c s₁ Bd hml0 hP hK
  obtain ⟨rfl, hZ, hh⟩ := hP
  obtain ⟨g_a0, E_a0, ub, nr, kn, vs, mi, wi, nu, g_nr, ne_nr_a0, F_width_a0, F_base_a0, F_based_a0, F_narrow_a0, F_middle_a0, F_wide_a0, F_nulls_a0, V_nr, HN⟩ := HK
  obtain rfl : nu = .null := HN
  have hx := Bd.exec
  have hby := Bd.bytes
  have hml : c.maxLocals = 2 := hml0
  have hown : s.vm.findClass "com/example/wadjet/wadjet/storage/IntegerChunk" = some m.cls := findClass_of_methodNamed Bd.named
  have hnm := (name_of_methodNamed Bd.named Bd.method).1
  have X0 : Stand p l e ({ frames := 0, cells := 0, slots := 0, locals := 0 } : Room) s m #[(.ref a0), (.int p1)] below meth c s₁ [] 0 0 := Stand.of_body Bd
  have e0 : s₁.heap = h0 := by rw [← hh, Bd.state]; rfl
  have N0 := Fr.nil n0
  have K0 : Keep h0 h0 [a0, nr] := Keep.refl _ _
  have pre0 : ∀ t, Steps p.tables e below (s₁.setTop (mkF m 0 #[.val (.ref a0), .val (.int p1)] [])) t → Steps p.tables e below (s₁.setTop (entryFrame m #[(.ref a0), (.int p1)] 2)) t := fun t k => castTop (ef_rm10_n m a0 p1) k
  obtain ⟨T1, X1, e1, st1⟩ := getF X0 hx hZ hown (host := "") (Or.inl (hw _ (List.mem_of_getElem? (i := 24) rfl))) Via.refl e0 F_nulls_a0 (g := (mkF m 1 #[.val (.ref a0), .val (.int p1)] [(.ref a0)])) rfl rfl (hb hby d10_1)
  obtain ⟨fs, hr, hrun, hended, hW, hsame⟩ := X1.leave (v := none) (fun _ => rfl)
  refine ⟨_, _, pre0 _ ?_, hrun, hended, _, _, rfl, ?_, ⟨_, rfl⟩, hW, hsame.mono (by decide) (by decide)⟩
  · show Steps p.tables e below (s₁.setTop (mkF m 0 #[.val (.ref a0), .val (.int p1)] [])) _
    refine XS.aloadN X0.here hx rfl (hb hby d10_0) rfl rfl ?_
    show Steps p.tables e below (s₁.setTop (mkF m 1 #[.val (.ref a0), .val (.int p1)] [(.ref a0)])) _
    refine st1 _ ?_
    show Steps p.tables e below (T1.setTop (mkF m 4 #[.val (.ref a0), .val (.int p1)] [.null])) _
    refine XS.ifnullYes X1.here hx rfl (pc0 := 4) (pc' := 26) rfl (hb hby d10_4) rfl (by decide) (by decide) ?_
    show Steps p.tables e below (T1.setTop (mkF m 26 #[.val (.ref a0), .val (.int p1)] [])) _
    exact X1.returnOut hx Bd.returns (hb hby d10_26) hr
  · show Qcl Z a0 p1 cap bd none h0 n0 _ T1.heap _
    rw [e1]
    exact ⟨rfl, N0, K0.1, g_a0, E_a0, _, _, _, _, _, _, _, g_nr, ne_nr_a0, F_width_a0, F_base_a0, F_based_a0, F_narrow_a0, F_middle_a0, F_wide_a0, F_nulls_a0, V_nr, rfl⟩
theorem d10_7 : decode prog_257_method_12_code 7 = .ok (.aload_n 0, 1) := by decide +kernel
theorem d10_8 : decode prog_257_method_12_code 8 = .ok (.getfield 31, 3) := by decide +kernel
theorem d10_11 : decode prog_257_method_12_code 11 = .ok (.iload_n 1, 1) := by decide +kernel
theorem d10_12 : decode prog_257_method_12_code 12 = .ok (.bipush 6, 2) := by decide +kernel
theorem d10_14 : decode prog_257_method_12_code 14 = .ok (.iushr, 1) := by decide +kernel
theorem d10_15 : decode prog_257_method_12_code 15 = .ok (.dup2, 1) := by decide +kernel
theorem d10_16 : decode prog_257_method_12_code 16 = .ok (.laload, 1) := by decide +kernel
theorem d10_17 : decode prog_257_method_12_code 17 = .ok (.lconst 1, 1) := by decide +kernel
theorem d10_18 : decode prog_257_method_12_code 18 = .ok (.iload_n 1, 1) := by decide +kernel
theorem d10_19 : decode prog_257_method_12_code 19 = .ok (.lshl, 1) := by decide +kernel
theorem d10_20 : decode prog_257_method_12_code 20 = .ok (.ldc2_w 84, 3) := by decide +kernel
theorem d10_23 : decode prog_257_method_12_code 23 = .ok (.lxor, 1) := by decide +kernel
theorem d10_24 : decode prog_257_method_12_code 24 = .ok (.land, 1) := by decide +kernel
theorem d10_25 : decode prog_257_method_12_code 25 = .ok (.lastore, 1) := by decide +kernel
theorem ef_rm10_s (m : MethodId) (a0 : Addr) (p1 : Int32) : entryFrame m #[(.ref a0), (.int p1)] 2 = mkF m 0 #[.val (.ref a0), .val (.int p1)] [] := by first | (simp [entryFrame, mkF, argsToLocals, Value.category]; done) | rfl
set_option maxRecDepth 65536 in
set_option maxHeartbeats 40000000 in
theorem rm10_s (l : Launch) (Z : State) (A0 : Array Value) (hw : ∀ d ∈ tables_1, d.before A0 Z = true) (ws : List Jvm.Cond) (a0 : Addr) (p1 : Int32) (cap : Int32) (bd : Int32) (xs : List Int64) (h0 : Heap) (n0 : Nat) (Z0 : n0 ≤ h0.size) (hp : 0 ≤ p1.toInt ∧ p1.toInt < 256) (HK : own_K Z h0 n0 a0 cap bd (some xs)) :
    MetFree l (⟨"com/example/wadjet/wadjet/storage/IntegerChunk", "clear", "(I)V"⟩ : MethodName) (head1 (Jvm.Cond.code (⟨"com/example/wadjet/wadjet/storage/IntegerChunk", "clear", "(I)V"⟩ : MethodName) prog_257_method_12_code 2 none :: ws) ({ frames := 0, cells := 0, slots := 0, locals := 0 } : Room)) (fun a U => a = #[(.ref a0), (.int p1)] ∧ Z.Warmed39 U.vm ∧ U.heap = h0) (fun _ _ _ _ _ => True) (fun _ U o U' => ∃ v L, o = .returned v ∧ Qcl Z a0 p1 cap bd (some xs) h0 n0 v U'.heap L ∧ FrameEnd U o U' L ({ frames := 0, cells := 0, slots := 0, locals := 0 } : Room).cells ({ frames := 0, cells := 0, slots := 0, locals := 0 } : Room).slots) := by
  refine MetFree.of_bodySF (plainFor_of_name pn_10) hisR ?_
  intro p e s m args below meth c s₁ Bd hml0 hP hK
  obtain ⟨rfl, hZ, hh⟩ := hP
  obtain ⟨g_a0, E_a0, ub, nr, kn, vs, mi, wi, nu, g_nr, ne_nr_a0, F_width_a0, F_base_a0, F_based_a0, F_narrow_a0, F_middle_a0, F_wide_a0, F_nulls_a0, V_nr, HN⟩ := HK
  obtain ⟨nl, kl, rfl, g_nl, ne_nl_a0, ne_nr_nl, hx4, V_nl⟩ := HN
  have hx := Bd.exec
  have hby := Bd.bytes
  have hml : c.maxLocals = 2 := hml0
  have hown : s.vm.findClass "com/example/wadjet/wadjet/storage/IntegerChunk" = some m.cls := findClass_of_methodNamed Bd.named
  have hnm := (name_of_methodNamed Bd.named Bd.method).1
  have X0 : Stand p l e ({ frames := 0, cells := 0, slots := 0, locals := 0 } : Room) s m #[(.ref a0), (.int p1)] below meth c s₁ [] 0 0 := Stand.of_body Bd
  have e0 : s₁.heap = h0 := by rw [← hh, Bd.state]; rfl
  have N0 := Fr.nil n0
  have K0 : Keep h0 h0 [a0, nr, nl] := Keep.refl _ _
  have pre0 : ∀ t, Steps p.tables e below (s₁.setTop (mkF m 0 #[.val (.ref a0), .val (.int p1)] [])) t → Steps p.tables e below (s₁.setTop (entryFrame m #[(.ref a0), (.int p1)] 2)) t := fun t k => castTop (ef_rm10_s m a0 p1) k
  obtain ⟨T1, X1, e1, st1⟩ := getF X0 hx hZ hown (host := "") (Or.inl (hw _ (List.mem_of_getElem? (i := 24) rfl))) Via.refl e0 F_nulls_a0 (g := (mkF m 1 #[.val (.ref a0), .val (.int p1)] [(.ref a0)])) rfl rfl (hb hby d10_1)
  obtain ⟨T2, X2, e2, st2⟩ := getF X1 hx hZ hown (host := "") (Or.inl (hw _ (List.mem_of_getElem? (i := 24) rfl))) Via.refl e1 F_nulls_a0 (g := (mkF m 8 #[.val (.ref a0), .val (.int p1)] [(.ref a0)])) rfl rfl (hb hby d10_8)
  obtain ⟨cl3, Ar3, -, SS3, MM3, HH3, -⟩ := id V_nl
  have hin3 := inb_of SS3 (own_i6 hp)
  have hat3 : cl3.slots[(((p1.toUInt32 >>> ((6 : Int32) &&& 31).toUInt32).toInt32)).toNatClampNeg]? = some (.long (xs.getD (own_ix p1) 0)) := HH3.at hin3 (own_mg xs _)
  obtain ⟨cl4, Ar4, qq4, SS4, MM4, HH4, GG4⟩ := id V_nl
  have hin4 := inb_of SS4 (own_i6 hp)
  obtain ⟨T4, h4, X4, e4, W4, st4⟩ := stJ X2 hx hZ e2 Ar4 (j := ((p1.toUInt32 >>> ((6 : Int32) &&& 31).toUInt32).toInt32)) hin4 (g := (mkF m 25 #[.val (.ref a0), .val (.int p1)] [(.long ((xs.getD (own_ix p1) 0) &&& (((1 : Int64) <<< (p1 &&& 0x3f).toInt64) ^^^ (-1 : Int64)))), (.int ((p1.toUInt32 >>> ((6 : Int32) &&& 31).toUInt32).toInt32)), (.ref nl)])) rfl rfl (hb hby d10_25)
  have V_nl : Arv Z h4 nl kl .long (4 : Int32) ((own_an xs p1).map Value.long) (.long (0 : Int64)) := by rw [own_an, List.map_set]; exact Arv.set Ar4 qq4 SS4 MM4 HH4 GG4 rfl W4 (own_ix p1) rfl (own_ixl hx4 hp)
  have E_a0 : Exa Z h4 a0 "com/example/wadjet/wadjet/storage/IntegerChunk" := E_a0.wr W4
  have F_width_a0 : Fld Z h4 a0 "com/example/wadjet/wadjet/storage/IntegerChunk" "width" "I" (.int (1 : Int32)) := F_width_a0.other W4 (Or.inl (Ne.symm ne_nl_a0))
  have F_base_a0 : Fld Z h4 a0 "com/example/wadjet/wadjet/storage/IntegerChunk" "base" "J" (.long ub) := F_base_a0.other W4 (Or.inl (Ne.symm ne_nl_a0))
  have F_based_a0 : Fld Z h4 a0 "com/example/wadjet/wadjet/storage/IntegerChunk" "based" "Z" (.int bd) := F_based_a0.other W4 (Or.inl (Ne.symm ne_nl_a0))
  have F_narrow_a0 : Fld Z h4 a0 "com/example/wadjet/wadjet/storage/IntegerChunk" "narrow" "[B" (.ref nr) := F_narrow_a0.other W4 (Or.inl (Ne.symm ne_nl_a0))
  have F_middle_a0 : Fld Z h4 a0 "com/example/wadjet/wadjet/storage/IntegerChunk" "middle" "[C" mi := F_middle_a0.other W4 (Or.inl (Ne.symm ne_nl_a0))
  have F_wide_a0 : Fld Z h4 a0 "com/example/wadjet/wadjet/storage/IntegerChunk" "wide" "[I" wi := F_wide_a0.other W4 (Or.inl (Ne.symm ne_nl_a0))
  have F_nulls_a0 : Fld Z h4 a0 "com/example/wadjet/wadjet/storage/IntegerChunk" "nulls" "[J" (.ref nl) := F_nulls_a0.other W4 (Or.inl (Ne.symm ne_nl_a0))
  have V_nr : Arv Z h4 nr kn .byte cap vs (.int (0 : Int32)) := V_nr.other W4 ne_nr_nl
  have Zh4 : n0 ≤ h4.size := Nat.le_trans Z0 (Keep.of_wr W4).1
  have Kh4 : Keep h0 h4 [a0, nr, nl] := K0.wr W4 (Or.inl (by simp))
  have N4 := Fr.snoc X4 N0 g_nl
  obtain ⟨fs, hr, hrun, hended, hW, hsame⟩ := X4.leave (v := none) (fun _ => rfl)
  refine ⟨_, _, pre0 _ ?_, hrun, hended, _, _, rfl, ?_, ⟨_, rfl⟩, hW, hsame.mono (by decide) (by decide)⟩
  · show Steps p.tables e below (s₁.setTop (mkF m 0 #[.val (.ref a0), .val (.int p1)] [])) _
    refine XS.aloadN X0.here hx rfl (hb hby d10_0) rfl rfl ?_
    show Steps p.tables e below (s₁.setTop (mkF m 1 #[.val (.ref a0), .val (.int p1)] [(.ref a0)])) _
    refine st1 _ ?_
    show Steps p.tables e below (T1.setTop (mkF m 4 #[.val (.ref a0), .val (.int p1)] [(.ref nl)])) _
    refine XS.ifnullNo X1.here hx rfl (hb hby d10_4) rfl ?_
    show Steps p.tables e below (T1.setTop (mkF m 7 #[.val (.ref a0), .val (.int p1)] [])) _
    refine XS.aloadN X1.here hx rfl (hb hby d10_7) rfl rfl ?_
    show Steps p.tables e below (T1.setTop (mkF m 8 #[.val (.ref a0), .val (.int p1)] [(.ref a0)])) _
    refine st2 _ ?_
    show Steps p.tables e below (T2.setTop (mkF m 11 #[.val (.ref a0), .val (.int p1)] [(.ref nl)])) _
    refine XS.iloadN X2.here hx rfl (hb hby d10_11) rfl ?_
    show Steps p.tables e below (T2.setTop (mkF m 12 #[.val (.ref a0), .val (.int p1)] [(.int p1), (.ref nl)])) _
    refine XS.bipush X2.here hx rfl (hb hby d10_12) ?_
    show Steps p.tables e below (T2.setTop (mkF m 14 #[.val (.ref a0), .val (.int p1)] [(.int (6 : Int32)), (.int p1), (.ref nl)])) _
    refine XS.iushr X2.here hx rfl (hb hby d10_14) rfl ?_
    show Steps p.tables e below (T2.setTop (mkF m 15 #[.val (.ref a0), .val (.int p1)] [(.int ((p1.toUInt32 >>> ((6 : Int32) &&& 31).toUInt32).toInt32)), (.ref nl)])) _
    refine XT.dup2 X2.here hx rfl (hb hby d10_15) rfl rfl rfl ?_
    show Steps p.tables e below (T2.setTop (mkF m 16 #[.val (.ref a0), .val (.int p1)] [(.int ((p1.toUInt32 >>> ((6 : Int32) &&& 31).toUInt32).toInt32)), (.ref nl), (.int ((p1.toUInt32 >>> ((6 : Int32) &&& 31).toUInt32).toInt32)), (.ref nl)])) _
    refine X2.laload hx (j := ((p1.toUInt32 >>> ((6 : Int32) &&& 31).toUInt32).toInt32)) (v := (.long (xs.getD (own_ix p1) 0))) (by rw [e2]; exact Ar3.1) (State.isArrayOf_alike hZ.alike Ar3.2.1) Ar3.2.2 hin3 hat3 (g := (mkF m 16 #[.val (.ref a0), .val (.int p1)] [(.int ((p1.toUInt32 >>> ((6 : Int32) &&& 31).toUInt32).toInt32)), (.ref nl), (.int ((p1.toUInt32 >>> ((6 : Int32) &&& 31).toUInt32).toInt32)), (.ref nl)])) rfl rfl (hb hby d10_16) _ ?_
    show Steps p.tables e below (T2.setTop (mkF m 17 #[.val (.ref a0), .val (.int p1)] [(.long (xs.getD (own_ix p1) 0)), (.int ((p1.toUInt32 >>> ((6 : Int32) &&& 31).toUInt32).toInt32)), (.ref nl)])) _
    refine XS.lconst X2.here hx rfl (hb hby d10_17) ?_
    show Steps p.tables e below (T2.setTop (mkF m 18 #[.val (.ref a0), .val (.int p1)] [(.long (1 : Int64)), (.long (xs.getD (own_ix p1) 0)), (.int ((p1.toUInt32 >>> ((6 : Int32) &&& 31).toUInt32).toInt32)), (.ref nl)])) _
    refine XS.iloadN X2.here hx rfl (hb hby d10_18) rfl ?_
    show Steps p.tables e below (T2.setTop (mkF m 19 #[.val (.ref a0), .val (.int p1)] [(.int p1), (.long (1 : Int64)), (.long (xs.getD (own_ix p1) 0)), (.int ((p1.toUInt32 >>> ((6 : Int32) &&& 31).toUInt32).toInt32)), (.ref nl)])) _
    refine XS.lshl X2.here hx rfl (hb hby d10_19) rfl ?_
    show Steps p.tables e below (T2.setTop (mkF m 20 #[.val (.ref a0), .val (.int p1)] [(.long ((1 : Int64) <<< (p1 &&& 0x3f).toInt64)), (.long (xs.getD (own_ix p1) 0)), (.int ((p1.toUInt32 >>> ((6 : Int32) &&& 31).toUInt32).toInt32)), (.ref nl)])) _
    refine X2.ldc2Long hx hown (mvT hZ (hw _ (List.mem_of_getElem? (i := 53) rfl))) (g := (mkF m 20 #[.val (.ref a0), .val (.int p1)] [(.long ((1 : Int64) <<< (p1 &&& 0x3f).toInt64)), (.long (xs.getD (own_ix p1) 0)), (.int ((p1.toUInt32 >>> ((6 : Int32) &&& 31).toUInt32).toInt32)), (.ref nl)])) rfl (hb hby d10_20) _ ?_
    show Steps p.tables e below (T2.setTop (mkF m 23 #[.val (.ref a0), .val (.int p1)] [(.long (-1 : Int64)), (.long ((1 : Int64) <<< (p1 &&& 0x3f).toInt64)), (.long (xs.getD (own_ix p1) 0)), (.int ((p1.toUInt32 >>> ((6 : Int32) &&& 31).toUInt32).toInt32)), (.ref nl)])) _
    refine XS.lxor X2.here hx rfl (hb hby d10_23) rfl ?_
    show Steps p.tables e below (T2.setTop (mkF m 24 #[.val (.ref a0), .val (.int p1)] [(.long (((1 : Int64) <<< (p1 &&& 0x3f).toInt64) ^^^ (-1 : Int64))), (.long (xs.getD (own_ix p1) 0)), (.int ((p1.toUInt32 >>> ((6 : Int32) &&& 31).toUInt32).toInt32)), (.ref nl)])) _
    refine XS.land X2.here hx rfl (hb hby d10_24) rfl ?_
    show Steps p.tables e below (T2.setTop (mkF m 25 #[.val (.ref a0), .val (.int p1)] [(.long ((xs.getD (own_ix p1) 0) &&& (((1 : Int64) <<< (p1 &&& 0x3f).toInt64) ^^^ (-1 : Int64)))), (.int ((p1.toUInt32 >>> ((6 : Int32) &&& 31).toUInt32).toInt32)), (.ref nl)])) _
    refine st4 _ ?_
    show Steps p.tables e below (T4.setTop (mkF m 26 #[.val (.ref a0), .val (.int p1)] [])) _
    exact X4.returnOut hx Bd.returns (hb hby d10_26) hr
  · show Qcl Z a0 p1 cap bd (some xs) h0 n0 _ T4.heap _
    rw [e4]
    exact ⟨rfl, N4, Kh4.1, g_a0, E_a0, _, _, _, _, _, _, _, g_nr, ne_nr_a0, F_width_a0, F_base_a0, F_based_a0, F_narrow_a0, F_middle_a0, F_wide_a0, F_nulls_a0, V_nr, own_NuS g_nl ne_nl_a0 ne_nr_nl (own_an_len hx4) V_nl⟩
theorem rm10 (l : Launch) (Z : State) (A0 : Array Value) (hw : ∀ d ∈ tables_1, d.before A0 Z = true) (ws : List Jvm.Cond) (a0 : Addr) (p1 : Int32) (cap : Int32) (bd : Int32) (st : Option (List Int64)) (h0 : Heap) (n0 : Nat) (Z0 : n0 ≤ h0.size) (hp : 0 ≤ p1.toInt ∧ p1.toInt < 256) (HK : own_K Z h0 n0 a0 cap bd st) :
    MetFree l (⟨"com/example/wadjet/wadjet/storage/IntegerChunk", "clear", "(I)V"⟩ : MethodName) (head1 (Jvm.Cond.code (⟨"com/example/wadjet/wadjet/storage/IntegerChunk", "clear", "(I)V"⟩ : MethodName) prog_257_method_12_code 2 none :: ws) ({ frames := 0, cells := 0, slots := 0, locals := 0 } : Room)) (fun a U => a = #[(.ref a0), (.int p1)] ∧ Z.Warmed39 U.vm ∧ U.heap = h0) (fun _ _ _ _ _ => True) (fun _ U o U' => ∃ v L, o = .returned v ∧ Qcl Z a0 p1 cap bd st h0 n0 v U'.heap L ∧ FrameEnd U o U' L ({ frames := 0, cells := 0, slots := 0, locals := 0 } : Room).cells ({ frames := 0, cells := 0, slots := 0, locals := 0 } : Room).slots) := by
  cases st with
  | none => exact rm10_n l Z A0 hw ws a0 p1 cap bd h0 n0 Z0 hp  HK
  | some xs => exact rm10_s l Z A0 hw ws a0 p1 cap bd xs h0 n0 Z0 hp  HK
theorem d5_0 : decode prog_257_method_3_code 0 = .ok (.aload_n 0, 1) := by decide +kernel
theorem d5_1 : decode prog_257_method_3_code 1 = .ok (.getfield 31, 3) := by decide +kernel
theorem d5_4 : decode prog_257_method_3_code 4 = .ok (.ifnull 25, 3) := by decide +kernel
theorem d5_29 : decode prog_257_method_3_code 29 = .ok (.iconst 0, 1) := by decide +kernel
theorem d5_30 : decode prog_257_method_3_code 30 = .ok (.ireturn, 1) := by decide +kernel
theorem pn_5 : plainName "com/example/wadjet/wadjet/storage/IntegerChunk" = true := by first | (simp [plainName, overriddenIn]; done) | decide +kernel
theorem ef_rm5_n (m : MethodId) (a0 : Addr) (p1 : Int32) : entryFrame m #[(.ref a0), (.int p1)] 2 = mkF m 0 #[.val (.ref a0), .val (.int p1)] [] := by first | (simp [entryFrame, mkF, argsToLocals, Value.category]; done) | rfl
set_option maxRecDepth 65536 in
set_option maxHeartbeats 40000000 in
theorem rm5_n (l : Launch) (Z : State) (A0 : Array Value) (hw : ∀ d ∈ tables_1, d.before A0 Z = true) (ws : List Jvm.Cond) (a0 : Addr) (p1 : Int32) (cap : Int32) (bd : Int32) (h0 : Heap) (n0 : Nat) (Z0 : n0 ≤ h0.size) (hp : 0 ≤ p1.toInt ∧ p1.toInt < 256) (HK : own_K Z h0 n0 a0 cap bd none) :
    MetFree l (⟨"com/example/wadjet/wadjet/storage/IntegerChunk", "isNull", "(I)Z"⟩ : MethodName) (head1 (Jvm.Cond.code (⟨"com/example/wadjet/wadjet/storage/IntegerChunk", "isNull", "(I)Z"⟩ : MethodName) prog_257_method_3_code 2 (some .boolean) :: ws) ({ frames := 0, cells := 0, slots := 0, locals := 0 } : Room)) (fun a U => a = #[(.ref a0), (.int p1)] ∧ Z.Warmed39 U.vm ∧ U.heap = h0) (fun _ _ _ _ _ => True) (fun _ U o U' => ∃ v L, o = .returned v ∧ Qis Z a0 p1 none h0 n0 v U'.heap L ∧ FrameEnd U o U' L ({ frames := 0, cells := 0, slots := 0, locals := 0 } : Room).cells ({ frames := 0, cells := 0, slots := 0, locals := 0 } : Room).slots) := by
  refine MetFree.of_bodySF (plainFor_of_name pn_5) hisR ?_
  intro p e s m args below meth c s₁ Bd hml0 hP hK
  obtain ⟨rfl, hZ, hh⟩ := hP
  obtain ⟨g_a0, E_a0, ub, nr, kn, vs, mi, wi, nu, g_nr, ne_nr_a0, F_width_a0, F_base_a0, F_based_a0, F_narrow_a0, F_middle_a0, F_wide_a0, F_nulls_a0, V_nr, HN⟩ := HK
  obtain rfl : nu = .null := HN
  have hx := Bd.exec
  have hby := Bd.bytes
  have hml : c.maxLocals = 2 := hml0
  have hown : s.vm.findClass "com/example/wadjet/wadjet/storage/IntegerChunk" = some m.cls := findClass_of_methodNamed Bd.named
  have hnm := (name_of_methodNamed Bd.named Bd.method).1
  have X0 : Stand p l e ({ frames := 0, cells := 0, slots := 0, locals := 0 } : Room) s m #[(.ref a0), (.int p1)] below meth c s₁ [] 0 0 := Stand.of_body Bd
  have e0 : s₁.heap = h0 := by rw [← hh, Bd.state]; rfl
  have N0 := Fr.nil n0
  have K0 : Keep h0 h0 [a0, nr] := Keep.refl _ _
  have pre0 : ∀ t, Steps p.tables e below (s₁.setTop (mkF m 0 #[.val (.ref a0), .val (.int p1)] [])) t → Steps p.tables e below (s₁.setTop (entryFrame m #[(.ref a0), (.int p1)] 2)) t := fun t k => castTop (ef_rm5_n m a0 p1) k
  obtain ⟨T1, X1, e1, st1⟩ := getF X0 hx hZ hown (host := "") (Or.inl (hw _ (List.mem_of_getElem? (i := 24) rfl))) Via.refl e0 F_nulls_a0 (g := (mkF m 1 #[.val (.ref a0), .val (.int p1)] [(.ref a0)])) rfl rfl (hb hby d5_1)
  obtain ⟨fs, hr, hrun, hended, hW, hsame⟩ := X1.leave (v := some (.int (0 : Int32))) (fun h => by rw [Bd.returns] at h; cases h)
  refine ⟨_, _, pre0 _ ?_, hrun, hended, _, _, rfl, ?_, ⟨_, rfl⟩, hW, hsame.mono (by decide) (by decide)⟩
  · show Steps p.tables e below (s₁.setTop (mkF m 0 #[.val (.ref a0), .val (.int p1)] [])) _
    refine XS.aloadN X0.here hx rfl (hb hby d5_0) rfl rfl ?_
    show Steps p.tables e below (s₁.setTop (mkF m 1 #[.val (.ref a0), .val (.int p1)] [(.ref a0)])) _
    refine st1 _ ?_
    show Steps p.tables e below (T1.setTop (mkF m 4 #[.val (.ref a0), .val (.int p1)] [.null])) _
    refine XS.ifnullYes X1.here hx rfl (pc0 := 4) (pc' := 29) rfl (hb hby d5_4) rfl (by decide) (by decide) ?_
    show Steps p.tables e below (T1.setTop (mkF m 29 #[.val (.ref a0), .val (.int p1)] [])) _
    refine XS.iconst X1.here hx rfl (hb hby d5_29) ?_
    show Steps p.tables e below (T1.setTop (mkF m 30 #[.val (.ref a0), .val (.int p1)] [(.int (0 : Int32))])) _
    exact retN X1 hx (t := .boolean) Bd.returns (by simp) (hb hby d5_30) hr
  · show Qis Z a0 p1 none h0 n0 _ T1.heap _
    rw [e1]
    exact ⟨rfl, N0, rfl⟩
theorem d5_7 : decode prog_257_method_3_code 7 = .ok (.aload_n 0, 1) := by decide +kernel
theorem d5_8 : decode prog_257_method_3_code 8 = .ok (.getfield 31, 3) := by decide +kernel
theorem d5_11 : decode prog_257_method_3_code 11 = .ok (.iload_n 1, 1) := by decide +kernel
theorem d5_12 : decode prog_257_method_3_code 12 = .ok (.bipush 6, 2) := by decide +kernel
theorem d5_14 : decode prog_257_method_3_code 14 = .ok (.iushr, 1) := by decide +kernel
theorem d5_15 : decode prog_257_method_3_code 15 = .ok (.laload, 1) := by decide +kernel
theorem d5_16 : decode prog_257_method_3_code 16 = .ok (.lconst 1, 1) := by decide +kernel
theorem d5_17 : decode prog_257_method_3_code 17 = .ok (.iload_n 1, 1) := by decide +kernel
theorem d5_18 : decode prog_257_method_3_code 18 = .ok (.lshl, 1) := by decide +kernel
theorem d5_19 : decode prog_257_method_3_code 19 = .ok (.land, 1) := by decide +kernel
theorem d5_20 : decode prog_257_method_3_code 20 = .ok (.lconst 0, 1) := by decide +kernel
theorem d5_21 : decode prog_257_method_3_code 21 = .ok (.lcmp, 1) := by decide +kernel
theorem d5_22 : decode prog_257_method_3_code 22 = .ok (.ifCond .eq 7, 3) := by decide +kernel
theorem d5_25 : decode prog_257_method_3_code 25 = .ok (.iconst 1, 1) := by decide +kernel
theorem d5_26 : decode prog_257_method_3_code 26 = .ok (.goto 4, 3) := by decide +kernel
theorem ef_rm5_s (m : MethodId) (a0 : Addr) (p1 : Int32) : entryFrame m #[(.ref a0), (.int p1)] 2 = mkF m 0 #[.val (.ref a0), .val (.int p1)] [] := by first | (simp [entryFrame, mkF, argsToLocals, Value.category]; done) | rfl
set_option maxRecDepth 65536 in
set_option maxHeartbeats 40000000 in
theorem rm5_s (l : Launch) (Z : State) (A0 : Array Value) (hw : ∀ d ∈ tables_1, d.before A0 Z = true) (ws : List Jvm.Cond) (a0 : Addr) (p1 : Int32) (cap : Int32) (bd : Int32) (xs : List Int64) (h0 : Heap) (n0 : Nat) (Z0 : n0 ≤ h0.size) (hp : 0 ≤ p1.toInt ∧ p1.toInt < 256) (HK : own_K Z h0 n0 a0 cap bd (some xs)) :
    MetFree l (⟨"com/example/wadjet/wadjet/storage/IntegerChunk", "isNull", "(I)Z"⟩ : MethodName) (head1 (Jvm.Cond.code (⟨"com/example/wadjet/wadjet/storage/IntegerChunk", "isNull", "(I)Z"⟩ : MethodName) prog_257_method_3_code 2 (some .boolean) :: ws) ({ frames := 0, cells := 0, slots := 0, locals := 0 } : Room)) (fun a U => a = #[(.ref a0), (.int p1)] ∧ Z.Warmed39 U.vm ∧ U.heap = h0) (fun _ _ _ _ _ => True) (fun _ U o U' => ∃ v L, o = .returned v ∧ Qis Z a0 p1 (some xs) h0 n0 v U'.heap L ∧ FrameEnd U o U' L ({ frames := 0, cells := 0, slots := 0, locals := 0 } : Room).cells ({ frames := 0, cells := 0, slots := 0, locals := 0 } : Room).slots) := by
  refine MetFree.of_bodySF (plainFor_of_name pn_5) hisR ?_
  intro p e s m args below meth c s₁ Bd hml0 hP hK
  obtain ⟨rfl, hZ, hh⟩ := hP
  obtain ⟨g_a0, E_a0, ub, nr, kn, vs, mi, wi, nu, g_nr, ne_nr_a0, F_width_a0, F_base_a0, F_based_a0, F_narrow_a0, F_middle_a0, F_wide_a0, F_nulls_a0, V_nr, HN⟩ := HK
  obtain ⟨nl, kl, rfl, g_nl, ne_nl_a0, ne_nr_nl, hx4, V_nl⟩ := HN
  have hx := Bd.exec
  have hby := Bd.bytes
  have hml : c.maxLocals = 2 := hml0
  have hown : s.vm.findClass "com/example/wadjet/wadjet/storage/IntegerChunk" = some m.cls := findClass_of_methodNamed Bd.named
  have hnm := (name_of_methodNamed Bd.named Bd.method).1
  have X0 : Stand p l e ({ frames := 0, cells := 0, slots := 0, locals := 0 } : Room) s m #[(.ref a0), (.int p1)] below meth c s₁ [] 0 0 := Stand.of_body Bd
  have e0 : s₁.heap = h0 := by rw [← hh, Bd.state]; rfl
  have N0 := Fr.nil n0
  have K0 : Keep h0 h0 [a0, nr, nl] := Keep.refl _ _
  have pre0 : ∀ t, Steps p.tables e below (s₁.setTop (mkF m 0 #[.val (.ref a0), .val (.int p1)] [])) t → Steps p.tables e below (s₁.setTop (entryFrame m #[(.ref a0), (.int p1)] 2)) t := fun t k => castTop (ef_rm5_s m a0 p1) k
  obtain ⟨T1, X1, e1, st1⟩ := getF X0 hx hZ hown (host := "") (Or.inl (hw _ (List.mem_of_getElem? (i := 24) rfl))) Via.refl e0 F_nulls_a0 (g := (mkF m 1 #[.val (.ref a0), .val (.int p1)] [(.ref a0)])) rfl rfl (hb hby d5_1)
  obtain ⟨T2, X2, e2, st2⟩ := getF X1 hx hZ hown (host := "") (Or.inl (hw _ (List.mem_of_getElem? (i := 24) rfl))) Via.refl e1 F_nulls_a0 (g := (mkF m 8 #[.val (.ref a0), .val (.int p1)] [(.ref a0)])) rfl rfl (hb hby d5_8)
  obtain ⟨cl3, Ar3, -, SS3, MM3, HH3, -⟩ := id V_nl
  have hin3 := inb_of SS3 (own_i6 hp)
  have hat3 : cl3.slots[(((p1.toUInt32 >>> ((6 : Int32) &&& 31).toUInt32).toInt32)).toNatClampNeg]? = some (.long (xs.getD (own_ix p1) 0)) := HH3.at hin3 (own_mg xs _)
  obtain ⟨fs, hr, hrun, hended, hW, hsame⟩ := X2.leave (v := some (.int (nar .boolean (if ((xs.getD (own_ix p1) 0) &&& ((1 : Int64) <<< (p1 &&& 0x3f).toInt64)) = (0 : Int64) then (0 : Int32) else (1 : Int32))))) (fun h => by rw [Bd.returns] at h; cases h)
  refine ⟨_, _, pre0 _ ?_, hrun, hended, _, _, rfl, ?_, ⟨_, rfl⟩, hW, hsame.mono (by decide) (by decide)⟩
  · show Steps p.tables e below (s₁.setTop (mkF m 0 #[.val (.ref a0), .val (.int p1)] [])) _
    refine XS.aloadN X0.here hx rfl (hb hby d5_0) rfl rfl ?_
    show Steps p.tables e below (s₁.setTop (mkF m 1 #[.val (.ref a0), .val (.int p1)] [(.ref a0)])) _
    refine st1 _ ?_
    show Steps p.tables e below (T1.setTop (mkF m 4 #[.val (.ref a0), .val (.int p1)] [(.ref nl)])) _
    refine XS.ifnullNo X1.here hx rfl (hb hby d5_4) rfl ?_
    show Steps p.tables e below (T1.setTop (mkF m 7 #[.val (.ref a0), .val (.int p1)] [])) _
    refine XS.aloadN X1.here hx rfl (hb hby d5_7) rfl rfl ?_
    show Steps p.tables e below (T1.setTop (mkF m 8 #[.val (.ref a0), .val (.int p1)] [(.ref a0)])) _
    refine st2 _ ?_
    show Steps p.tables e below (T2.setTop (mkF m 11 #[.val (.ref a0), .val (.int p1)] [(.ref nl)])) _
    refine XS.iloadN X2.here hx rfl (hb hby d5_11) rfl ?_
    show Steps p.tables e below (T2.setTop (mkF m 12 #[.val (.ref a0), .val (.int p1)] [(.int p1), (.ref nl)])) _
    refine XS.bipush X2.here hx rfl (hb hby d5_12) ?_
    show Steps p.tables e below (T2.setTop (mkF m 14 #[.val (.ref a0), .val (.int p1)] [(.int (6 : Int32)), (.int p1), (.ref nl)])) _
    refine XS.iushr X2.here hx rfl (hb hby d5_14) rfl ?_
    show Steps p.tables e below (T2.setTop (mkF m 15 #[.val (.ref a0), .val (.int p1)] [(.int ((p1.toUInt32 >>> ((6 : Int32) &&& 31).toUInt32).toInt32)), (.ref nl)])) _
    refine X2.laload hx (j := ((p1.toUInt32 >>> ((6 : Int32) &&& 31).toUInt32).toInt32)) (v := (.long (xs.getD (own_ix p1) 0))) (by rw [e2]; exact Ar3.1) (State.isArrayOf_alike hZ.alike Ar3.2.1) Ar3.2.2 hin3 hat3 (g := (mkF m 15 #[.val (.ref a0), .val (.int p1)] [(.int ((p1.toUInt32 >>> ((6 : Int32) &&& 31).toUInt32).toInt32)), (.ref nl)])) rfl rfl (hb hby d5_15) _ ?_
    show Steps p.tables e below (T2.setTop (mkF m 16 #[.val (.ref a0), .val (.int p1)] [(.long (xs.getD (own_ix p1) 0))])) _
    refine XS.lconst X2.here hx rfl (hb hby d5_16) ?_
    show Steps p.tables e below (T2.setTop (mkF m 17 #[.val (.ref a0), .val (.int p1)] [(.long (1 : Int64)), (.long (xs.getD (own_ix p1) 0))])) _
    refine XS.iloadN X2.here hx rfl (hb hby d5_17) rfl ?_
    show Steps p.tables e below (T2.setTop (mkF m 18 #[.val (.ref a0), .val (.int p1)] [(.int p1), (.long (1 : Int64)), (.long (xs.getD (own_ix p1) 0))])) _
    refine XS.lshl X2.here hx rfl (hb hby d5_18) rfl ?_
    show Steps p.tables e below (T2.setTop (mkF m 19 #[.val (.ref a0), .val (.int p1)] [(.long ((1 : Int64) <<< (p1 &&& 0x3f).toInt64)), (.long (xs.getD (own_ix p1) 0))])) _
    refine XS.land X2.here hx rfl (hb hby d5_19) rfl ?_
    show Steps p.tables e below (T2.setTop (mkF m 20 #[.val (.ref a0), .val (.int p1)] [(.long ((xs.getD (own_ix p1) 0) &&& ((1 : Int64) <<< (p1 &&& 0x3f).toInt64)))])) _
    refine XS.lconst X2.here hx rfl (hb hby d5_20) ?_
    show Steps p.tables e below (T2.setTop (mkF m 21 #[.val (.ref a0), .val (.int p1)] [(.long (0 : Int64)), (.long ((xs.getD (own_ix p1) 0) &&& ((1 : Int64) <<< (p1 &&& 0x3f).toInt64)))])) _
    refine XS.lcmp X2.here hx rfl (hb hby d5_21) rfl ?_
    refine own_via (T2.setTop (mkF m 30 #[.val (.ref a0), .val (.int p1)] [(.int (if ((xs.getD (own_ix p1) 0) &&& ((1 : Int64) <<< (p1 &&& 0x3f).toInt64)) = (0 : Int64) then (0 : Int32) else (1 : Int32)))])) (fun k => ?_) ?_
    · by_cases hc22 : ((xs.getD (own_ix p1) 0) &&& ((1 : Int64) <<< (p1 &&& 0x3f).toInt64)) = (0 : Int64)
      · show Steps p.tables e below (T2.setTop (mkF m 22 #[.val (.ref a0), .val (.int p1)] [(.int (lcmpW ((xs.getD (own_ix p1) 0) &&& ((1 : Int64) <<< (p1 &&& 0x3f).toInt64)) (0 : Int64)))])) _
        refine XS.ifYes X2.here hx rfl (pc0 := 22) (pc' := 29) rfl (hb hby d5_22) rfl ((if0 _ _).trans (teq ((lw_eq _ _).mpr hc22)).1) (by decide) (by decide) ?_
        show Steps p.tables e below (T2.setTop (mkF m 29 #[.val (.ref a0), .val (.int p1)] [])) _
        refine XS.iconst X2.here hx rfl (hb hby d5_29) ?_
        try simp only [if_pos hc22] at k
        exact k
      · show Steps p.tables e below (T2.setTop (mkF m 22 #[.val (.ref a0), .val (.int p1)] [(.int (lcmpW ((xs.getD (own_ix p1) 0) &&& ((1 : Int64) <<< (p1 &&& 0x3f).toInt64)) (0 : Int64)))])) _
        refine XS.ifNo X2.here hx rfl (hb hby d5_22) rfl ((if0 _ _).trans (feq (mt (lw_eq _ _).mp hc22)).1) ?_
        show Steps p.tables e below (T2.setTop (mkF m 25 #[.val (.ref a0), .val (.int p1)] [])) _
        refine XS.iconst X2.here hx rfl (hb hby d5_25) ?_
        show Steps p.tables e below (T2.setTop (mkF m 26 #[.val (.ref a0), .val (.int p1)] [(.int (1 : Int32))])) _
        refine XS.goto X2.here hx rfl (pc0 := 26) (pc' := 30) rfl (hb hby d5_26) (by decide) (by decide) ?_
        try simp only [if_neg hc22] at k
        exact k
    show Steps p.tables e below (T2.setTop (mkF m 30 #[.val (.ref a0), .val (.int p1)] [(.int (if ((xs.getD (own_ix p1) 0) &&& ((1 : Int64) <<< (p1 &&& 0x3f).toInt64)) = (0 : Int64) then (0 : Int32) else (1 : Int32)))])) _
    exact retN X2 hx (t := .boolean) Bd.returns (by simp) (hb hby d5_30) hr
  · show Qis Z a0 p1 (some xs) h0 n0 _ T2.heap _
    rw [e2]
    exact ⟨rfl, N0, rfl⟩
theorem rm5 (l : Launch) (Z : State) (A0 : Array Value) (hw : ∀ d ∈ tables_1, d.before A0 Z = true) (ws : List Jvm.Cond) (a0 : Addr) (p1 : Int32) (cap : Int32) (bd : Int32) (st : Option (List Int64)) (h0 : Heap) (n0 : Nat) (Z0 : n0 ≤ h0.size) (hp : 0 ≤ p1.toInt ∧ p1.toInt < 256) (HK : own_K Z h0 n0 a0 cap bd st) :
    MetFree l (⟨"com/example/wadjet/wadjet/storage/IntegerChunk", "isNull", "(I)Z"⟩ : MethodName) (head1 (Jvm.Cond.code (⟨"com/example/wadjet/wadjet/storage/IntegerChunk", "isNull", "(I)Z"⟩ : MethodName) prog_257_method_3_code 2 (some .boolean) :: ws) ({ frames := 0, cells := 0, slots := 0, locals := 0 } : Room)) (fun a U => a = #[(.ref a0), (.int p1)] ∧ Z.Warmed39 U.vm ∧ U.heap = h0) (fun _ _ _ _ _ => True) (fun _ U o U' => ∃ v L, o = .returned v ∧ Qis Z a0 p1 st h0 n0 v U'.heap L ∧ FrameEnd U o U' L ({ frames := 0, cells := 0, slots := 0, locals := 0 } : Room).cells ({ frames := 0, cells := 0, slots := 0, locals := 0 } : Room).slots) := by
  cases st with
  | none => exact rm5_n l Z A0 hw ws a0 p1 cap bd h0 n0 Z0 hp  HK
  | some xs => exact rm5_s l Z A0 hw ws a0 p1 cap bd xs h0 n0 Z0 hp  HK
theorem pd_4 : parseMethodDescriptor "(J)I" = some ⟨[.long], some .int⟩ := by decide +kernel
theorem pd_5 : parseMethodDescriptor "()I" = some ⟨[], some .int⟩ := by decide +kernel
theorem pd_6 : parseMethodDescriptor "(I)V" = some ⟨[.int], none⟩ := by decide +kernel
theorem d7_0 : decode prog_257_method_8_code 0 = .ok (.lload_n 2, 1) := by decide +kernel
theorem d7_1 : decode prog_257_method_8_code 1 = .ok (.invokestatic 60, 3) := by decide +kernel
theorem d7_4 : decode prog_257_method_8_code 4 = .ok (.pop, 1) := by decide +kernel
theorem d7_5 : decode prog_257_method_8_code 5 = .ok (.aload_n 0, 1) := by decide +kernel
theorem d7_6 : decode prog_257_method_8_code 6 = .ok (.getfield 66, 3) := by decide +kernel
theorem d7_9 : decode prog_257_method_8_code 9 = .ok (.ifCond .ne 13, 3) := by decide +kernel
theorem d7_12 : decode prog_257_method_8_code 12 = .ok (.aload_n 0, 1) := by decide +kernel
theorem d7_13 : decode prog_257_method_8_code 13 = .ok (.lload_n 2, 1) := by decide +kernel
theorem d7_14 : decode prog_257_method_8_code 14 = .ok (.putfield 35, 3) := by decide +kernel
theorem d7_17 : decode prog_257_method_8_code 17 = .ok (.aload_n 0, 1) := by decide +kernel
theorem d7_18 : decode prog_257_method_8_code 18 = .ok (.iconst 1, 1) := by decide +kernel
theorem d7_19 : decode prog_257_method_8_code 19 = .ok (.putfield 66, 3) := by decide +kernel
theorem d7_22 : decode prog_257_method_8_code 22 = .ok (.iload_n 1, 1) := by decide +kernel
theorem d7_23 : decode prog_257_method_8_code 23 = .ok (.aload_n 0, 1) := by decide +kernel
theorem d7_24 : decode prog_257_method_8_code 24 = .ok (.invokevirtual 70, 3) := by decide +kernel
theorem d7_27 : decode prog_257_method_8_code 27 = .ok (.if_icmp .lt 15, 3) := by decide +kernel
theorem d7_30 : decode prog_257_method_8_code 30 = .ok (.aload_n 0, 1) := by decide +kernel
theorem d7_31 : decode prog_257_method_8_code 31 = .ok (.aload_n 0, 1) := by decide +kernel
theorem d7_32 : decode prog_257_method_8_code 32 = .ok (.invokevirtual 70, 3) := by decide +kernel
theorem d7_35 : decode prog_257_method_8_code 35 = .ok (.iload_n 1, 1) := by decide +kernel
theorem d7_36 : decode prog_257_method_8_code 36 = .ok (.invokestatic 74, 3) := by decide +kernel
theorem d7_39 : decode prog_257_method_8_code 39 = .ok (.invokevirtual 78, 3) := by decide +kernel
theorem d7_42 : decode prog_257_method_8_code 42 = .ok (.aload_n 0, 1) := by decide +kernel
theorem d7_43 : decode prog_257_method_8_code 43 = .ok (.getfield 7, 3) := by decide +kernel
theorem d7_46 : decode prog_257_method_8_code 46 = .ok (.iconst 4, 1) := by decide +kernel
theorem d7_47 : decode prog_257_method_8_code 47 = .ok (.if_icmp .ge 37, 3) := by decide +kernel
theorem d7_50 : decode prog_257_method_8_code 50 = .ok (.lload_n 2, 1) := by decide +kernel
theorem d7_51 : decode prog_257_method_8_code 51 = .ok (.aload_n 0, 1) := by decide +kernel
theorem d7_52 : decode prog_257_method_8_code 52 = .ok (.getfield 35, 3) := by decide +kernel
theorem d7_55 : decode prog_257_method_8_code 55 = .ok (.lcmp, 1) := by decide +kernel
theorem d7_56 : decode prog_257_method_8_code 56 = .ok (.ifCond .lt 22, 3) := by decide +kernel
theorem d7_59 : decode prog_257_method_8_code 59 = .ok (.lload_n 2, 1) := by decide +kernel
theorem d7_60 : decode prog_257_method_8_code 60 = .ok (.aload_n 0, 1) := by decide +kernel
theorem d7_61 : decode prog_257_method_8_code 61 = .ok (.getfield 35, 3) := by decide +kernel
theorem d7_64 : decode prog_257_method_8_code 64 = .ok (.lsub, 1) := by decide +kernel
theorem d7_65 : decode prog_257_method_8_code 65 = .ok (.lconst 1, 1) := by decide +kernel
theorem d7_66 : decode prog_257_method_8_code 66 = .ok (.bipush 8, 2) := by decide +kernel
theorem d7_68 : decode prog_257_method_8_code 68 = .ok (.aload_n 0, 1) := by decide +kernel
theorem d7_69 : decode prog_257_method_8_code 69 = .ok (.getfield 7, 3) := by decide +kernel
theorem d7_72 : decode prog_257_method_8_code 72 = .ok (.imul, 1) := by decide +kernel
theorem d7_73 : decode prog_257_method_8_code 73 = .ok (.lshl, 1) := by decide +kernel
theorem d7_74 : decode prog_257_method_8_code 74 = .ok (.lcmp, 1) := by decide +kernel
theorem d7_75 : decode prog_257_method_8_code 75 = .ok (.ifCond .lt 9, 3) := by decide +kernel
theorem d7_84 : decode prog_257_method_8_code 84 = .ok (.aload_n 0, 1) := by decide +kernel
theorem d7_85 : decode prog_257_method_8_code 85 = .ok (.getfield 7, 3) := by decide +kernel
theorem d7_88 : decode prog_257_method_8_code 88 = .ok (.iconst 1, 1) := by decide +kernel
theorem d7_89 : decode prog_257_method_8_code 89 = .ok (.if_icmp .ne 20, 3) := by decide +kernel
theorem d7_92 : decode prog_257_method_8_code 92 = .ok (.aload_n 0, 1) := by decide +kernel
theorem d7_93 : decode prog_257_method_8_code 93 = .ok (.getfield 13, 3) := by decide +kernel
theorem d7_96 : decode prog_257_method_8_code 96 = .ok (.iload_n 1, 1) := by decide +kernel
theorem d7_97 : decode prog_257_method_8_code 97 = .ok (.lload_n 2, 1) := by decide +kernel
theorem d7_98 : decode prog_257_method_8_code 98 = .ok (.aload_n 0, 1) := by decide +kernel
theorem d7_99 : decode prog_257_method_8_code 99 = .ok (.getfield 35, 3) := by decide +kernel
theorem d7_102 : decode prog_257_method_8_code 102 = .ok (.lsub, 1) := by decide +kernel
theorem d7_103 : decode prog_257_method_8_code 103 = .ok (.l2i, 1) := by decide +kernel
theorem d7_104 : decode prog_257_method_8_code 104 = .ok (.i2b, 1) := by decide +kernel
theorem d7_105 : decode prog_257_method_8_code 105 = .ok (.bastore, 1) := by decide +kernel
theorem d7_106 : decode prog_257_method_8_code 106 = .ok (.goto 36, 3) := by decide +kernel
theorem d7_142 : decode prog_257_method_8_code 142 = .ok (.aload_n 0, 1) := by decide +kernel
theorem d7_143 : decode prog_257_method_8_code 143 = .ok (.getfield 31, 3) := by decide +kernel
theorem d7_146 : decode prog_257_method_8_code 146 = .ok (.ifnull 22, 3) := by decide +kernel
theorem d7_168 : decode prog_257_method_8_code 168 = .ok (.return_, 1) := by decide +kernel
theorem pn_7 : plainName "com/example/wadjet/wadjet/storage/IntegerChunk" = true := by first | (simp [plainName, overriddenIn]; done) | decide +kernel
theorem ef_rm7_n (m : MethodId) (a0 : Addr) (p1 : Int32) (q2 : Int64) : entryFrame m #[(.ref a0), (.int p1), (.long q2)] 4 = mkF m 0 #[.val (.ref a0), .val (.int p1), .val (.long q2), .second] [] := by first | (simp [entryFrame, mkF, argsToLocals, Value.category]; done) | rfl
set_option maxRecDepth 65536 in
set_option maxHeartbeats 40000000 in
theorem rm7_n (l : Launch) (Z : State) (A0 : Array Value) (hw : ∀ d ∈ tables_1, d.before A0 Z = true) (ws : List Jvm.Cond) (a0 : Addr) (p1 : Int32) (q2 : Int64) (cap : Int32) (h0 : Heap) (n0 : Nat) (Z0 : n0 ≤ h0.size) (hp : 0 ≤ p1.toInt ∧ p1.toInt < 256) (hv : (q2.toInt32.toInt64) = q2) (hcap : cap.toInt = 4 ∨ cap.toInt = 256) (HK : own_K Z h0 n0 a0 cap (0 : Int32) none) :
    MetFree l (⟨"com/example/wadjet/wadjet/storage/IntegerChunk", "writeInteger", "(IJ)V"⟩ : MethodName) (head1 (Jvm.Cond.code (⟨"com/example/wadjet/wadjet/storage/IntegerChunk", "writeInteger", "(IJ)V"⟩ : MethodName) prog_257_method_8_code 4 none :: ws) ({ frames := 3, cells := 1, slots := 256, locals := 46 } : Room)) (fun a U => a = #[(.ref a0), (.int p1), (.long q2)] ∧ Z.Warmed39 U.vm ∧ U.heap = h0) (fun _ _ _ _ _ => True) (fun _ U o U' => ∃ v L, o = .returned v ∧ Qwi Z a0 p1 none h0 n0 v U'.heap L ∧ FrameEnd U o U' L ({ frames := 3, cells := 1, slots := 256, locals := 46 } : Room).cells ({ frames := 3, cells := 1, slots := 256, locals := 46 } : Room).slots) := by
  refine MetFree.of_bodySF (plainFor_of_name pn_7) hisR ?_
  intro p e s m args below meth c s₁ Bd hml0 hP hK
  obtain ⟨rfl, hZ, hh⟩ := hP
  obtain ⟨g_a0, E_a0, ub, nr, kn, vs, mi, wi, nu, g_nr, ne_nr_a0, F_width_a0, F_base_a0, F_based_a0, F_narrow_a0, F_middle_a0, F_wide_a0, F_nulls_a0, V_nr, HN⟩ := HK
  obtain rfl : nu = .null := HN
  have hx := Bd.exec
  have hby := Bd.bytes
  have hml : c.maxLocals = 4 := hml0
  have hown : s.vm.findClass "com/example/wadjet/wadjet/storage/IntegerChunk" = some m.cls := findClass_of_methodNamed Bd.named
  have hnm := (name_of_methodNamed Bd.named Bd.method).1
  have X0 : Stand p l e ({ frames := 3, cells := 1, slots := 256, locals := 46 } : Room) s m #[(.ref a0), (.int p1), (.long q2)] below meth c s₁ [] 0 0 := Stand.of_body Bd
  have e0 : s₁.heap = h0 := by rw [← hh, Bd.state]; rfl
  have N0 := Fr.nil n0
  have K0 : Keep h0 h0 [a0, nr] := Keep.refl _ _
  have pre0 : ∀ t, Steps p.tables e below (s₁.setTop (mkF m 0 #[.val (.ref a0), .val (.int p1), .val (.long q2), .second] [])) t → Steps p.tables e below (s₁.setTop (entryFrame m #[(.ref a0), (.int p1), (.long q2)] 4)) t := fun t k => castTop (ef_rm7_n m a0 p1 q2) k
  obtain ⟨_, _, ⟨T1, L1, k1, n1⟩, -, X1, ⟨Lc1, hQ1, l1, y1, z1⟩, st1⟩ := Jvm.LawKit.callS X0 hx (y := (⟨"java/lang/Math", "toIntExact", "(J)I"⟩ : MethodName)) hown (mvT hZ (hw _ (List.mem_of_getElem? (i := 41) rfl))) (mvT hZ (hw _ (List.mem_of_getElem? (i := 42) rfl))) (mvT hZ (hw _ (List.mem_of_getElem? (i := 43) rfl))) (mvT hZ (hw _ (List.mem_of_getElem? (i := 44) rfl))) (by decide) (backOf (W := 0) (rm8 l Z A0 hw [] q2  h0 n0 Z0 (hv)) hZ (hw _ (List.mem_of_getElem? (i := 44) rfl)) (hw _ (List.mem_of_getElem? (i := 43) rfl)) (by decide) (by decide)) (g := (mkF m 1 #[.val (.ref a0), .val (.int p1), .val (.long q2), .second] [(.long q2)])) rfl (by rw [hml]; rfl) (argsL := [(.long q2)]) (rest := []) (lenOf pd_4 rfl) rfl (by show 2 * 0 + _ ≤ _; exact Nat.le_of_eq rfl) (hb hby d7_1) (fun _ _ => ⟨rfl, e0, (by decide : 0 + 0 ≤ _), (by decide : 0 + 0 ≤ _)⟩)
  dsimp only [Pt.U, Pt.locs, Pt.cells, Pt.slots] at X1 l1 y1 z1 st1 hQ1
  subst y1 z1
  obtain ⟨rfl, N1q, eh1⟩ := hQ1
  have N1 : Fr n0 L1 := by rw [l1]; exact Fr.app N0 N1q
  clear l1
  obtain ⟨T2, X2, e2, st2⟩ := getF X1 hx hZ hown (host := "") (Or.inl (hw _ (List.mem_of_getElem? (i := 45) rfl))) Via.refl eh1 F_based_a0 (g := (mkF m 6 #[.val (.ref a0), .val (.int p1), .val (.long q2), .second] [(.ref a0)])) rfl rfl (hb hby d7_6)
  obtain ⟨T3, h3, X3, e3, W3, st3⟩ := putF X2 hx hZ hown (host := "") (Or.inl (hw _ (List.mem_of_getElem? (i := 47) rfl))) Via.refl e2 F_base_a0 E_a0 (Or.inl (hw _ (List.mem_of_getElem? (i := 48) rfl))) (hw _ (List.mem_of_getElem? (i := 1) rfl)) (ty := .long) (by decide) rfl rfl (g := (mkF m 14 #[.val (.ref a0), .val (.int p1), .val (.long q2), .second] [(.long q2), (.ref a0)])) rfl rfl (hb hby d7_14)
  have F_base_a0 : Fld Z h3 a0 "com/example/wadjet/wadjet/storage/IntegerChunk" "base" "J" (.long q2) := F_base_a0.same W3
  have E_a0 : Exa Z h3 a0 "com/example/wadjet/wadjet/storage/IntegerChunk" := E_a0.wr W3
  have F_width_a0 : Fld Z h3 a0 "com/example/wadjet/wadjet/storage/IntegerChunk" "width" "I" (.int (1 : Int32)) := F_width_a0.other W3 (Or.inr (slot_ne (Or.inl (hw _ (List.mem_of_getElem? (i := 15) rfl))) (Or.inl (hw _ (List.mem_of_getElem? (i := 48) rfl))) (by decide) (t := .int) (t' := .long) (by decide) (by decide)))
  have F_based_a0 : Fld Z h3 a0 "com/example/wadjet/wadjet/storage/IntegerChunk" "based" "Z" (.int (0 : Int32)) := F_based_a0.other W3 (Or.inr (slot_ne (Or.inl (hw _ (List.mem_of_getElem? (i := 46) rfl))) (Or.inl (hw _ (List.mem_of_getElem? (i := 48) rfl))) (by decide) (t := .boolean) (t' := .long) (by decide) (by decide)))
  have F_narrow_a0 : Fld Z h3 a0 "com/example/wadjet/wadjet/storage/IntegerChunk" "narrow" "[B" (.ref nr) := F_narrow_a0.other W3 (Or.inr (slot_ne (Or.inl (hw _ (List.mem_of_getElem? (i := 18) rfl))) (Or.inl (hw _ (List.mem_of_getElem? (i := 48) rfl))) (by decide) (t := (.array .byte)) (t' := .long) (by decide) (by decide)))
  have F_middle_a0 : Fld Z h3 a0 "com/example/wadjet/wadjet/storage/IntegerChunk" "middle" "[C" mi := F_middle_a0.other W3 (Or.inr (slot_ne (Or.inl (hw _ (List.mem_of_getElem? (i := 92) rfl))) (Or.inl (hw _ (List.mem_of_getElem? (i := 48) rfl))) (by decide) (t := (.array .char)) (t' := .long) (by decide) (by decide)))
  have F_wide_a0 : Fld Z h3 a0 "com/example/wadjet/wadjet/storage/IntegerChunk" "wide" "[I" wi := F_wide_a0.other W3 (Or.inr (slot_ne (Or.inl (hw _ (List.mem_of_getElem? (i := 94) rfl))) (Or.inl (hw _ (List.mem_of_getElem? (i := 48) rfl))) (by decide) (t := (.array .int)) (t' := .long) (by decide) (by decide)))
  have F_nulls_a0 : Fld Z h3 a0 "com/example/wadjet/wadjet/storage/IntegerChunk" "nulls" "[J" .null := F_nulls_a0.other W3 (Or.inr (slot_ne (Or.inl (hw _ (List.mem_of_getElem? (i := 25) rfl))) (Or.inl (hw _ (List.mem_of_getElem? (i := 48) rfl))) (by decide) (t := (.array .long)) (t' := .long) (by decide) (by decide)))
  have V_nr : Arv Z h3 nr kn .byte cap vs (.int (0 : Int32)) := V_nr.other W3 ne_nr_a0
  have Zh3 : n0 ≤ h3.size := Nat.le_trans Z0 (Keep.of_wr W3).1
  have Kh3 : Keep h0 h3 [a0, nr] := K0.wr W3 (Or.inl (by simp))
  have N3 := Fr.snoc X3 N1 g_a0
  obtain ⟨T4, h4, X4, e4, W4, st4⟩ := putFN X3 hx hZ hown (hw _ (List.mem_of_getElem? (i := 45) rfl)) Via.refl e3 F_based_a0 E_a0 (Or.inl (hw _ (List.mem_of_getElem? (i := 46) rfl))) (hw _ (List.mem_of_getElem? (i := 1) rfl)) (ty := .boolean) (v' := (.int (nar .boolean (1 : Int32)))) (by decide) rfl (fits_nar_bool _) (g := (mkF m 19 #[.val (.ref a0), .val (.int p1), .val (.long q2), .second] [(.int (1 : Int32)), (.ref a0)])) rfl rfl (hb hby d7_19)
  have F_based_a0 : Fld Z h4 a0 "com/example/wadjet/wadjet/storage/IntegerChunk" "based" "Z" (.int (nar .boolean (1 : Int32))) := F_based_a0.same W4
  have E_a0 : Exa Z h4 a0 "com/example/wadjet/wadjet/storage/IntegerChunk" := E_a0.wr W4
  have F_width_a0 : Fld Z h4 a0 "com/example/wadjet/wadjet/storage/IntegerChunk" "width" "I" (.int (1 : Int32)) := F_width_a0.other W4 (Or.inr (slot_ne (Or.inl (hw _ (List.mem_of_getElem? (i := 15) rfl))) (Or.inl (hw _ (List.mem_of_getElem? (i := 46) rfl))) (by decide) (t := .int) (t' := .boolean) (by decide) (by decide)))
  have F_base_a0 : Fld Z h4 a0 "com/example/wadjet/wadjet/storage/IntegerChunk" "base" "J" (.long q2) := F_base_a0.other W4 (Or.inr (slot_ne (Or.inl (hw _ (List.mem_of_getElem? (i := 48) rfl))) (Or.inl (hw _ (List.mem_of_getElem? (i := 46) rfl))) (by decide) (t := .long) (t' := .boolean) (by decide) (by decide)))
  have F_narrow_a0 : Fld Z h4 a0 "com/example/wadjet/wadjet/storage/IntegerChunk" "narrow" "[B" (.ref nr) := F_narrow_a0.other W4 (Or.inr (slot_ne (Or.inl (hw _ (List.mem_of_getElem? (i := 18) rfl))) (Or.inl (hw _ (List.mem_of_getElem? (i := 46) rfl))) (by decide) (t := (.array .byte)) (t' := .boolean) (by decide) (by decide)))
  have F_middle_a0 : Fld Z h4 a0 "com/example/wadjet/wadjet/storage/IntegerChunk" "middle" "[C" mi := F_middle_a0.other W4 (Or.inr (slot_ne (Or.inl (hw _ (List.mem_of_getElem? (i := 92) rfl))) (Or.inl (hw _ (List.mem_of_getElem? (i := 46) rfl))) (by decide) (t := (.array .char)) (t' := .boolean) (by decide) (by decide)))
  have F_wide_a0 : Fld Z h4 a0 "com/example/wadjet/wadjet/storage/IntegerChunk" "wide" "[I" wi := F_wide_a0.other W4 (Or.inr (slot_ne (Or.inl (hw _ (List.mem_of_getElem? (i := 94) rfl))) (Or.inl (hw _ (List.mem_of_getElem? (i := 46) rfl))) (by decide) (t := (.array .int)) (t' := .boolean) (by decide) (by decide)))
  have F_nulls_a0 : Fld Z h4 a0 "com/example/wadjet/wadjet/storage/IntegerChunk" "nulls" "[J" .null := F_nulls_a0.other W4 (Or.inr (slot_ne (Or.inl (hw _ (List.mem_of_getElem? (i := 25) rfl))) (Or.inl (hw _ (List.mem_of_getElem? (i := 46) rfl))) (by decide) (t := (.array .long)) (t' := .boolean) (by decide) (by decide)))
  have V_nr : Arv Z h4 nr kn .byte cap vs (.int (0 : Int32)) := V_nr.other W4 ne_nr_a0
  have Zh4 : n0 ≤ h4.size := Nat.le_trans Zh3 (Keep.of_wr W4).1
  have Kh4 : Keep h0 h4 [a0, nr] := Kh3.wr W4 (Or.inl (by simp))
  have N4 := Fr.snoc X4 N3 g_a0
  obtain ⟨cq5, q5, q5'⟩ := E_a0.cell
  obtain ⟨_, _, ⟨T5, L5, k5, n5⟩, -, X5, ⟨Lc5, hQ5, l5, y5, z5⟩, st5⟩ := X4.privateBack hx (y := (⟨"com/example/wadjet/wadjet/storage/IntegerChunk", "capacity", "()I"⟩ : MethodName)) hown (mvT hZ (hw _ (List.mem_of_getElem? (i := 49) rfl))) (mvT hZ (hw _ (List.mem_of_getElem? (i := 50) rfl))) (own_selP hZ (hw _ (List.mem_of_getElem? (i := 1) rfl)) (hw _ (List.mem_of_getElem? (i := 51) rfl)) (hw _ (List.mem_of_getElem? (i := 50) rfl)) (by decide)) (Cond.privateMethod_at (mvP hZ (hw _ (List.mem_of_getElem? (i := 51) rfl)) (args := #[]))) (mvT hZ (hw _ (List.mem_of_getElem? (i := 52) rfl))) (by decide) (backOf (W := 1) (rm9 l Z A0 hw [] a0 nr kn cap vs (.int (0 : Int32)) h4 n0 Zh4 F_width_a0 F_narrow_a0 V_nr) hZ (hw _ (List.mem_of_getElem? (i := 52) rfl)) (hw _ (List.mem_of_getElem? (i := 2) rfl)) (by decide) (by decide)) (g := (mkF m 24 #[.val (.ref a0), .val (.int p1), .val (.long q2), .second] [(.ref a0), (.int p1)])) rfl (by rw [hml]; rfl) (Steps.refl _) (a := a0) (by rw [e4]; exact q5) q5' (argsL := []) (rest := [(.int p1)]) (lenOf pd_5 rfl) rfl (by show 2 * 0 + _ ≤ _; exact Nat.le_of_eq rfl) (hb hby d7_24) (fun _ _ => ⟨rfl, e4, (by decide : 0 + 0 ≤ _), (by decide : 0 + 0 ≤ _)⟩)
  dsimp only [Pt.U, Pt.locs, Pt.cells, Pt.slots] at X5 l5 y5 z5 st5 hQ5
  subst y5 z5
  obtain ⟨rfl, N5q, eh5⟩ := hQ5
  have N5 : Fr n0 L5 := by rw [l5]; exact Fr.app N4 N5q
  clear l5
  by_cases hc27 : p1 < cap
  · obtain ⟨T6, X6, e6, st6⟩ := getF X5 hx hZ hown (host := "") (Or.inl (hw _ (List.mem_of_getElem? (i := 14) rfl))) Via.refl eh5 F_width_a0 (g := (mkF m 43 #[.val (.ref a0), .val (.int p1), .val (.long q2), .second] [(.ref a0)])) rfl rfl (hb hby d7_43)
    obtain ⟨T7, X7, e7, st7⟩ := getF X6 hx hZ hown (host := "") (Or.inl (hw _ (List.mem_of_getElem? (i := 47) rfl))) Via.refl e6 F_base_a0 (g := (mkF m 52 #[.val (.ref a0), .val (.int p1), .val (.long q2), .second] [(.ref a0), (.long q2)])) rfl rfl (hb hby d7_52)
    obtain ⟨T8, X8, e8, st8⟩ := getF X7 hx hZ hown (host := "") (Or.inl (hw _ (List.mem_of_getElem? (i := 47) rfl))) Via.refl e7 F_base_a0 (g := (mkF m 61 #[.val (.ref a0), .val (.int p1), .val (.long q2), .second] [(.ref a0), (.long q2)])) rfl rfl (hb hby d7_61)
    obtain ⟨T9, X9, e9, st9⟩ := getF X8 hx hZ hown (host := "") (Or.inl (hw _ (List.mem_of_getElem? (i := 14) rfl))) Via.refl e8 F_width_a0 (g := (mkF m 69 #[.val (.ref a0), .val (.int p1), .val (.long q2), .second] [(.ref a0), (.int (8 : Int32)), (.long (1 : Int64)), (.long (q2 - q2))])) rfl rfl (hb hby d7_69)
    obtain ⟨T10, X10, e10, st10⟩ := getF X9 hx hZ hown (host := "") (Or.inl (hw _ (List.mem_of_getElem? (i := 14) rfl))) Via.refl e9 F_width_a0 (g := (mkF m 85 #[.val (.ref a0), .val (.int p1), .val (.long q2), .second] [(.ref a0)])) rfl rfl (hb hby d7_85)
    obtain ⟨T11, X11, e11, st11⟩ := getF X10 hx hZ hown (host := "") (Or.inl (hw _ (List.mem_of_getElem? (i := 17) rfl))) Via.refl e10 F_narrow_a0 (g := (mkF m 93 #[.val (.ref a0), .val (.int p1), .val (.long q2), .second] [(.ref a0)])) rfl rfl (hb hby d7_93)
    obtain ⟨T12, X12, e12, st12⟩ := getF X11 hx hZ hown (host := "") (Or.inl (hw _ (List.mem_of_getElem? (i := 47) rfl))) Via.refl e11 F_base_a0 (g := (mkF m 99 #[.val (.ref a0), .val (.int p1), .val (.long q2), .second] [(.ref a0), (.long q2), (.int p1), (.ref nr)])) rfl rfl (hb hby d7_99)
    have V_nr : Arv Z h4 nr kn .byte cap (vs ++ List.replicate 256 (Value.int (0 : Int32))) (.int (0 : Int32)) := V_nr.pad (pad_rep vs (Value.int (0 : Int32)) 256)
    obtain ⟨cl13, Ar13, qq13, SS13, MM13, HH13, GG13⟩ := id V_nr
    have hin13 := inb_of SS13 ⟨own_nneg hp.1, hc27⟩
    obtain ⟨T13, h13, X13, e13, W13, st13⟩ := stB X12 hx hZ e12 Ar13 (j := p1) hin13 (g := (mkF m 105 #[.val (.ref a0), .val (.int p1), .val (.long q2), .second] [(.int (((q2 - q2).toInt32).toInt8.toInt32)), (.int p1), (.ref nr)])) rfl rfl (hb hby d7_105)
    have V_nr : Arv Z h13 nr kn .byte cap ((vs ++ List.replicate 256 (Value.int (0 : Int32))).set p1.toNatClampNeg (.int (nar .byte (((q2 - q2).toInt32).toInt8.toInt32)))) (.int (0 : Int32)) := Arv.set Ar13 qq13 SS13 MM13 HH13 GG13 (fits_nar_byte _) W13 p1.toNatClampNeg rfl (by rw [List.length_append, List.length_replicate, own_tn]; omega)
    have E_a0 : Exa Z h13 a0 "com/example/wadjet/wadjet/storage/IntegerChunk" := E_a0.wr W13
    have F_width_a0 : Fld Z h13 a0 "com/example/wadjet/wadjet/storage/IntegerChunk" "width" "I" (.int (1 : Int32)) := F_width_a0.other W13 (Or.inl (Ne.symm ne_nr_a0))
    have F_base_a0 : Fld Z h13 a0 "com/example/wadjet/wadjet/storage/IntegerChunk" "base" "J" (.long q2) := F_base_a0.other W13 (Or.inl (Ne.symm ne_nr_a0))
    have F_based_a0 : Fld Z h13 a0 "com/example/wadjet/wadjet/storage/IntegerChunk" "based" "Z" (.int (nar .boolean (1 : Int32))) := F_based_a0.other W13 (Or.inl (Ne.symm ne_nr_a0))
    have F_narrow_a0 : Fld Z h13 a0 "com/example/wadjet/wadjet/storage/IntegerChunk" "narrow" "[B" (.ref nr) := F_narrow_a0.other W13 (Or.inl (Ne.symm ne_nr_a0))
    have F_middle_a0 : Fld Z h13 a0 "com/example/wadjet/wadjet/storage/IntegerChunk" "middle" "[C" mi := F_middle_a0.other W13 (Or.inl (Ne.symm ne_nr_a0))
    have F_wide_a0 : Fld Z h13 a0 "com/example/wadjet/wadjet/storage/IntegerChunk" "wide" "[I" wi := F_wide_a0.other W13 (Or.inl (Ne.symm ne_nr_a0))
    have F_nulls_a0 : Fld Z h13 a0 "com/example/wadjet/wadjet/storage/IntegerChunk" "nulls" "[J" .null := F_nulls_a0.other W13 (Or.inl (Ne.symm ne_nr_a0))
    have Zh13 : n0 ≤ h13.size := Nat.le_trans Zh4 (Keep.of_wr W13).1
    have Kh13 : Keep h0 h13 [a0, nr] := Kh4.wr W13 (Or.inl (by simp))
    have N13 := Fr.snoc X13 N5 g_nr
    obtain ⟨T14, X14, e14, st14⟩ := getF X13 hx hZ hown (host := "") (Or.inl (hw _ (List.mem_of_getElem? (i := 24) rfl))) Via.refl e13 F_nulls_a0 (g := (mkF m 143 #[.val (.ref a0), .val (.int p1), .val (.long q2), .second] [(.ref a0)])) rfl rfl (hb hby d7_143)
    obtain ⟨fs, hr, hrun, hended, hW, hsame⟩ := X14.leave (v := none) (fun _ => rfl)
    refine ⟨_, _, pre0 _ ?_, hrun, hended, _, _, rfl, ?_, ⟨_, rfl⟩, hW, hsame.mono (by decide) (by decide)⟩
    · show Steps p.tables e below (s₁.setTop (mkF m 0 #[.val (.ref a0), .val (.int p1), .val (.long q2), .second] [])) _
      refine XS.lloadN X0.here hx rfl (hb hby d7_0) rfl ?_
      show Steps p.tables e below (s₁.setTop (mkF m 1 #[.val (.ref a0), .val (.int p1), .val (.long q2), .second] [(.long q2)])) _
      refine st1 _ ?_
      show Steps p.tables e below (T1.setTop (mkF m 4 #[.val (.ref a0), .val (.int p1), .val (.long q2), .second] [(.int (q2.toInt32))])) _
      refine XS.pop X1.here hx rfl (hb hby d7_4) rfl rfl ?_
      show Steps p.tables e below (T1.setTop (mkF m 5 #[.val (.ref a0), .val (.int p1), .val (.long q2), .second] [])) _
      refine XS.aloadN X1.here hx rfl (hb hby d7_5) rfl rfl ?_
      show Steps p.tables e below (T1.setTop (mkF m 6 #[.val (.ref a0), .val (.int p1), .val (.long q2), .second] [(.ref a0)])) _
      refine st2 _ ?_
      show Steps p.tables e below (T2.setTop (mkF m 9 #[.val (.ref a0), .val (.int p1), .val (.long q2), .second] [(.int (0 : Int32))])) _
      refine XS.ifNo X2.here hx rfl (hb hby d7_9) rfl ((if0 _ _).trans (teq (by decide : (0 : Int32) = (0 : Int32))).2) ?_
      show Steps p.tables e below (T2.setTop (mkF m 12 #[.val (.ref a0), .val (.int p1), .val (.long q2), .second] [])) _
      refine XS.aloadN X2.here hx rfl (hb hby d7_12) rfl rfl ?_
      show Steps p.tables e below (T2.setTop (mkF m 13 #[.val (.ref a0), .val (.int p1), .val (.long q2), .second] [(.ref a0)])) _
      refine XS.lloadN X2.here hx rfl (hb hby d7_13) rfl ?_
      show Steps p.tables e below (T2.setTop (mkF m 14 #[.val (.ref a0), .val (.int p1), .val (.long q2), .second] [(.long q2), (.ref a0)])) _
      refine st3 _ ?_
      show Steps p.tables e below (T3.setTop (mkF m 17 #[.val (.ref a0), .val (.int p1), .val (.long q2), .second] [])) _
      refine XS.aloadN X3.here hx rfl (hb hby d7_17) rfl rfl ?_
      show Steps p.tables e below (T3.setTop (mkF m 18 #[.val (.ref a0), .val (.int p1), .val (.long q2), .second] [(.ref a0)])) _
      refine XS.iconst X3.here hx rfl (hb hby d7_18) ?_
      show Steps p.tables e below (T3.setTop (mkF m 19 #[.val (.ref a0), .val (.int p1), .val (.long q2), .second] [(.int (1 : Int32)), (.ref a0)])) _
      refine st4 _ ?_
      show Steps p.tables e below (T4.setTop (mkF m 22 #[.val (.ref a0), .val (.int p1), .val (.long q2), .second] [])) _
      refine XS.iloadN X4.here hx rfl (hb hby d7_22) rfl ?_
      show Steps p.tables e below (T4.setTop (mkF m 23 #[.val (.ref a0), .val (.int p1), .val (.long q2), .second] [(.int p1)])) _
      refine XS.aloadN X4.here hx rfl (hb hby d7_23) rfl rfl ?_
      show Steps p.tables e below (T4.setTop (mkF m 24 #[.val (.ref a0), .val (.int p1), .val (.long q2), .second] [(.ref a0), (.int p1)])) _
      refine st5.trans ?_
      show Steps p.tables e below (T5.setTop (mkF m 27 #[.val (.ref a0), .val (.int p1), .val (.long q2), .second] [(.int cap), (.int p1)])) _
      refine XS.icmpYes X5.here hx rfl (pc0 := 27) (pc' := 42) rfl (hb hby d7_27) rfl (tlt hc27).1 (by decide) (by decide) ?_
      show Steps p.tables e below (T5.setTop (mkF m 42 #[.val (.ref a0), .val (.int p1), .val (.long q2), .second] [])) _
      refine XS.aloadN X5.here hx rfl (hb hby d7_42) rfl rfl ?_
      show Steps p.tables e below (T5.setTop (mkF m 43 #[.val (.ref a0), .val (.int p1), .val (.long q2), .second] [(.ref a0)])) _
      refine st6 _ ?_
      show Steps p.tables e below (T6.setTop (mkF m 46 #[.val (.ref a0), .val (.int p1), .val (.long q2), .second] [(.int (1 : Int32))])) _
      refine XS.iconst X6.here hx rfl (hb hby d7_46) ?_
      show Steps p.tables e below (T6.setTop (mkF m 47 #[.val (.ref a0), .val (.int p1), .val (.long q2), .second] [(.int (4 : Int32)), (.int (1 : Int32))])) _
      refine XS.icmpNo X6.here hx rfl (hb hby d7_47) rfl (tlt (by decide : (1 : Int32) < (4 : Int32))).2.1 ?_
      show Steps p.tables e below (T6.setTop (mkF m 50 #[.val (.ref a0), .val (.int p1), .val (.long q2), .second] [])) _
      refine XS.lloadN X6.here hx rfl (hb hby d7_50) rfl ?_
      show Steps p.tables e below (T6.setTop (mkF m 51 #[.val (.ref a0), .val (.int p1), .val (.long q2), .second] [(.long q2)])) _
      refine XS.aloadN X6.here hx rfl (hb hby d7_51) rfl rfl ?_
      show Steps p.tables e below (T6.setTop (mkF m 52 #[.val (.ref a0), .val (.int p1), .val (.long q2), .second] [(.ref a0), (.long q2)])) _
      refine st7 _ ?_
      show Steps p.tables e below (T7.setTop (mkF m 55 #[.val (.ref a0), .val (.int p1), .val (.long q2), .second] [(.long q2), (.long q2)])) _
      refine XS.lcmp X7.here hx rfl (hb hby d7_55) rfl ?_
      show Steps p.tables e below (T7.setTop (mkF m 56 #[.val (.ref a0), .val (.int p1), .val (.long q2), .second] [(.int (lcmpW q2 q2))])) _
      refine XS.ifNo X7.here hx rfl (hb hby d7_56) rfl ((if0 _ _).trans (flt (mt (lw_lt _ _).mp (Int64.lt_irrefl : ¬ (q2 < q2)))).1) ?_
      show Steps p.tables e below (T7.setTop (mkF m 59 #[.val (.ref a0), .val (.int p1), .val (.long q2), .second] [])) _
      refine XS.lloadN X7.here hx rfl (hb hby d7_59) rfl ?_
      show Steps p.tables e below (T7.setTop (mkF m 60 #[.val (.ref a0), .val (.int p1), .val (.long q2), .second] [(.long q2)])) _
      refine XS.aloadN X7.here hx rfl (hb hby d7_60) rfl rfl ?_
      show Steps p.tables e below (T7.setTop (mkF m 61 #[.val (.ref a0), .val (.int p1), .val (.long q2), .second] [(.ref a0), (.long q2)])) _
      refine st8 _ ?_
      show Steps p.tables e below (T8.setTop (mkF m 64 #[.val (.ref a0), .val (.int p1), .val (.long q2), .second] [(.long q2), (.long q2)])) _
      refine XS.lsub X8.here hx rfl (hb hby d7_64) rfl ?_
      show Steps p.tables e below (T8.setTop (mkF m 65 #[.val (.ref a0), .val (.int p1), .val (.long q2), .second] [(.long (q2 - q2))])) _
      refine XS.lconst X8.here hx rfl (hb hby d7_65) ?_
      show Steps p.tables e below (T8.setTop (mkF m 66 #[.val (.ref a0), .val (.int p1), .val (.long q2), .second] [(.long (1 : Int64)), (.long (q2 - q2))])) _
      refine XS.bipush X8.here hx rfl (hb hby d7_66) ?_
      show Steps p.tables e below (T8.setTop (mkF m 68 #[.val (.ref a0), .val (.int p1), .val (.long q2), .second] [(.int (8 : Int32)), (.long (1 : Int64)), (.long (q2 - q2))])) _
      refine XS.aloadN X8.here hx rfl (hb hby d7_68) rfl rfl ?_
      show Steps p.tables e below (T8.setTop (mkF m 69 #[.val (.ref a0), .val (.int p1), .val (.long q2), .second] [(.ref a0), (.int (8 : Int32)), (.long (1 : Int64)), (.long (q2 - q2))])) _
      refine st9 _ ?_
      show Steps p.tables e below (T9.setTop (mkF m 72 #[.val (.ref a0), .val (.int p1), .val (.long q2), .second] [(.int (1 : Int32)), (.int (8 : Int32)), (.long (1 : Int64)), (.long (q2 - q2))])) _
      refine XS.imul X9.here hx rfl (hb hby d7_72) rfl ?_
      show Steps p.tables e below (T9.setTop (mkF m 73 #[.val (.ref a0), .val (.int p1), .val (.long q2), .second] [(.int ((8 : Int32) * (1 : Int32))), (.long (1 : Int64)), (.long (q2 - q2))])) _
      refine XS.lshl X9.here hx rfl (hb hby d7_73) rfl ?_
      show Steps p.tables e below (T9.setTop (mkF m 74 #[.val (.ref a0), .val (.int p1), .val (.long q2), .second] [(.long ((1 : Int64) <<< (((8 : Int32) * (1 : Int32)) &&& 0x3f).toInt64)), (.long (q2 - q2))])) _
      refine XS.lcmp X9.here hx rfl (hb hby d7_74) rfl ?_
      show Steps p.tables e below (T9.setTop (mkF m 75 #[.val (.ref a0), .val (.int p1), .val (.long q2), .second] [(.int (lcmpW (q2 - q2) ((1 : Int64) <<< (((8 : Int32) * (1 : Int32)) &&& 0x3f).toInt64)))])) _
      refine XS.ifYes X9.here hx rfl (pc0 := 75) (pc' := 84) rfl (hb hby d7_75) rfl ((if0 _ _).trans (tlt ((lw_lt _ _).mpr (own_lt8 q2 : (q2 - q2) < ((1 : Int64) <<< (((8 : Int32) * (1 : Int32)) &&& 0x3f).toInt64)))).1) (by decide) (by decide) ?_
      show Steps p.tables e below (T9.setTop (mkF m 84 #[.val (.ref a0), .val (.int p1), .val (.long q2), .second] [])) _
      refine XS.aloadN X9.here hx rfl (hb hby d7_84) rfl rfl ?_
      show Steps p.tables e below (T9.setTop (mkF m 85 #[.val (.ref a0), .val (.int p1), .val (.long q2), .second] [(.ref a0)])) _
      refine st10 _ ?_
      show Steps p.tables e below (T10.setTop (mkF m 88 #[.val (.ref a0), .val (.int p1), .val (.long q2), .second] [(.int (1 : Int32))])) _
      refine XS.iconst X10.here hx rfl (hb hby d7_88) ?_
      show Steps p.tables e below (T10.setTop (mkF m 89 #[.val (.ref a0), .val (.int p1), .val (.long q2), .second] [(.int (1 : Int32)), (.int (1 : Int32))])) _
      refine XS.icmpNo X10.here hx rfl (hb hby d7_89) rfl (teq (by decide : (1 : Int32) = (1 : Int32))).2 ?_
      show Steps p.tables e below (T10.setTop (mkF m 92 #[.val (.ref a0), .val (.int p1), .val (.long q2), .second] [])) _
      refine XS.aloadN X10.here hx rfl (hb hby d7_92) rfl rfl ?_
      show Steps p.tables e below (T10.setTop (mkF m 93 #[.val (.ref a0), .val (.int p1), .val (.long q2), .second] [(.ref a0)])) _
      refine st11 _ ?_
      show Steps p.tables e below (T11.setTop (mkF m 96 #[.val (.ref a0), .val (.int p1), .val (.long q2), .second] [(.ref nr)])) _
      refine XS.iloadN X11.here hx rfl (hb hby d7_96) rfl ?_
      show Steps p.tables e below (T11.setTop (mkF m 97 #[.val (.ref a0), .val (.int p1), .val (.long q2), .second] [(.int p1), (.ref nr)])) _
      refine XS.lloadN X11.here hx rfl (hb hby d7_97) rfl ?_
      show Steps p.tables e below (T11.setTop (mkF m 98 #[.val (.ref a0), .val (.int p1), .val (.long q2), .second] [(.long q2), (.int p1), (.ref nr)])) _
      refine XS.aloadN X11.here hx rfl (hb hby d7_98) rfl rfl ?_
      show Steps p.tables e below (T11.setTop (mkF m 99 #[.val (.ref a0), .val (.int p1), .val (.long q2), .second] [(.ref a0), (.long q2), (.int p1), (.ref nr)])) _
      refine st12 _ ?_
      show Steps p.tables e below (T12.setTop (mkF m 102 #[.val (.ref a0), .val (.int p1), .val (.long q2), .second] [(.long q2), (.long q2), (.int p1), (.ref nr)])) _
      refine XS.lsub X12.here hx rfl (hb hby d7_102) rfl ?_
      show Steps p.tables e below (T12.setTop (mkF m 103 #[.val (.ref a0), .val (.int p1), .val (.long q2), .second] [(.long (q2 - q2)), (.int p1), (.ref nr)])) _
      refine XS.l2i X12.here hx rfl (hb hby d7_103) rfl ?_
      show Steps p.tables e below (T12.setTop (mkF m 104 #[.val (.ref a0), .val (.int p1), .val (.long q2), .second] [(.int ((q2 - q2).toInt32)), (.int p1), (.ref nr)])) _
      refine XS.i2b X12.here hx rfl (hb hby d7_104) rfl ?_
      show Steps p.tables e below (T12.setTop (mkF m 105 #[.val (.ref a0), .val (.int p1), .val (.long q2), .second] [(.int (((q2 - q2).toInt32).toInt8.toInt32)), (.int p1), (.ref nr)])) _
      refine st13 _ ?_
      show Steps p.tables e below (T13.setTop (mkF m 106 #[.val (.ref a0), .val (.int p1), .val (.long q2), .second] [])) _
      refine XS.goto X13.here hx rfl (pc0 := 106) (pc' := 142) rfl (hb hby d7_106) (by decide) (by decide) ?_
      show Steps p.tables e below (T13.setTop (mkF m 142 #[.val (.ref a0), .val (.int p1), .val (.long q2), .second] [])) _
      refine XS.aloadN X13.here hx rfl (hb hby d7_142) rfl rfl ?_
      show Steps p.tables e below (T13.setTop (mkF m 143 #[.val (.ref a0), .val (.int p1), .val (.long q2), .second] [(.ref a0)])) _
      refine st14 _ ?_
      show Steps p.tables e below (T14.setTop (mkF m 146 #[.val (.ref a0), .val (.int p1), .val (.long q2), .second] [.null])) _
      refine XS.ifnullYes X14.here hx rfl (pc0 := 146) (pc' := 168) rfl (hb hby d7_146) rfl (by decide) (by decide) ?_
      show Steps p.tables e below (T14.setTop (mkF m 168 #[.val (.ref a0), .val (.int p1), .val (.long q2), .second] [])) _
      exact X14.returnOut hx Bd.returns (hb hby d7_168) hr
    · show Qwi Z a0 p1 none h0 n0 _ T14.heap _
      rw [e14]
      exact ⟨rfl, N13, Kh13.1, cap, g_a0, E_a0, _, _, _, _, _, _, _, g_nr, ne_nr_a0, F_width_a0, F_base_a0, F_based_a0, F_narrow_a0, F_middle_a0, F_wide_a0, F_nulls_a0, V_nr, rfl⟩
  · obtain ⟨cq15, q15, q15'⟩ := E_a0.cell
    obtain ⟨_, _, ⟨T15, L15, k15, n15⟩, -, X15, ⟨Lc15, hQ15, l15, y15, z15⟩, st15⟩ := X5.privateBack hx (y := (⟨"com/example/wadjet/wadjet/storage/IntegerChunk", "capacity", "()I"⟩ : MethodName)) hown (mvT hZ (hw _ (List.mem_of_getElem? (i := 49) rfl))) (mvT hZ (hw _ (List.mem_of_getElem? (i := 50) rfl))) (own_selP hZ (hw _ (List.mem_of_getElem? (i := 1) rfl)) (hw _ (List.mem_of_getElem? (i := 51) rfl)) (hw _ (List.mem_of_getElem? (i := 50) rfl)) (by decide)) (Cond.privateMethod_at (mvP hZ (hw _ (List.mem_of_getElem? (i := 51) rfl)) (args := #[]))) (mvT hZ (hw _ (List.mem_of_getElem? (i := 52) rfl))) (by decide) (backOf (W := 1) (rm9 l Z A0 hw [] a0 nr kn cap vs (.int (0 : Int32)) h4 n0 Zh4 F_width_a0 F_narrow_a0 V_nr) hZ (hw _ (List.mem_of_getElem? (i := 52) rfl)) (hw _ (List.mem_of_getElem? (i := 2) rfl)) (by decide) (by decide)) (g := (mkF m 32 #[.val (.ref a0), .val (.int p1), .val (.long q2), .second] [(.ref a0), (.ref a0)])) rfl (by rw [hml]; rfl) (Steps.refl _) (a := a0) (by rw [eh5]; exact q15) q15' (argsL := []) (rest := [(.ref a0)]) (lenOf pd_5 rfl) rfl (by show 2 * 0 + _ ≤ _; exact Nat.le_of_eq rfl) (hb hby d7_32) (fun _ _ => ⟨rfl, eh5, (by decide : 0 + 0 ≤ _), (by decide : 0 + 0 ≤ _)⟩)
    dsimp only [Pt.U, Pt.locs, Pt.cells, Pt.slots] at X15 l15 y15 z15 st15 hQ15
    subst y15 z15
    obtain ⟨rfl, N15q, eh15⟩ := hQ15
    have N15 : Fr n0 L15 := by rw [l15]; exact Fr.app N5 N15q
    clear l15
    have hgr := own_growb hp hcap hc27
    have hslot : 0 < p1.toInt ∧ p1.toInt < 256 := by omega
    obtain ⟨_, _, ⟨T16, L16, k16, n16⟩, -, X16, ⟨Lc16, hQ16, l16, y16, z16⟩, st16⟩ := own_callSU X15 hx (x := (⟨"com/example/wadjet/wadjet/storage/IntegerChunk", "grownCapacity", "(II)I"⟩ : MethodName)) (owner := "com/example/wadjet/wadjet/storage/ColumnChunk") hown (mvT hZ (hw _ (List.mem_of_getElem? (i := 59) rfl))) (mvT hZ (hw _ (List.mem_of_getElem? (i := 60) rfl))) (mvT hZ (hw _ (List.mem_of_getElem? (i := 61) rfl))) (mvT hZ (hw _ (List.mem_of_getElem? (i := 9) rfl))) (mvT hZ (hw _ (List.mem_of_getElem? (i := 62) rfl))) (by decide) (backOf (W := 1) (rm11 l Z A0 hw [] cap p1  h4 n0 Zh4 (hslot)) hZ (hw _ (List.mem_of_getElem? (i := 62) rfl)) (hw _ (List.mem_of_getElem? (i := 9) rfl)) (by decide) (by decide)) (g := (mkF m 36 #[.val (.ref a0), .val (.int p1), .val (.long q2), .second] [(.int p1), (.int cap), (.ref a0)])) rfl (by rw [hml]; rfl) (argsL := [(.int cap), (.int p1)]) (rest := [(.ref a0)]) (lenOf pd_1 rfl) rfl (by show 2 * 0 + _ ≤ _; exact Nat.le_of_eq rfl) (hb hby d7_36) (fun _ _ => ⟨rfl, eh15, (by decide : 0 + 0 ≤ _), (by decide : 0 + 0 ≤ _)⟩)
    dsimp only [Pt.U, Pt.locs, Pt.cells, Pt.slots] at X16 l16 y16 z16 st16 hQ16
    subst y16 z16
    obtain ⟨rfl, N16q, eh16⟩ := hQ16
    have N16 : Fr n0 L16 := by rw [l16]; exact Fr.app N15 N16q
    clear l16
    obtain ⟨gw, h_gw⟩ : ∃ z : Int32, z = (own_grow cap p1) := ⟨_, rfl⟩
    have hgb : cap.toInt = 4 ∧ p1.toInt < gw.toInt ∧ gw.toInt ≤ 256 := by rw [h_gw]; exact ⟨by rw [hgr.1]; decide, hgr.2.2⟩
    have hrne : ¬ (gw = cap) := by intro q; rw [q] at hgb; omega
    have hrle : 0 ≤ cap.toInt ∧ cap.toInt ≤ gw.toInt ∧ gw.toInt ≤ 256 := by omega
    have hgw : p1 < gw := by rw [Int32.lt_iff_toInt_lt]; omega
    obtain ⟨cq17, q17, q17'⟩ := E_a0.cell
    obtain ⟨_, _, ⟨T17, L17, k17, n17⟩, -, X17, ⟨Lc17, hQ17, l17, y17, z17⟩, st17⟩ := X16.privateBack hx (y := (⟨"com/example/wadjet/wadjet/storage/IntegerChunk", "resize", "(I)V"⟩ : MethodName)) hown (mvT hZ (hw _ (List.mem_of_getElem? (i := 78) rfl))) (mvT hZ (hw _ (List.mem_of_getElem? (i := 79) rfl))) (own_selP hZ (hw _ (List.mem_of_getElem? (i := 1) rfl)) (hw _ (List.mem_of_getElem? (i := 80) rfl)) (hw _ (List.mem_of_getElem? (i := 79) rfl)) (by decide)) (Cond.privateMethod_at (mvP hZ (hw _ (List.mem_of_getElem? (i := 80) rfl)) (args := #[]))) (mvT hZ (hw _ (List.mem_of_getElem? (i := 81) rfl))) (by decide) (backOf (W := 0) (rm16 l Z A0 hw [] a0 gw (.long q2) (.int (nar .boolean (1 : Int32))) mi wi .null nr kn cap vs h4 n0 Zh4 E_a0 F_width_a0 F_base_a0 F_based_a0 F_narrow_a0 F_middle_a0 F_wide_a0 F_nulls_a0 V_nr g_a0 ne_nr_a0 (hrne) (hrle)) hZ (hw _ (List.mem_of_getElem? (i := 81) rfl)) (hw _ (List.mem_of_getElem? (i := 2) rfl)) (by decide) (by decide)) (g := (mkF m 39 #[.val (.ref a0), .val (.int p1), .val (.long q2), .second] [(.int gw), (.ref a0)])) rfl (by rw [hml]; rfl) (Steps.refl _) (a := a0) (by rw [eh16]; exact q17) q17' (argsL := [(.int gw)]) (rest := []) (lenOf pd_6 rfl) rfl (by show 2 * 0 + _ ≤ _; exact Nat.le_of_eq rfl) (hb hby d7_39) (fun _ _ => ⟨rfl, eh16, (by decide : 0 + 1 ≤ _), (by decide : 0 + 256 ≤ _)⟩)
    dsimp only [Pt.U, Pt.locs, Pt.cells, Pt.slots] at X17 l17 y17 z17 st17 hQ17
    subst y17 z17
    obtain ⟨b17, kb17, rfl, N17q, gs_b17, Kc17, P17_0, P17_1, P17_2, P17_3, P17_4, P17_5, P17_6, P17_7, P17_8⟩ := hQ17
    have N17 : Fr n0 L17 := by rw [l17]; exact Fr.app N16 N17q
    clear l17
    have ne_a0_b17 : a0 ≠ b17 := Nat.ne_of_lt (Nat.lt_of_lt_of_le E_a0.lt gs_b17.2)
    have ne_nr_b17 : nr ≠ b17 := Nat.ne_of_lt (Nat.lt_of_lt_of_le V_nr.lt gs_b17.2)
    have sz_b17 : h0.size ≤ b17 := Nat.le_trans Kh4.1 gs_b17.2
    have E_a0 : Exa Z T17.heap a0 "com/example/wadjet/wadjet/storage/IntegerChunk" := E_a0.keep Kc17
    have V_nr : Arv Z T17.heap nr kn .byte cap vs (.int (0 : Int32)) := V_nr.keep Kc17 (ninS ne_nr_a0 nin0)
    have ZT17_heap : n0 ≤ T17.heap.size := Nat.le_trans Zh4 Kc17.1
    have KT17_heap : Keep h0 T17.heap [a0, nr] := Kh4.trans Kc17 (allS (Or.inl (by simp)) all0)
    have E_a0 : Exa Z T17.heap a0 "com/example/wadjet/wadjet/storage/IntegerChunk" := P17_0
    have F_width_a0 : Fld Z T17.heap a0 "com/example/wadjet/wadjet/storage/IntegerChunk" "width" "I" (.int (1 : Int32)) := P17_1
    have F_base_a0 : Fld Z T17.heap a0 "com/example/wadjet/wadjet/storage/IntegerChunk" "base" "J" (.long q2) := P17_2
    have F_based_a0 : Fld Z T17.heap a0 "com/example/wadjet/wadjet/storage/IntegerChunk" "based" "Z" (.int (nar .boolean (1 : Int32))) := P17_3
    have F_narrow_a0 : Fld Z T17.heap a0 "com/example/wadjet/wadjet/storage/IntegerChunk" "narrow" "[B" (.ref b17) := P17_4
    have F_middle_a0 : Fld Z T17.heap a0 "com/example/wadjet/wadjet/storage/IntegerChunk" "middle" "[C" mi := P17_5
    have F_wide_a0 : Fld Z T17.heap a0 "com/example/wadjet/wadjet/storage/IntegerChunk" "wide" "[I" wi := P17_6
    have F_nulls_a0 : Fld Z T17.heap a0 "com/example/wadjet/wadjet/storage/IntegerChunk" "nulls" "[J" .null := P17_7
    have V_b17 : Arv Z T17.heap b17 kb17 .byte gw (own_copy vs cap.toNatClampNeg gw.toNatClampNeg) (.int (0 : Int32)) := P17_8
    obtain ⟨T18, X18, e18, st18⟩ := getF X17 hx hZ hown (host := "") (Or.inl (hw _ (List.mem_of_getElem? (i := 14) rfl))) Via.refl rfl F_width_a0 (g := (mkF m 43 #[.val (.ref a0), .val (.int p1), .val (.long q2), .second] [(.ref a0)])) rfl rfl (hb hby d7_43)
    obtain ⟨T19, X19, e19, st19⟩ := getF X18 hx hZ hown (host := "") (Or.inl (hw _ (List.mem_of_getElem? (i := 47) rfl))) Via.refl e18 F_base_a0 (g := (mkF m 52 #[.val (.ref a0), .val (.int p1), .val (.long q2), .second] [(.ref a0), (.long q2)])) rfl rfl (hb hby d7_52)
    obtain ⟨T20, X20, e20, st20⟩ := getF X19 hx hZ hown (host := "") (Or.inl (hw _ (List.mem_of_getElem? (i := 47) rfl))) Via.refl e19 F_base_a0 (g := (mkF m 61 #[.val (.ref a0), .val (.int p1), .val (.long q2), .second] [(.ref a0), (.long q2)])) rfl rfl (hb hby d7_61)
    obtain ⟨T21, X21, e21, st21⟩ := getF X20 hx hZ hown (host := "") (Or.inl (hw _ (List.mem_of_getElem? (i := 14) rfl))) Via.refl e20 F_width_a0 (g := (mkF m 69 #[.val (.ref a0), .val (.int p1), .val (.long q2), .second] [(.ref a0), (.int (8 : Int32)), (.long (1 : Int64)), (.long (q2 - q2))])) rfl rfl (hb hby d7_69)
    obtain ⟨T22, X22, e22, st22⟩ := getF X21 hx hZ hown (host := "") (Or.inl (hw _ (List.mem_of_getElem? (i := 14) rfl))) Via.refl e21 F_width_a0 (g := (mkF m 85 #[.val (.ref a0), .val (.int p1), .val (.long q2), .second] [(.ref a0)])) rfl rfl (hb hby d7_85)
    obtain ⟨T23, X23, e23, st23⟩ := getF X22 hx hZ hown (host := "") (Or.inl (hw _ (List.mem_of_getElem? (i := 17) rfl))) Via.refl e22 F_narrow_a0 (g := (mkF m 93 #[.val (.ref a0), .val (.int p1), .val (.long q2), .second] [(.ref a0)])) rfl rfl (hb hby d7_93)
    obtain ⟨T24, X24, e24, st24⟩ := getF X23 hx hZ hown (host := "") (Or.inl (hw _ (List.mem_of_getElem? (i := 47) rfl))) Via.refl e23 F_base_a0 (g := (mkF m 99 #[.val (.ref a0), .val (.int p1), .val (.long q2), .second] [(.ref a0), (.long q2), (.int p1), (.ref b17)])) rfl rfl (hb hby d7_99)
    have V_b17 : Arv Z T17.heap b17 kb17 .byte gw ((own_copy vs cap.toNatClampNeg gw.toNatClampNeg) ++ List.replicate 256 (Value.int (0 : Int32))) (.int (0 : Int32)) := V_b17.pad (pad_rep (own_copy vs cap.toNatClampNeg gw.toNatClampNeg) (Value.int (0 : Int32)) 256)
    obtain ⟨cl25, Ar25, qq25, SS25, MM25, HH25, GG25⟩ := id V_b17
    have hin25 := inb_of SS25 ⟨own_nneg hp.1, hgw⟩
    obtain ⟨T25, h25, X25, e25, W25, st25⟩ := stB X24 hx hZ e24 Ar25 (j := p1) hin25 (g := (mkF m 105 #[.val (.ref a0), .val (.int p1), .val (.long q2), .second] [(.int (((q2 - q2).toInt32).toInt8.toInt32)), (.int p1), (.ref b17)])) rfl rfl (hb hby d7_105)
    have V_b17 : Arv Z h25 b17 kb17 .byte gw (((own_copy vs cap.toNatClampNeg gw.toNatClampNeg) ++ List.replicate 256 (Value.int (0 : Int32))).set p1.toNatClampNeg (.int (nar .byte (((q2 - q2).toInt32).toInt8.toInt32)))) (.int (0 : Int32)) := Arv.set Ar25 qq25 SS25 MM25 HH25 GG25 (fits_nar_byte _) W25 p1.toNatClampNeg rfl (by rw [List.length_append, List.length_replicate, own_tn]; omega)
    have E_a0 : Exa Z h25 a0 "com/example/wadjet/wadjet/storage/IntegerChunk" := E_a0.wr W25
    have V_nr : Arv Z h25 nr kn .byte cap vs (.int (0 : Int32)) := V_nr.other W25 ne_nr_b17
    have F_width_a0 : Fld Z h25 a0 "com/example/wadjet/wadjet/storage/IntegerChunk" "width" "I" (.int (1 : Int32)) := F_width_a0.other W25 (Or.inl ne_a0_b17)
    have F_base_a0 : Fld Z h25 a0 "com/example/wadjet/wadjet/storage/IntegerChunk" "base" "J" (.long q2) := F_base_a0.other W25 (Or.inl ne_a0_b17)
    have F_based_a0 : Fld Z h25 a0 "com/example/wadjet/wadjet/storage/IntegerChunk" "based" "Z" (.int (nar .boolean (1 : Int32))) := F_based_a0.other W25 (Or.inl ne_a0_b17)
    have F_narrow_a0 : Fld Z h25 a0 "com/example/wadjet/wadjet/storage/IntegerChunk" "narrow" "[B" (.ref b17) := F_narrow_a0.other W25 (Or.inl ne_a0_b17)
    have F_middle_a0 : Fld Z h25 a0 "com/example/wadjet/wadjet/storage/IntegerChunk" "middle" "[C" mi := F_middle_a0.other W25 (Or.inl ne_a0_b17)
    have F_wide_a0 : Fld Z h25 a0 "com/example/wadjet/wadjet/storage/IntegerChunk" "wide" "[I" wi := F_wide_a0.other W25 (Or.inl ne_a0_b17)
    have F_nulls_a0 : Fld Z h25 a0 "com/example/wadjet/wadjet/storage/IntegerChunk" "nulls" "[J" .null := F_nulls_a0.other W25 (Or.inl ne_a0_b17)
    have Zh25 : n0 ≤ h25.size := Nat.le_trans ZT17_heap (Keep.of_wr W25).1
    have Kh25 : Keep h0 h25 [a0, nr] := KT17_heap.wr W25 (Or.inr sz_b17)
    have N25 := Fr.snoc X25 N17 gs_b17.1
    obtain ⟨T26, X26, e26, st26⟩ := getF X25 hx hZ hown (host := "") (Or.inl (hw _ (List.mem_of_getElem? (i := 24) rfl))) Via.refl e25 F_nulls_a0 (g := (mkF m 143 #[.val (.ref a0), .val (.int p1), .val (.long q2), .second] [(.ref a0)])) rfl rfl (hb hby d7_143)
    obtain ⟨fs, hr, hrun, hended, hW, hsame⟩ := X26.leave (v := none) (fun _ => rfl)
    refine ⟨_, _, pre0 _ ?_, hrun, hended, _, _, rfl, ?_, ⟨_, rfl⟩, hW, hsame.mono (by decide) (by decide)⟩
    · show Steps p.tables e below (s₁.setTop (mkF m 0 #[.val (.ref a0), .val (.int p1), .val (.long q2), .second] [])) _
      refine XS.lloadN X0.here hx rfl (hb hby d7_0) rfl ?_
      show Steps p.tables e below (s₁.setTop (mkF m 1 #[.val (.ref a0), .val (.int p1), .val (.long q2), .second] [(.long q2)])) _
      refine st1 _ ?_
      show Steps p.tables e below (T1.setTop (mkF m 4 #[.val (.ref a0), .val (.int p1), .val (.long q2), .second] [(.int (q2.toInt32))])) _
      refine XS.pop X1.here hx rfl (hb hby d7_4) rfl rfl ?_
      show Steps p.tables e below (T1.setTop (mkF m 5 #[.val (.ref a0), .val (.int p1), .val (.long q2), .second] [])) _
      refine XS.aloadN X1.here hx rfl (hb hby d7_5) rfl rfl ?_
      show Steps p.tables e below (T1.setTop (mkF m 6 #[.val (.ref a0), .val (.int p1), .val (.long q2), .second] [(.ref a0)])) _
      refine st2 _ ?_
      show Steps p.tables e below (T2.setTop (mkF m 9 #[.val (.ref a0), .val (.int p1), .val (.long q2), .second] [(.int (0 : Int32))])) _
      refine XS.ifNo X2.here hx rfl (hb hby d7_9) rfl ((if0 _ _).trans (teq (by decide : (0 : Int32) = (0 : Int32))).2) ?_
      show Steps p.tables e below (T2.setTop (mkF m 12 #[.val (.ref a0), .val (.int p1), .val (.long q2), .second] [])) _
      refine XS.aloadN X2.here hx rfl (hb hby d7_12) rfl rfl ?_
      show Steps p.tables e below (T2.setTop (mkF m 13 #[.val (.ref a0), .val (.int p1), .val (.long q2), .second] [(.ref a0)])) _
      refine XS.lloadN X2.here hx rfl (hb hby d7_13) rfl ?_
      show Steps p.tables e below (T2.setTop (mkF m 14 #[.val (.ref a0), .val (.int p1), .val (.long q2), .second] [(.long q2), (.ref a0)])) _
      refine st3 _ ?_
      show Steps p.tables e below (T3.setTop (mkF m 17 #[.val (.ref a0), .val (.int p1), .val (.long q2), .second] [])) _
      refine XS.aloadN X3.here hx rfl (hb hby d7_17) rfl rfl ?_
      show Steps p.tables e below (T3.setTop (mkF m 18 #[.val (.ref a0), .val (.int p1), .val (.long q2), .second] [(.ref a0)])) _
      refine XS.iconst X3.here hx rfl (hb hby d7_18) ?_
      show Steps p.tables e below (T3.setTop (mkF m 19 #[.val (.ref a0), .val (.int p1), .val (.long q2), .second] [(.int (1 : Int32)), (.ref a0)])) _
      refine st4 _ ?_
      show Steps p.tables e below (T4.setTop (mkF m 22 #[.val (.ref a0), .val (.int p1), .val (.long q2), .second] [])) _
      refine XS.iloadN X4.here hx rfl (hb hby d7_22) rfl ?_
      show Steps p.tables e below (T4.setTop (mkF m 23 #[.val (.ref a0), .val (.int p1), .val (.long q2), .second] [(.int p1)])) _
      refine XS.aloadN X4.here hx rfl (hb hby d7_23) rfl rfl ?_
      show Steps p.tables e below (T4.setTop (mkF m 24 #[.val (.ref a0), .val (.int p1), .val (.long q2), .second] [(.ref a0), (.int p1)])) _
      refine st5.trans ?_
      show Steps p.tables e below (T5.setTop (mkF m 27 #[.val (.ref a0), .val (.int p1), .val (.long q2), .second] [(.int cap), (.int p1)])) _
      refine XS.icmpNo X5.here hx rfl (hb hby d7_27) rfl (flt hc27).1 ?_
      show Steps p.tables e below (T5.setTop (mkF m 30 #[.val (.ref a0), .val (.int p1), .val (.long q2), .second] [])) _
      refine XS.aloadN X5.here hx rfl (hb hby d7_30) rfl rfl ?_
      show Steps p.tables e below (T5.setTop (mkF m 31 #[.val (.ref a0), .val (.int p1), .val (.long q2), .second] [(.ref a0)])) _
      refine XS.aloadN X5.here hx rfl (hb hby d7_31) rfl rfl ?_
      show Steps p.tables e below (T5.setTop (mkF m 32 #[.val (.ref a0), .val (.int p1), .val (.long q2), .second] [(.ref a0), (.ref a0)])) _
      refine st15.trans ?_
      show Steps p.tables e below (T15.setTop (mkF m 35 #[.val (.ref a0), .val (.int p1), .val (.long q2), .second] [(.int cap), (.ref a0)])) _
      refine XS.iloadN X15.here hx rfl (hb hby d7_35) rfl ?_
      show Steps p.tables e below (T15.setTop (mkF m 36 #[.val (.ref a0), .val (.int p1), .val (.long q2), .second] [(.int p1), (.int cap), (.ref a0)])) _
      refine st16 _ ?_
      show Steps p.tables e below (T16.setTop (mkF m 39 #[.val (.ref a0), .val (.int p1), .val (.long q2), .second] [(.int (own_grow cap p1)), (.ref a0)])) _
      rw [← h_gw]
      show Steps p.tables e below (T16.setTop (mkF m 39 #[.val (.ref a0), .val (.int p1), .val (.long q2), .second] [(.int gw), (.ref a0)])) _
      refine st17.trans ?_
      show Steps p.tables e below (T17.setTop (mkF m 42 #[.val (.ref a0), .val (.int p1), .val (.long q2), .second] [])) _
      refine XS.aloadN X17.here hx rfl (hb hby d7_42) rfl rfl ?_
      show Steps p.tables e below (T17.setTop (mkF m 43 #[.val (.ref a0), .val (.int p1), .val (.long q2), .second] [(.ref a0)])) _
      refine st18 _ ?_
      show Steps p.tables e below (T18.setTop (mkF m 46 #[.val (.ref a0), .val (.int p1), .val (.long q2), .second] [(.int (1 : Int32))])) _
      refine XS.iconst X18.here hx rfl (hb hby d7_46) ?_
      show Steps p.tables e below (T18.setTop (mkF m 47 #[.val (.ref a0), .val (.int p1), .val (.long q2), .second] [(.int (4 : Int32)), (.int (1 : Int32))])) _
      refine XS.icmpNo X18.here hx rfl (hb hby d7_47) rfl (tlt (by decide : (1 : Int32) < (4 : Int32))).2.1 ?_
      show Steps p.tables e below (T18.setTop (mkF m 50 #[.val (.ref a0), .val (.int p1), .val (.long q2), .second] [])) _
      refine XS.lloadN X18.here hx rfl (hb hby d7_50) rfl ?_
      show Steps p.tables e below (T18.setTop (mkF m 51 #[.val (.ref a0), .val (.int p1), .val (.long q2), .second] [(.long q2)])) _
      refine XS.aloadN X18.here hx rfl (hb hby d7_51) rfl rfl ?_
      show Steps p.tables e below (T18.setTop (mkF m 52 #[.val (.ref a0), .val (.int p1), .val (.long q2), .second] [(.ref a0), (.long q2)])) _
      refine st19 _ ?_
      show Steps p.tables e below (T19.setTop (mkF m 55 #[.val (.ref a0), .val (.int p1), .val (.long q2), .second] [(.long q2), (.long q2)])) _
      refine XS.lcmp X19.here hx rfl (hb hby d7_55) rfl ?_
      show Steps p.tables e below (T19.setTop (mkF m 56 #[.val (.ref a0), .val (.int p1), .val (.long q2), .second] [(.int (lcmpW q2 q2))])) _
      refine XS.ifNo X19.here hx rfl (hb hby d7_56) rfl ((if0 _ _).trans (flt (mt (lw_lt _ _).mp (Int64.lt_irrefl : ¬ (q2 < q2)))).1) ?_
      show Steps p.tables e below (T19.setTop (mkF m 59 #[.val (.ref a0), .val (.int p1), .val (.long q2), .second] [])) _
      refine XS.lloadN X19.here hx rfl (hb hby d7_59) rfl ?_
      show Steps p.tables e below (T19.setTop (mkF m 60 #[.val (.ref a0), .val (.int p1), .val (.long q2), .second] [(.long q2)])) _
      refine XS.aloadN X19.here hx rfl (hb hby d7_60) rfl rfl ?_
      show Steps p.tables e below (T19.setTop (mkF m 61 #[.val (.ref a0), .val (.int p1), .val (.long q2), .second] [(.ref a0), (.long q2)])) _
      refine st20 _ ?_
      show Steps p.tables e below (T20.setTop (mkF m 64 #[.val (.ref a0), .val (.int p1), .val (.long q2), .second] [(.long q2), (.long q2)])) _
      refine XS.lsub X20.here hx rfl (hb hby d7_64) rfl ?_
      show Steps p.tables e below (T20.setTop (mkF m 65 #[.val (.ref a0), .val (.int p1), .val (.long q2), .second] [(.long (q2 - q2))])) _
      refine XS.lconst X20.here hx rfl (hb hby d7_65) ?_
      show Steps p.tables e below (T20.setTop (mkF m 66 #[.val (.ref a0), .val (.int p1), .val (.long q2), .second] [(.long (1 : Int64)), (.long (q2 - q2))])) _
      refine XS.bipush X20.here hx rfl (hb hby d7_66) ?_
      show Steps p.tables e below (T20.setTop (mkF m 68 #[.val (.ref a0), .val (.int p1), .val (.long q2), .second] [(.int (8 : Int32)), (.long (1 : Int64)), (.long (q2 - q2))])) _
      refine XS.aloadN X20.here hx rfl (hb hby d7_68) rfl rfl ?_
      show Steps p.tables e below (T20.setTop (mkF m 69 #[.val (.ref a0), .val (.int p1), .val (.long q2), .second] [(.ref a0), (.int (8 : Int32)), (.long (1 : Int64)), (.long (q2 - q2))])) _
      refine st21 _ ?_
      show Steps p.tables e below (T21.setTop (mkF m 72 #[.val (.ref a0), .val (.int p1), .val (.long q2), .second] [(.int (1 : Int32)), (.int (8 : Int32)), (.long (1 : Int64)), (.long (q2 - q2))])) _
      refine XS.imul X21.here hx rfl (hb hby d7_72) rfl ?_
      show Steps p.tables e below (T21.setTop (mkF m 73 #[.val (.ref a0), .val (.int p1), .val (.long q2), .second] [(.int ((8 : Int32) * (1 : Int32))), (.long (1 : Int64)), (.long (q2 - q2))])) _
      refine XS.lshl X21.here hx rfl (hb hby d7_73) rfl ?_
      show Steps p.tables e below (T21.setTop (mkF m 74 #[.val (.ref a0), .val (.int p1), .val (.long q2), .second] [(.long ((1 : Int64) <<< (((8 : Int32) * (1 : Int32)) &&& 0x3f).toInt64)), (.long (q2 - q2))])) _
      refine XS.lcmp X21.here hx rfl (hb hby d7_74) rfl ?_
      show Steps p.tables e below (T21.setTop (mkF m 75 #[.val (.ref a0), .val (.int p1), .val (.long q2), .second] [(.int (lcmpW (q2 - q2) ((1 : Int64) <<< (((8 : Int32) * (1 : Int32)) &&& 0x3f).toInt64)))])) _
      refine XS.ifYes X21.here hx rfl (pc0 := 75) (pc' := 84) rfl (hb hby d7_75) rfl ((if0 _ _).trans (tlt ((lw_lt _ _).mpr (own_lt8 q2 : (q2 - q2) < ((1 : Int64) <<< (((8 : Int32) * (1 : Int32)) &&& 0x3f).toInt64)))).1) (by decide) (by decide) ?_
      show Steps p.tables e below (T21.setTop (mkF m 84 #[.val (.ref a0), .val (.int p1), .val (.long q2), .second] [])) _
      refine XS.aloadN X21.here hx rfl (hb hby d7_84) rfl rfl ?_
      show Steps p.tables e below (T21.setTop (mkF m 85 #[.val (.ref a0), .val (.int p1), .val (.long q2), .second] [(.ref a0)])) _
      refine st22 _ ?_
      show Steps p.tables e below (T22.setTop (mkF m 88 #[.val (.ref a0), .val (.int p1), .val (.long q2), .second] [(.int (1 : Int32))])) _
      refine XS.iconst X22.here hx rfl (hb hby d7_88) ?_
      show Steps p.tables e below (T22.setTop (mkF m 89 #[.val (.ref a0), .val (.int p1), .val (.long q2), .second] [(.int (1 : Int32)), (.int (1 : Int32))])) _
      refine XS.icmpNo X22.here hx rfl (hb hby d7_89) rfl (teq (by decide : (1 : Int32) = (1 : Int32))).2 ?_
      show Steps p.tables e below (T22.setTop (mkF m 92 #[.val (.ref a0), .val (.int p1), .val (.long q2), .second] [])) _
      refine XS.aloadN X22.here hx rfl (hb hby d7_92) rfl rfl ?_
      show Steps p.tables e below (T22.setTop (mkF m 93 #[.val (.ref a0), .val (.int p1), .val (.long q2), .second] [(.ref a0)])) _
      refine st23 _ ?_
      show Steps p.tables e below (T23.setTop (mkF m 96 #[.val (.ref a0), .val (.int p1), .val (.long q2), .second] [(.ref b17)])) _
      refine XS.iloadN X23.here hx rfl (hb hby d7_96) rfl ?_
      show Steps p.tables e below (T23.setTop (mkF m 97 #[.val (.ref a0), .val (.int p1), .val (.long q2), .second] [(.int p1), (.ref b17)])) _
      refine XS.lloadN X23.here hx rfl (hb hby d7_97) rfl ?_
      show Steps p.tables e below (T23.setTop (mkF m 98 #[.val (.ref a0), .val (.int p1), .val (.long q2), .second] [(.long q2), (.int p1), (.ref b17)])) _
      refine XS.aloadN X23.here hx rfl (hb hby d7_98) rfl rfl ?_
      show Steps p.tables e below (T23.setTop (mkF m 99 #[.val (.ref a0), .val (.int p1), .val (.long q2), .second] [(.ref a0), (.long q2), (.int p1), (.ref b17)])) _
      refine st24 _ ?_
      show Steps p.tables e below (T24.setTop (mkF m 102 #[.val (.ref a0), .val (.int p1), .val (.long q2), .second] [(.long q2), (.long q2), (.int p1), (.ref b17)])) _
      refine XS.lsub X24.here hx rfl (hb hby d7_102) rfl ?_
      show Steps p.tables e below (T24.setTop (mkF m 103 #[.val (.ref a0), .val (.int p1), .val (.long q2), .second] [(.long (q2 - q2)), (.int p1), (.ref b17)])) _
      refine XS.l2i X24.here hx rfl (hb hby d7_103) rfl ?_
      show Steps p.tables e below (T24.setTop (mkF m 104 #[.val (.ref a0), .val (.int p1), .val (.long q2), .second] [(.int ((q2 - q2).toInt32)), (.int p1), (.ref b17)])) _
      refine XS.i2b X24.here hx rfl (hb hby d7_104) rfl ?_
      show Steps p.tables e below (T24.setTop (mkF m 105 #[.val (.ref a0), .val (.int p1), .val (.long q2), .second] [(.int (((q2 - q2).toInt32).toInt8.toInt32)), (.int p1), (.ref b17)])) _
      refine st25 _ ?_
      show Steps p.tables e below (T25.setTop (mkF m 106 #[.val (.ref a0), .val (.int p1), .val (.long q2), .second] [])) _
      refine XS.goto X25.here hx rfl (pc0 := 106) (pc' := 142) rfl (hb hby d7_106) (by decide) (by decide) ?_
      show Steps p.tables e below (T25.setTop (mkF m 142 #[.val (.ref a0), .val (.int p1), .val (.long q2), .second] [])) _
      refine XS.aloadN X25.here hx rfl (hb hby d7_142) rfl rfl ?_
      show Steps p.tables e below (T25.setTop (mkF m 143 #[.val (.ref a0), .val (.int p1), .val (.long q2), .second] [(.ref a0)])) _
      refine st26 _ ?_
      show Steps p.tables e below (T26.setTop (mkF m 146 #[.val (.ref a0), .val (.int p1), .val (.long q2), .second] [.null])) _
      refine XS.ifnullYes X26.here hx rfl (pc0 := 146) (pc' := 168) rfl (hb hby d7_146) rfl (by decide) (by decide) ?_
      show Steps p.tables e below (T26.setTop (mkF m 168 #[.val (.ref a0), .val (.int p1), .val (.long q2), .second] [])) _
      exact X26.returnOut hx Bd.returns (hb hby d7_168) hr
    · show Qwi Z a0 p1 none h0 n0 _ T26.heap _
      rw [e26]
      exact ⟨rfl, N25, Kh25.1, gw, g_a0, E_a0, _, _, _, _, _, _, _, gs_b17.1, (Ne.symm ne_a0_b17), F_width_a0, F_base_a0, F_based_a0, F_narrow_a0, F_middle_a0, F_wide_a0, F_nulls_a0, V_b17, rfl⟩
theorem d7_149 : decode prog_257_method_8_code 149 = .ok (.aload_n 0, 1) := by decide +kernel
theorem d7_150 : decode prog_257_method_8_code 150 = .ok (.getfield 31, 3) := by decide +kernel
theorem d7_153 : decode prog_257_method_8_code 153 = .ok (.iload_n 1, 1) := by decide +kernel
theorem d7_154 : decode prog_257_method_8_code 154 = .ok (.bipush 6, 2) := by decide +kernel
theorem d7_156 : decode prog_257_method_8_code 156 = .ok (.iushr, 1) := by decide +kernel
theorem d7_157 : decode prog_257_method_8_code 157 = .ok (.dup2, 1) := by decide +kernel
theorem d7_158 : decode prog_257_method_8_code 158 = .ok (.laload, 1) := by decide +kernel
theorem d7_159 : decode prog_257_method_8_code 159 = .ok (.lconst 1, 1) := by decide +kernel
theorem d7_160 : decode prog_257_method_8_code 160 = .ok (.iload_n 1, 1) := by decide +kernel
theorem d7_161 : decode prog_257_method_8_code 161 = .ok (.lshl, 1) := by decide +kernel
theorem d7_162 : decode prog_257_method_8_code 162 = .ok (.ldc2_w 84, 3) := by decide +kernel
theorem d7_165 : decode prog_257_method_8_code 165 = .ok (.lxor, 1) := by decide +kernel
theorem d7_166 : decode prog_257_method_8_code 166 = .ok (.land, 1) := by decide +kernel
theorem d7_167 : decode prog_257_method_8_code 167 = .ok (.lastore, 1) := by decide +kernel
theorem ef_rm7_s (m : MethodId) (a0 : Addr) (p1 : Int32) (q2 : Int64) : entryFrame m #[(.ref a0), (.int p1), (.long q2)] 4 = mkF m 0 #[.val (.ref a0), .val (.int p1), .val (.long q2), .second] [] := by first | (simp [entryFrame, mkF, argsToLocals, Value.category]; done) | rfl
set_option maxRecDepth 65536 in
set_option maxHeartbeats 40000000 in
theorem rm7_s (l : Launch) (Z : State) (A0 : Array Value) (hw : ∀ d ∈ tables_1, d.before A0 Z = true) (ws : List Jvm.Cond) (a0 : Addr) (p1 : Int32) (q2 : Int64) (cap : Int32) (xs : List Int64) (h0 : Heap) (n0 : Nat) (Z0 : n0 ≤ h0.size) (hp : 0 ≤ p1.toInt ∧ p1.toInt < 256) (hv : (q2.toInt32.toInt64) = q2) (hcap : cap.toInt = 4 ∨ cap.toInt = 256) (HK : own_K Z h0 n0 a0 cap (0 : Int32) (some xs)) :
    MetFree l (⟨"com/example/wadjet/wadjet/storage/IntegerChunk", "writeInteger", "(IJ)V"⟩ : MethodName) (head1 (Jvm.Cond.code (⟨"com/example/wadjet/wadjet/storage/IntegerChunk", "writeInteger", "(IJ)V"⟩ : MethodName) prog_257_method_8_code 4 none :: ws) ({ frames := 3, cells := 1, slots := 256, locals := 46 } : Room)) (fun a U => a = #[(.ref a0), (.int p1), (.long q2)] ∧ Z.Warmed39 U.vm ∧ U.heap = h0) (fun _ _ _ _ _ => True) (fun _ U o U' => ∃ v L, o = .returned v ∧ Qwi Z a0 p1 (some xs) h0 n0 v U'.heap L ∧ FrameEnd U o U' L ({ frames := 3, cells := 1, slots := 256, locals := 46 } : Room).cells ({ frames := 3, cells := 1, slots := 256, locals := 46 } : Room).slots) := by
  refine MetFree.of_bodySF (plainFor_of_name pn_7) hisR ?_
  intro p e s m args below meth c s₁ Bd hml0 hP hK
  obtain ⟨rfl, hZ, hh⟩ := hP
  obtain ⟨g_a0, E_a0, ub, nr, kn, vs, mi, wi, nu, g_nr, ne_nr_a0, F_width_a0, F_base_a0, F_based_a0, F_narrow_a0, F_middle_a0, F_wide_a0, F_nulls_a0, V_nr, HN⟩ := HK
  obtain ⟨nl, kl, rfl, g_nl, ne_nl_a0, ne_nr_nl, hx4, V_nl⟩ := HN
  have hx := Bd.exec
  have hby := Bd.bytes
  have hml : c.maxLocals = 4 := hml0
  have hown : s.vm.findClass "com/example/wadjet/wadjet/storage/IntegerChunk" = some m.cls := findClass_of_methodNamed Bd.named
  have hnm := (name_of_methodNamed Bd.named Bd.method).1
  have X0 : Stand p l e ({ frames := 3, cells := 1, slots := 256, locals := 46 } : Room) s m #[(.ref a0), (.int p1), (.long q2)] below meth c s₁ [] 0 0 := Stand.of_body Bd
  have e0 : s₁.heap = h0 := by rw [← hh, Bd.state]; rfl
  have N0 := Fr.nil n0
  have K0 : Keep h0 h0 [a0, nr, nl] := Keep.refl _ _
  have pre0 : ∀ t, Steps p.tables e below (s₁.setTop (mkF m 0 #[.val (.ref a0), .val (.int p1), .val (.long q2), .second] [])) t → Steps p.tables e below (s₁.setTop (entryFrame m #[(.ref a0), (.int p1), (.long q2)] 4)) t := fun t k => castTop (ef_rm7_s m a0 p1 q2) k
  obtain ⟨_, _, ⟨T1, L1, k1, n1⟩, -, X1, ⟨Lc1, hQ1, l1, y1, z1⟩, st1⟩ := Jvm.LawKit.callS X0 hx (y := (⟨"java/lang/Math", "toIntExact", "(J)I"⟩ : MethodName)) hown (mvT hZ (hw _ (List.mem_of_getElem? (i := 41) rfl))) (mvT hZ (hw _ (List.mem_of_getElem? (i := 42) rfl))) (mvT hZ (hw _ (List.mem_of_getElem? (i := 43) rfl))) (mvT hZ (hw _ (List.mem_of_getElem? (i := 44) rfl))) (by decide) (backOf (W := 0) (rm8 l Z A0 hw [] q2  h0 n0 Z0 (hv)) hZ (hw _ (List.mem_of_getElem? (i := 44) rfl)) (hw _ (List.mem_of_getElem? (i := 43) rfl)) (by decide) (by decide)) (g := (mkF m 1 #[.val (.ref a0), .val (.int p1), .val (.long q2), .second] [(.long q2)])) rfl (by rw [hml]; rfl) (argsL := [(.long q2)]) (rest := []) (lenOf pd_4 rfl) rfl (by show 2 * 0 + _ ≤ _; exact Nat.le_of_eq rfl) (hb hby d7_1) (fun _ _ => ⟨rfl, e0, (by decide : 0 + 0 ≤ _), (by decide : 0 + 0 ≤ _)⟩)
  dsimp only [Pt.U, Pt.locs, Pt.cells, Pt.slots] at X1 l1 y1 z1 st1 hQ1
  subst y1 z1
  obtain ⟨rfl, N1q, eh1⟩ := hQ1
  have N1 : Fr n0 L1 := by rw [l1]; exact Fr.app N0 N1q
  clear l1
  obtain ⟨T2, X2, e2, st2⟩ := getF X1 hx hZ hown (host := "") (Or.inl (hw _ (List.mem_of_getElem? (i := 45) rfl))) Via.refl eh1 F_based_a0 (g := (mkF m 6 #[.val (.ref a0), .val (.int p1), .val (.long q2), .second] [(.ref a0)])) rfl rfl (hb hby d7_6)
  obtain ⟨T3, h3, X3, e3, W3, st3⟩ := putF X2 hx hZ hown (host := "") (Or.inl (hw _ (List.mem_of_getElem? (i := 47) rfl))) Via.refl e2 F_base_a0 E_a0 (Or.inl (hw _ (List.mem_of_getElem? (i := 48) rfl))) (hw _ (List.mem_of_getElem? (i := 1) rfl)) (ty := .long) (by decide) rfl rfl (g := (mkF m 14 #[.val (.ref a0), .val (.int p1), .val (.long q2), .second] [(.long q2), (.ref a0)])) rfl rfl (hb hby d7_14)
  have F_base_a0 : Fld Z h3 a0 "com/example/wadjet/wadjet/storage/IntegerChunk" "base" "J" (.long q2) := F_base_a0.same W3
  have E_a0 : Exa Z h3 a0 "com/example/wadjet/wadjet/storage/IntegerChunk" := E_a0.wr W3
  have F_width_a0 : Fld Z h3 a0 "com/example/wadjet/wadjet/storage/IntegerChunk" "width" "I" (.int (1 : Int32)) := F_width_a0.other W3 (Or.inr (slot_ne (Or.inl (hw _ (List.mem_of_getElem? (i := 15) rfl))) (Or.inl (hw _ (List.mem_of_getElem? (i := 48) rfl))) (by decide) (t := .int) (t' := .long) (by decide) (by decide)))
  have F_based_a0 : Fld Z h3 a0 "com/example/wadjet/wadjet/storage/IntegerChunk" "based" "Z" (.int (0 : Int32)) := F_based_a0.other W3 (Or.inr (slot_ne (Or.inl (hw _ (List.mem_of_getElem? (i := 46) rfl))) (Or.inl (hw _ (List.mem_of_getElem? (i := 48) rfl))) (by decide) (t := .boolean) (t' := .long) (by decide) (by decide)))
  have F_narrow_a0 : Fld Z h3 a0 "com/example/wadjet/wadjet/storage/IntegerChunk" "narrow" "[B" (.ref nr) := F_narrow_a0.other W3 (Or.inr (slot_ne (Or.inl (hw _ (List.mem_of_getElem? (i := 18) rfl))) (Or.inl (hw _ (List.mem_of_getElem? (i := 48) rfl))) (by decide) (t := (.array .byte)) (t' := .long) (by decide) (by decide)))
  have F_middle_a0 : Fld Z h3 a0 "com/example/wadjet/wadjet/storage/IntegerChunk" "middle" "[C" mi := F_middle_a0.other W3 (Or.inr (slot_ne (Or.inl (hw _ (List.mem_of_getElem? (i := 92) rfl))) (Or.inl (hw _ (List.mem_of_getElem? (i := 48) rfl))) (by decide) (t := (.array .char)) (t' := .long) (by decide) (by decide)))
  have F_wide_a0 : Fld Z h3 a0 "com/example/wadjet/wadjet/storage/IntegerChunk" "wide" "[I" wi := F_wide_a0.other W3 (Or.inr (slot_ne (Or.inl (hw _ (List.mem_of_getElem? (i := 94) rfl))) (Or.inl (hw _ (List.mem_of_getElem? (i := 48) rfl))) (by decide) (t := (.array .int)) (t' := .long) (by decide) (by decide)))
  have F_nulls_a0 : Fld Z h3 a0 "com/example/wadjet/wadjet/storage/IntegerChunk" "nulls" "[J" (.ref nl) := F_nulls_a0.other W3 (Or.inr (slot_ne (Or.inl (hw _ (List.mem_of_getElem? (i := 25) rfl))) (Or.inl (hw _ (List.mem_of_getElem? (i := 48) rfl))) (by decide) (t := (.array .long)) (t' := .long) (by decide) (by decide)))
  have V_nr : Arv Z h3 nr kn .byte cap vs (.int (0 : Int32)) := V_nr.other W3 ne_nr_a0
  have V_nl : Arv Z h3 nl kl .long (4 : Int32) (xs.map Value.long) (.long (0 : Int64)) := V_nl.other W3 ne_nl_a0
  have Zh3 : n0 ≤ h3.size := Nat.le_trans Z0 (Keep.of_wr W3).1
  have Kh3 : Keep h0 h3 [a0, nr, nl] := K0.wr W3 (Or.inl (by simp))
  have N3 := Fr.snoc X3 N1 g_a0
  obtain ⟨T4, h4, X4, e4, W4, st4⟩ := putFN X3 hx hZ hown (hw _ (List.mem_of_getElem? (i := 45) rfl)) Via.refl e3 F_based_a0 E_a0 (Or.inl (hw _ (List.mem_of_getElem? (i := 46) rfl))) (hw _ (List.mem_of_getElem? (i := 1) rfl)) (ty := .boolean) (v' := (.int (nar .boolean (1 : Int32)))) (by decide) rfl (fits_nar_bool _) (g := (mkF m 19 #[.val (.ref a0), .val (.int p1), .val (.long q2), .second] [(.int (1 : Int32)), (.ref a0)])) rfl rfl (hb hby d7_19)
  have F_based_a0 : Fld Z h4 a0 "com/example/wadjet/wadjet/storage/IntegerChunk" "based" "Z" (.int (nar .boolean (1 : Int32))) := F_based_a0.same W4
  have E_a0 : Exa Z h4 a0 "com/example/wadjet/wadjet/storage/IntegerChunk" := E_a0.wr W4
  have F_width_a0 : Fld Z h4 a0 "com/example/wadjet/wadjet/storage/IntegerChunk" "width" "I" (.int (1 : Int32)) := F_width_a0.other W4 (Or.inr (slot_ne (Or.inl (hw _ (List.mem_of_getElem? (i := 15) rfl))) (Or.inl (hw _ (List.mem_of_getElem? (i := 46) rfl))) (by decide) (t := .int) (t' := .boolean) (by decide) (by decide)))
  have F_base_a0 : Fld Z h4 a0 "com/example/wadjet/wadjet/storage/IntegerChunk" "base" "J" (.long q2) := F_base_a0.other W4 (Or.inr (slot_ne (Or.inl (hw _ (List.mem_of_getElem? (i := 48) rfl))) (Or.inl (hw _ (List.mem_of_getElem? (i := 46) rfl))) (by decide) (t := .long) (t' := .boolean) (by decide) (by decide)))
  have F_narrow_a0 : Fld Z h4 a0 "com/example/wadjet/wadjet/storage/IntegerChunk" "narrow" "[B" (.ref nr) := F_narrow_a0.other W4 (Or.inr (slot_ne (Or.inl (hw _ (List.mem_of_getElem? (i := 18) rfl))) (Or.inl (hw _ (List.mem_of_getElem? (i := 46) rfl))) (by decide) (t := (.array .byte)) (t' := .boolean) (by decide) (by decide)))
  have F_middle_a0 : Fld Z h4 a0 "com/example/wadjet/wadjet/storage/IntegerChunk" "middle" "[C" mi := F_middle_a0.other W4 (Or.inr (slot_ne (Or.inl (hw _ (List.mem_of_getElem? (i := 92) rfl))) (Or.inl (hw _ (List.mem_of_getElem? (i := 46) rfl))) (by decide) (t := (.array .char)) (t' := .boolean) (by decide) (by decide)))
  have F_wide_a0 : Fld Z h4 a0 "com/example/wadjet/wadjet/storage/IntegerChunk" "wide" "[I" wi := F_wide_a0.other W4 (Or.inr (slot_ne (Or.inl (hw _ (List.mem_of_getElem? (i := 94) rfl))) (Or.inl (hw _ (List.mem_of_getElem? (i := 46) rfl))) (by decide) (t := (.array .int)) (t' := .boolean) (by decide) (by decide)))
  have F_nulls_a0 : Fld Z h4 a0 "com/example/wadjet/wadjet/storage/IntegerChunk" "nulls" "[J" (.ref nl) := F_nulls_a0.other W4 (Or.inr (slot_ne (Or.inl (hw _ (List.mem_of_getElem? (i := 25) rfl))) (Or.inl (hw _ (List.mem_of_getElem? (i := 46) rfl))) (by decide) (t := (.array .long)) (t' := .boolean) (by decide) (by decide)))
  have V_nr : Arv Z h4 nr kn .byte cap vs (.int (0 : Int32)) := V_nr.other W4 ne_nr_a0
  have V_nl : Arv Z h4 nl kl .long (4 : Int32) (xs.map Value.long) (.long (0 : Int64)) := V_nl.other W4 ne_nl_a0
  have Zh4 : n0 ≤ h4.size := Nat.le_trans Zh3 (Keep.of_wr W4).1
  have Kh4 : Keep h0 h4 [a0, nr, nl] := Kh3.wr W4 (Or.inl (by simp))
  have N4 := Fr.snoc X4 N3 g_a0
  obtain ⟨cq5, q5, q5'⟩ := E_a0.cell
  obtain ⟨_, _, ⟨T5, L5, k5, n5⟩, -, X5, ⟨Lc5, hQ5, l5, y5, z5⟩, st5⟩ := X4.privateBack hx (y := (⟨"com/example/wadjet/wadjet/storage/IntegerChunk", "capacity", "()I"⟩ : MethodName)) hown (mvT hZ (hw _ (List.mem_of_getElem? (i := 49) rfl))) (mvT hZ (hw _ (List.mem_of_getElem? (i := 50) rfl))) (own_selP hZ (hw _ (List.mem_of_getElem? (i := 1) rfl)) (hw _ (List.mem_of_getElem? (i := 51) rfl)) (hw _ (List.mem_of_getElem? (i := 50) rfl)) (by decide)) (Cond.privateMethod_at (mvP hZ (hw _ (List.mem_of_getElem? (i := 51) rfl)) (args := #[]))) (mvT hZ (hw _ (List.mem_of_getElem? (i := 52) rfl))) (by decide) (backOf (W := 1) (rm9 l Z A0 hw [] a0 nr kn cap vs (.int (0 : Int32)) h4 n0 Zh4 F_width_a0 F_narrow_a0 V_nr) hZ (hw _ (List.mem_of_getElem? (i := 52) rfl)) (hw _ (List.mem_of_getElem? (i := 2) rfl)) (by decide) (by decide)) (g := (mkF m 24 #[.val (.ref a0), .val (.int p1), .val (.long q2), .second] [(.ref a0), (.int p1)])) rfl (by rw [hml]; rfl) (Steps.refl _) (a := a0) (by rw [e4]; exact q5) q5' (argsL := []) (rest := [(.int p1)]) (lenOf pd_5 rfl) rfl (by show 2 * 0 + _ ≤ _; exact Nat.le_of_eq rfl) (hb hby d7_24) (fun _ _ => ⟨rfl, e4, (by decide : 0 + 0 ≤ _), (by decide : 0 + 0 ≤ _)⟩)
  dsimp only [Pt.U, Pt.locs, Pt.cells, Pt.slots] at X5 l5 y5 z5 st5 hQ5
  subst y5 z5
  obtain ⟨rfl, N5q, eh5⟩ := hQ5
  have N5 : Fr n0 L5 := by rw [l5]; exact Fr.app N4 N5q
  clear l5
  by_cases hc27 : p1 < cap
  · obtain ⟨T6, X6, e6, st6⟩ := getF X5 hx hZ hown (host := "") (Or.inl (hw _ (List.mem_of_getElem? (i := 14) rfl))) Via.refl eh5 F_width_a0 (g := (mkF m 43 #[.val (.ref a0), .val (.int p1), .val (.long q2), .second] [(.ref a0)])) rfl rfl (hb hby d7_43)
    obtain ⟨T7, X7, e7, st7⟩ := getF X6 hx hZ hown (host := "") (Or.inl (hw _ (List.mem_of_getElem? (i := 47) rfl))) Via.refl e6 F_base_a0 (g := (mkF m 52 #[.val (.ref a0), .val (.int p1), .val (.long q2), .second] [(.ref a0), (.long q2)])) rfl rfl (hb hby d7_52)
    obtain ⟨T8, X8, e8, st8⟩ := getF X7 hx hZ hown (host := "") (Or.inl (hw _ (List.mem_of_getElem? (i := 47) rfl))) Via.refl e7 F_base_a0 (g := (mkF m 61 #[.val (.ref a0), .val (.int p1), .val (.long q2), .second] [(.ref a0), (.long q2)])) rfl rfl (hb hby d7_61)
    obtain ⟨T9, X9, e9, st9⟩ := getF X8 hx hZ hown (host := "") (Or.inl (hw _ (List.mem_of_getElem? (i := 14) rfl))) Via.refl e8 F_width_a0 (g := (mkF m 69 #[.val (.ref a0), .val (.int p1), .val (.long q2), .second] [(.ref a0), (.int (8 : Int32)), (.long (1 : Int64)), (.long (q2 - q2))])) rfl rfl (hb hby d7_69)
    obtain ⟨T10, X10, e10, st10⟩ := getF X9 hx hZ hown (host := "") (Or.inl (hw _ (List.mem_of_getElem? (i := 14) rfl))) Via.refl e9 F_width_a0 (g := (mkF m 85 #[.val (.ref a0), .val (.int p1), .val (.long q2), .second] [(.ref a0)])) rfl rfl (hb hby d7_85)
    obtain ⟨T11, X11, e11, st11⟩ := getF X10 hx hZ hown (host := "") (Or.inl (hw _ (List.mem_of_getElem? (i := 17) rfl))) Via.refl e10 F_narrow_a0 (g := (mkF m 93 #[.val (.ref a0), .val (.int p1), .val (.long q2), .second] [(.ref a0)])) rfl rfl (hb hby d7_93)
    obtain ⟨T12, X12, e12, st12⟩ := getF X11 hx hZ hown (host := "") (Or.inl (hw _ (List.mem_of_getElem? (i := 47) rfl))) Via.refl e11 F_base_a0 (g := (mkF m 99 #[.val (.ref a0), .val (.int p1), .val (.long q2), .second] [(.ref a0), (.long q2), (.int p1), (.ref nr)])) rfl rfl (hb hby d7_99)
    have V_nr : Arv Z h4 nr kn .byte cap (vs ++ List.replicate 256 (Value.int (0 : Int32))) (.int (0 : Int32)) := V_nr.pad (pad_rep vs (Value.int (0 : Int32)) 256)
    obtain ⟨cl13, Ar13, qq13, SS13, MM13, HH13, GG13⟩ := id V_nr
    have hin13 := inb_of SS13 ⟨own_nneg hp.1, hc27⟩
    obtain ⟨T13, h13, X13, e13, W13, st13⟩ := stB X12 hx hZ e12 Ar13 (j := p1) hin13 (g := (mkF m 105 #[.val (.ref a0), .val (.int p1), .val (.long q2), .second] [(.int (((q2 - q2).toInt32).toInt8.toInt32)), (.int p1), (.ref nr)])) rfl rfl (hb hby d7_105)
    have V_nr : Arv Z h13 nr kn .byte cap ((vs ++ List.replicate 256 (Value.int (0 : Int32))).set p1.toNatClampNeg (.int (nar .byte (((q2 - q2).toInt32).toInt8.toInt32)))) (.int (0 : Int32)) := Arv.set Ar13 qq13 SS13 MM13 HH13 GG13 (fits_nar_byte _) W13 p1.toNatClampNeg rfl (by rw [List.length_append, List.length_replicate, own_tn]; omega)
    have E_a0 : Exa Z h13 a0 "com/example/wadjet/wadjet/storage/IntegerChunk" := E_a0.wr W13
    have F_width_a0 : Fld Z h13 a0 "com/example/wadjet/wadjet/storage/IntegerChunk" "width" "I" (.int (1 : Int32)) := F_width_a0.other W13 (Or.inl (Ne.symm ne_nr_a0))
    have F_base_a0 : Fld Z h13 a0 "com/example/wadjet/wadjet/storage/IntegerChunk" "base" "J" (.long q2) := F_base_a0.other W13 (Or.inl (Ne.symm ne_nr_a0))
    have F_based_a0 : Fld Z h13 a0 "com/example/wadjet/wadjet/storage/IntegerChunk" "based" "Z" (.int (nar .boolean (1 : Int32))) := F_based_a0.other W13 (Or.inl (Ne.symm ne_nr_a0))
    have F_narrow_a0 : Fld Z h13 a0 "com/example/wadjet/wadjet/storage/IntegerChunk" "narrow" "[B" (.ref nr) := F_narrow_a0.other W13 (Or.inl (Ne.symm ne_nr_a0))
    have F_middle_a0 : Fld Z h13 a0 "com/example/wadjet/wadjet/storage/IntegerChunk" "middle" "[C" mi := F_middle_a0.other W13 (Or.inl (Ne.symm ne_nr_a0))
    have F_wide_a0 : Fld Z h13 a0 "com/example/wadjet/wadjet/storage/IntegerChunk" "wide" "[I" wi := F_wide_a0.other W13 (Or.inl (Ne.symm ne_nr_a0))
    have F_nulls_a0 : Fld Z h13 a0 "com/example/wadjet/wadjet/storage/IntegerChunk" "nulls" "[J" (.ref nl) := F_nulls_a0.other W13 (Or.inl (Ne.symm ne_nr_a0))
    have V_nl : Arv Z h13 nl kl .long (4 : Int32) (xs.map Value.long) (.long (0 : Int64)) := V_nl.other W13 (Ne.symm ne_nr_nl)
    have Zh13 : n0 ≤ h13.size := Nat.le_trans Zh4 (Keep.of_wr W13).1
    have Kh13 : Keep h0 h13 [a0, nr, nl] := Kh4.wr W13 (Or.inl (by simp))
    have N13 := Fr.snoc X13 N5 g_nr
    obtain ⟨T14, X14, e14, st14⟩ := getF X13 hx hZ hown (host := "") (Or.inl (hw _ (List.mem_of_getElem? (i := 24) rfl))) Via.refl e13 F_nulls_a0 (g := (mkF m 143 #[.val (.ref a0), .val (.int p1), .val (.long q2), .second] [(.ref a0)])) rfl rfl (hb hby d7_143)
    obtain ⟨T15, X15, e15, st15⟩ := getF X14 hx hZ hown (host := "") (Or.inl (hw _ (List.mem_of_getElem? (i := 24) rfl))) Via.refl e14 F_nulls_a0 (g := (mkF m 150 #[.val (.ref a0), .val (.int p1), .val (.long q2), .second] [(.ref a0)])) rfl rfl (hb hby d7_150)
    obtain ⟨cl16, Ar16, -, SS16, MM16, HH16, -⟩ := id V_nl
    have hin16 := inb_of SS16 (own_i6 hp)
    have hat16 : cl16.slots[(((p1.toUInt32 >>> ((6 : Int32) &&& 31).toUInt32).toInt32)).toNatClampNeg]? = some (.long (xs.getD (own_ix p1) 0)) := HH16.at hin16 (own_mg xs _)
    obtain ⟨cl17, Ar17, qq17, SS17, MM17, HH17, GG17⟩ := id V_nl
    have hin17 := inb_of SS17 (own_i6 hp)
    obtain ⟨T17, h17, X17, e17, W17, st17⟩ := stJ X15 hx hZ e15 Ar17 (j := ((p1.toUInt32 >>> ((6 : Int32) &&& 31).toUInt32).toInt32)) hin17 (g := (mkF m 167 #[.val (.ref a0), .val (.int p1), .val (.long q2), .second] [(.long ((xs.getD (own_ix p1) 0) &&& (((1 : Int64) <<< (p1 &&& 0x3f).toInt64) ^^^ (-1 : Int64)))), (.int ((p1.toUInt32 >>> ((6 : Int32) &&& 31).toUInt32).toInt32)), (.ref nl)])) rfl rfl (hb hby d7_167)
    have V_nl : Arv Z h17 nl kl .long (4 : Int32) ((own_an xs p1).map Value.long) (.long (0 : Int64)) := by rw [own_an, List.map_set]; exact Arv.set Ar17 qq17 SS17 MM17 HH17 GG17 rfl W17 (own_ix p1) rfl (own_ixl hx4 hp)
    have E_a0 : Exa Z h17 a0 "com/example/wadjet/wadjet/storage/IntegerChunk" := E_a0.wr W17
    have F_width_a0 : Fld Z h17 a0 "com/example/wadjet/wadjet/storage/IntegerChunk" "width" "I" (.int (1 : Int32)) := F_width_a0.other W17 (Or.inl (Ne.symm ne_nl_a0))
    have F_base_a0 : Fld Z h17 a0 "com/example/wadjet/wadjet/storage/IntegerChunk" "base" "J" (.long q2) := F_base_a0.other W17 (Or.inl (Ne.symm ne_nl_a0))
    have F_based_a0 : Fld Z h17 a0 "com/example/wadjet/wadjet/storage/IntegerChunk" "based" "Z" (.int (nar .boolean (1 : Int32))) := F_based_a0.other W17 (Or.inl (Ne.symm ne_nl_a0))
    have F_narrow_a0 : Fld Z h17 a0 "com/example/wadjet/wadjet/storage/IntegerChunk" "narrow" "[B" (.ref nr) := F_narrow_a0.other W17 (Or.inl (Ne.symm ne_nl_a0))
    have F_middle_a0 : Fld Z h17 a0 "com/example/wadjet/wadjet/storage/IntegerChunk" "middle" "[C" mi := F_middle_a0.other W17 (Or.inl (Ne.symm ne_nl_a0))
    have F_wide_a0 : Fld Z h17 a0 "com/example/wadjet/wadjet/storage/IntegerChunk" "wide" "[I" wi := F_wide_a0.other W17 (Or.inl (Ne.symm ne_nl_a0))
    have F_nulls_a0 : Fld Z h17 a0 "com/example/wadjet/wadjet/storage/IntegerChunk" "nulls" "[J" (.ref nl) := F_nulls_a0.other W17 (Or.inl (Ne.symm ne_nl_a0))
    have V_nr : Arv Z h17 nr kn .byte cap ((vs ++ List.replicate 256 (Value.int (0 : Int32))).set p1.toNatClampNeg (.int (nar .byte (((q2 - q2).toInt32).toInt8.toInt32)))) (.int (0 : Int32)) := V_nr.other W17 ne_nr_nl
    have Zh17 : n0 ≤ h17.size := Nat.le_trans Zh13 (Keep.of_wr W17).1
    have Kh17 : Keep h0 h17 [a0, nr, nl] := Kh13.wr W17 (Or.inl (by simp))
    have N17 := Fr.snoc X17 N13 g_nl
    obtain ⟨fs, hr, hrun, hended, hW, hsame⟩ := X17.leave (v := none) (fun _ => rfl)
    refine ⟨_, _, pre0 _ ?_, hrun, hended, _, _, rfl, ?_, ⟨_, rfl⟩, hW, hsame.mono (by decide) (by decide)⟩
    · show Steps p.tables e below (s₁.setTop (mkF m 0 #[.val (.ref a0), .val (.int p1), .val (.long q2), .second] [])) _
      refine XS.lloadN X0.here hx rfl (hb hby d7_0) rfl ?_
      show Steps p.tables e below (s₁.setTop (mkF m 1 #[.val (.ref a0), .val (.int p1), .val (.long q2), .second] [(.long q2)])) _
      refine st1 _ ?_
      show Steps p.tables e below (T1.setTop (mkF m 4 #[.val (.ref a0), .val (.int p1), .val (.long q2), .second] [(.int (q2.toInt32))])) _
      refine XS.pop X1.here hx rfl (hb hby d7_4) rfl rfl ?_
      show Steps p.tables e below (T1.setTop (mkF m 5 #[.val (.ref a0), .val (.int p1), .val (.long q2), .second] [])) _
      refine XS.aloadN X1.here hx rfl (hb hby d7_5) rfl rfl ?_
      show Steps p.tables e below (T1.setTop (mkF m 6 #[.val (.ref a0), .val (.int p1), .val (.long q2), .second] [(.ref a0)])) _
      refine st2 _ ?_
      show Steps p.tables e below (T2.setTop (mkF m 9 #[.val (.ref a0), .val (.int p1), .val (.long q2), .second] [(.int (0 : Int32))])) _
      refine XS.ifNo X2.here hx rfl (hb hby d7_9) rfl ((if0 _ _).trans (teq (by decide : (0 : Int32) = (0 : Int32))).2) ?_
      show Steps p.tables e below (T2.setTop (mkF m 12 #[.val (.ref a0), .val (.int p1), .val (.long q2), .second] [])) _
      refine XS.aloadN X2.here hx rfl (hb hby d7_12) rfl rfl ?_
      show Steps p.tables e below (T2.setTop (mkF m 13 #[.val (.ref a0), .val (.int p1), .val (.long q2), .second] [(.ref a0)])) _
      refine XS.lloadN X2.here hx rfl (hb hby d7_13) rfl ?_
      show Steps p.tables e below (T2.setTop (mkF m 14 #[.val (.ref a0), .val (.int p1), .val (.long q2), .second] [(.long q2), (.ref a0)])) _
      refine st3 _ ?_
      show Steps p.tables e below (T3.setTop (mkF m 17 #[.val (.ref a0), .val (.int p1), .val (.long q2), .second] [])) _
      refine XS.aloadN X3.here hx rfl (hb hby d7_17) rfl rfl ?_
      show Steps p.tables e below (T3.setTop (mkF m 18 #[.val (.ref a0), .val (.int p1), .val (.long q2), .second] [(.ref a0)])) _
      refine XS.iconst X3.here hx rfl (hb hby d7_18) ?_
      show Steps p.tables e below (T3.setTop (mkF m 19 #[.val (.ref a0), .val (.int p1), .val (.long q2), .second] [(.int (1 : Int32)), (.ref a0)])) _
      refine st4 _ ?_
      show Steps p.tables e below (T4.setTop (mkF m 22 #[.val (.ref a0), .val (.int p1), .val (.long q2), .second] [])) _
      refine XS.iloadN X4.here hx rfl (hb hby d7_22) rfl ?_
      show Steps p.tables e below (T4.setTop (mkF m 23 #[.val (.ref a0), .val (.int p1), .val (.long q2), .second] [(.int p1)])) _
      refine XS.aloadN X4.here hx rfl (hb hby d7_23) rfl rfl ?_
      show Steps p.tables e below (T4.setTop (mkF m 24 #[.val (.ref a0), .val (.int p1), .val (.long q2), .second] [(.ref a0), (.int p1)])) _
      refine st5.trans ?_
      show Steps p.tables e below (T5.setTop (mkF m 27 #[.val (.ref a0), .val (.int p1), .val (.long q2), .second] [(.int cap), (.int p1)])) _
      refine XS.icmpYes X5.here hx rfl (pc0 := 27) (pc' := 42) rfl (hb hby d7_27) rfl (tlt hc27).1 (by decide) (by decide) ?_
      show Steps p.tables e below (T5.setTop (mkF m 42 #[.val (.ref a0), .val (.int p1), .val (.long q2), .second] [])) _
      refine XS.aloadN X5.here hx rfl (hb hby d7_42) rfl rfl ?_
      show Steps p.tables e below (T5.setTop (mkF m 43 #[.val (.ref a0), .val (.int p1), .val (.long q2), .second] [(.ref a0)])) _
      refine st6 _ ?_
      show Steps p.tables e below (T6.setTop (mkF m 46 #[.val (.ref a0), .val (.int p1), .val (.long q2), .second] [(.int (1 : Int32))])) _
      refine XS.iconst X6.here hx rfl (hb hby d7_46) ?_
      show Steps p.tables e below (T6.setTop (mkF m 47 #[.val (.ref a0), .val (.int p1), .val (.long q2), .second] [(.int (4 : Int32)), (.int (1 : Int32))])) _
      refine XS.icmpNo X6.here hx rfl (hb hby d7_47) rfl (tlt (by decide : (1 : Int32) < (4 : Int32))).2.1 ?_
      show Steps p.tables e below (T6.setTop (mkF m 50 #[.val (.ref a0), .val (.int p1), .val (.long q2), .second] [])) _
      refine XS.lloadN X6.here hx rfl (hb hby d7_50) rfl ?_
      show Steps p.tables e below (T6.setTop (mkF m 51 #[.val (.ref a0), .val (.int p1), .val (.long q2), .second] [(.long q2)])) _
      refine XS.aloadN X6.here hx rfl (hb hby d7_51) rfl rfl ?_
      show Steps p.tables e below (T6.setTop (mkF m 52 #[.val (.ref a0), .val (.int p1), .val (.long q2), .second] [(.ref a0), (.long q2)])) _
      refine st7 _ ?_
      show Steps p.tables e below (T7.setTop (mkF m 55 #[.val (.ref a0), .val (.int p1), .val (.long q2), .second] [(.long q2), (.long q2)])) _
      refine XS.lcmp X7.here hx rfl (hb hby d7_55) rfl ?_
      show Steps p.tables e below (T7.setTop (mkF m 56 #[.val (.ref a0), .val (.int p1), .val (.long q2), .second] [(.int (lcmpW q2 q2))])) _
      refine XS.ifNo X7.here hx rfl (hb hby d7_56) rfl ((if0 _ _).trans (flt (mt (lw_lt _ _).mp (Int64.lt_irrefl : ¬ (q2 < q2)))).1) ?_
      show Steps p.tables e below (T7.setTop (mkF m 59 #[.val (.ref a0), .val (.int p1), .val (.long q2), .second] [])) _
      refine XS.lloadN X7.here hx rfl (hb hby d7_59) rfl ?_
      show Steps p.tables e below (T7.setTop (mkF m 60 #[.val (.ref a0), .val (.int p1), .val (.long q2), .second] [(.long q2)])) _
      refine XS.aloadN X7.here hx rfl (hb hby d7_60) rfl rfl ?_
      show Steps p.tables e below (T7.setTop (mkF m 61 #[.val (.ref a0), .val (.int p1), .val (.long q2), .second] [(.ref a0), (.long q2)])) _
      refine st8 _ ?_
      show Steps p.tables e below (T8.setTop (mkF m 64 #[.val (.ref a0), .val (.int p1), .val (.long q2), .second] [(.long q2), (.long q2)])) _
      refine XS.lsub X8.here hx rfl (hb hby d7_64) rfl ?_
      show Steps p.tables e below (T8.setTop (mkF m 65 #[.val (.ref a0), .val (.int p1), .val (.long q2), .second] [(.long (q2 - q2))])) _
      refine XS.lconst X8.here hx rfl (hb hby d7_65) ?_
      show Steps p.tables e below (T8.setTop (mkF m 66 #[.val (.ref a0), .val (.int p1), .val (.long q2), .second] [(.long (1 : Int64)), (.long (q2 - q2))])) _
      refine XS.bipush X8.here hx rfl (hb hby d7_66) ?_
      show Steps p.tables e below (T8.setTop (mkF m 68 #[.val (.ref a0), .val (.int p1), .val (.long q2), .second] [(.int (8 : Int32)), (.long (1 : Int64)), (.long (q2 - q2))])) _
      refine XS.aloadN X8.here hx rfl (hb hby d7_68) rfl rfl ?_
      show Steps p.tables e below (T8.setTop (mkF m 69 #[.val (.ref a0), .val (.int p1), .val (.long q2), .second] [(.ref a0), (.int (8 : Int32)), (.long (1 : Int64)), (.long (q2 - q2))])) _
      refine st9 _ ?_
      show Steps p.tables e below (T9.setTop (mkF m 72 #[.val (.ref a0), .val (.int p1), .val (.long q2), .second] [(.int (1 : Int32)), (.int (8 : Int32)), (.long (1 : Int64)), (.long (q2 - q2))])) _
      refine XS.imul X9.here hx rfl (hb hby d7_72) rfl ?_
      show Steps p.tables e below (T9.setTop (mkF m 73 #[.val (.ref a0), .val (.int p1), .val (.long q2), .second] [(.int ((8 : Int32) * (1 : Int32))), (.long (1 : Int64)), (.long (q2 - q2))])) _
      refine XS.lshl X9.here hx rfl (hb hby d7_73) rfl ?_
      show Steps p.tables e below (T9.setTop (mkF m 74 #[.val (.ref a0), .val (.int p1), .val (.long q2), .second] [(.long ((1 : Int64) <<< (((8 : Int32) * (1 : Int32)) &&& 0x3f).toInt64)), (.long (q2 - q2))])) _
      refine XS.lcmp X9.here hx rfl (hb hby d7_74) rfl ?_
      show Steps p.tables e below (T9.setTop (mkF m 75 #[.val (.ref a0), .val (.int p1), .val (.long q2), .second] [(.int (lcmpW (q2 - q2) ((1 : Int64) <<< (((8 : Int32) * (1 : Int32)) &&& 0x3f).toInt64)))])) _
      refine XS.ifYes X9.here hx rfl (pc0 := 75) (pc' := 84) rfl (hb hby d7_75) rfl ((if0 _ _).trans (tlt ((lw_lt _ _).mpr (own_lt8 q2 : (q2 - q2) < ((1 : Int64) <<< (((8 : Int32) * (1 : Int32)) &&& 0x3f).toInt64)))).1) (by decide) (by decide) ?_
      show Steps p.tables e below (T9.setTop (mkF m 84 #[.val (.ref a0), .val (.int p1), .val (.long q2), .second] [])) _
      refine XS.aloadN X9.here hx rfl (hb hby d7_84) rfl rfl ?_
      show Steps p.tables e below (T9.setTop (mkF m 85 #[.val (.ref a0), .val (.int p1), .val (.long q2), .second] [(.ref a0)])) _
      refine st10 _ ?_
      show Steps p.tables e below (T10.setTop (mkF m 88 #[.val (.ref a0), .val (.int p1), .val (.long q2), .second] [(.int (1 : Int32))])) _
      refine XS.iconst X10.here hx rfl (hb hby d7_88) ?_
      show Steps p.tables e below (T10.setTop (mkF m 89 #[.val (.ref a0), .val (.int p1), .val (.long q2), .second] [(.int (1 : Int32)), (.int (1 : Int32))])) _
      refine XS.icmpNo X10.here hx rfl (hb hby d7_89) rfl (teq (by decide : (1 : Int32) = (1 : Int32))).2 ?_
      show Steps p.tables e below (T10.setTop (mkF m 92 #[.val (.ref a0), .val (.int p1), .val (.long q2), .second] [])) _
      refine XS.aloadN X10.here hx rfl (hb hby d7_92) rfl rfl ?_
      show Steps p.tables e below (T10.setTop (mkF m 93 #[.val (.ref a0), .val (.int p1), .val (.long q2), .second] [(.ref a0)])) _
      refine st11 _ ?_
      show Steps p.tables e below (T11.setTop (mkF m 96 #[.val (.ref a0), .val (.int p1), .val (.long q2), .second] [(.ref nr)])) _
      refine XS.iloadN X11.here hx rfl (hb hby d7_96) rfl ?_
      show Steps p.tables e below (T11.setTop (mkF m 97 #[.val (.ref a0), .val (.int p1), .val (.long q2), .second] [(.int p1), (.ref nr)])) _
      refine XS.lloadN X11.here hx rfl (hb hby d7_97) rfl ?_
      show Steps p.tables e below (T11.setTop (mkF m 98 #[.val (.ref a0), .val (.int p1), .val (.long q2), .second] [(.long q2), (.int p1), (.ref nr)])) _
      refine XS.aloadN X11.here hx rfl (hb hby d7_98) rfl rfl ?_
      show Steps p.tables e below (T11.setTop (mkF m 99 #[.val (.ref a0), .val (.int p1), .val (.long q2), .second] [(.ref a0), (.long q2), (.int p1), (.ref nr)])) _
      refine st12 _ ?_
      show Steps p.tables e below (T12.setTop (mkF m 102 #[.val (.ref a0), .val (.int p1), .val (.long q2), .second] [(.long q2), (.long q2), (.int p1), (.ref nr)])) _
      refine XS.lsub X12.here hx rfl (hb hby d7_102) rfl ?_
      show Steps p.tables e below (T12.setTop (mkF m 103 #[.val (.ref a0), .val (.int p1), .val (.long q2), .second] [(.long (q2 - q2)), (.int p1), (.ref nr)])) _
      refine XS.l2i X12.here hx rfl (hb hby d7_103) rfl ?_
      show Steps p.tables e below (T12.setTop (mkF m 104 #[.val (.ref a0), .val (.int p1), .val (.long q2), .second] [(.int ((q2 - q2).toInt32)), (.int p1), (.ref nr)])) _
      refine XS.i2b X12.here hx rfl (hb hby d7_104) rfl ?_
      show Steps p.tables e below (T12.setTop (mkF m 105 #[.val (.ref a0), .val (.int p1), .val (.long q2), .second] [(.int (((q2 - q2).toInt32).toInt8.toInt32)), (.int p1), (.ref nr)])) _
      refine st13 _ ?_
      show Steps p.tables e below (T13.setTop (mkF m 106 #[.val (.ref a0), .val (.int p1), .val (.long q2), .second] [])) _
      refine XS.goto X13.here hx rfl (pc0 := 106) (pc' := 142) rfl (hb hby d7_106) (by decide) (by decide) ?_
      show Steps p.tables e below (T13.setTop (mkF m 142 #[.val (.ref a0), .val (.int p1), .val (.long q2), .second] [])) _
      refine XS.aloadN X13.here hx rfl (hb hby d7_142) rfl rfl ?_
      show Steps p.tables e below (T13.setTop (mkF m 143 #[.val (.ref a0), .val (.int p1), .val (.long q2), .second] [(.ref a0)])) _
      refine st14 _ ?_
      show Steps p.tables e below (T14.setTop (mkF m 146 #[.val (.ref a0), .val (.int p1), .val (.long q2), .second] [(.ref nl)])) _
      refine XS.ifnullNo X14.here hx rfl (hb hby d7_146) rfl ?_
      show Steps p.tables e below (T14.setTop (mkF m 149 #[.val (.ref a0), .val (.int p1), .val (.long q2), .second] [])) _
      refine XS.aloadN X14.here hx rfl (hb hby d7_149) rfl rfl ?_
      show Steps p.tables e below (T14.setTop (mkF m 150 #[.val (.ref a0), .val (.int p1), .val (.long q2), .second] [(.ref a0)])) _
      refine st15 _ ?_
      show Steps p.tables e below (T15.setTop (mkF m 153 #[.val (.ref a0), .val (.int p1), .val (.long q2), .second] [(.ref nl)])) _
      refine XS.iloadN X15.here hx rfl (hb hby d7_153) rfl ?_
      show Steps p.tables e below (T15.setTop (mkF m 154 #[.val (.ref a0), .val (.int p1), .val (.long q2), .second] [(.int p1), (.ref nl)])) _
      refine XS.bipush X15.here hx rfl (hb hby d7_154) ?_
      show Steps p.tables e below (T15.setTop (mkF m 156 #[.val (.ref a0), .val (.int p1), .val (.long q2), .second] [(.int (6 : Int32)), (.int p1), (.ref nl)])) _
      refine XS.iushr X15.here hx rfl (hb hby d7_156) rfl ?_
      show Steps p.tables e below (T15.setTop (mkF m 157 #[.val (.ref a0), .val (.int p1), .val (.long q2), .second] [(.int ((p1.toUInt32 >>> ((6 : Int32) &&& 31).toUInt32).toInt32)), (.ref nl)])) _
      refine XT.dup2 X15.here hx rfl (hb hby d7_157) rfl rfl rfl ?_
      show Steps p.tables e below (T15.setTop (mkF m 158 #[.val (.ref a0), .val (.int p1), .val (.long q2), .second] [(.int ((p1.toUInt32 >>> ((6 : Int32) &&& 31).toUInt32).toInt32)), (.ref nl), (.int ((p1.toUInt32 >>> ((6 : Int32) &&& 31).toUInt32).toInt32)), (.ref nl)])) _
      refine X15.laload hx (j := ((p1.toUInt32 >>> ((6 : Int32) &&& 31).toUInt32).toInt32)) (v := (.long (xs.getD (own_ix p1) 0))) (by rw [e15]; exact Ar16.1) (State.isArrayOf_alike hZ.alike Ar16.2.1) Ar16.2.2 hin16 hat16 (g := (mkF m 158 #[.val (.ref a0), .val (.int p1), .val (.long q2), .second] [(.int ((p1.toUInt32 >>> ((6 : Int32) &&& 31).toUInt32).toInt32)), (.ref nl), (.int ((p1.toUInt32 >>> ((6 : Int32) &&& 31).toUInt32).toInt32)), (.ref nl)])) rfl rfl (hb hby d7_158) _ ?_
      show Steps p.tables e below (T15.setTop (mkF m 159 #[.val (.ref a0), .val (.int p1), .val (.long q2), .second] [(.long (xs.getD (own_ix p1) 0)), (.int ((p1.toUInt32 >>> ((6 : Int32) &&& 31).toUInt32).toInt32)), (.ref nl)])) _
      refine XS.lconst X15.here hx rfl (hb hby d7_159) ?_
      show Steps p.tables e below (T15.setTop (mkF m 160 #[.val (.ref a0), .val (.int p1), .val (.long q2), .second] [(.long (1 : Int64)), (.long (xs.getD (own_ix p1) 0)), (.int ((p1.toUInt32 >>> ((6 : Int32) &&& 31).toUInt32).toInt32)), (.ref nl)])) _
      refine XS.iloadN X15.here hx rfl (hb hby d7_160) rfl ?_
      show Steps p.tables e below (T15.setTop (mkF m 161 #[.val (.ref a0), .val (.int p1), .val (.long q2), .second] [(.int p1), (.long (1 : Int64)), (.long (xs.getD (own_ix p1) 0)), (.int ((p1.toUInt32 >>> ((6 : Int32) &&& 31).toUInt32).toInt32)), (.ref nl)])) _
      refine XS.lshl X15.here hx rfl (hb hby d7_161) rfl ?_
      show Steps p.tables e below (T15.setTop (mkF m 162 #[.val (.ref a0), .val (.int p1), .val (.long q2), .second] [(.long ((1 : Int64) <<< (p1 &&& 0x3f).toInt64)), (.long (xs.getD (own_ix p1) 0)), (.int ((p1.toUInt32 >>> ((6 : Int32) &&& 31).toUInt32).toInt32)), (.ref nl)])) _
      refine X15.ldc2Long hx hown (mvT hZ (hw _ (List.mem_of_getElem? (i := 53) rfl))) (g := (mkF m 162 #[.val (.ref a0), .val (.int p1), .val (.long q2), .second] [(.long ((1 : Int64) <<< (p1 &&& 0x3f).toInt64)), (.long (xs.getD (own_ix p1) 0)), (.int ((p1.toUInt32 >>> ((6 : Int32) &&& 31).toUInt32).toInt32)), (.ref nl)])) rfl (hb hby d7_162) _ ?_
      show Steps p.tables e below (T15.setTop (mkF m 165 #[.val (.ref a0), .val (.int p1), .val (.long q2), .second] [(.long (-1 : Int64)), (.long ((1 : Int64) <<< (p1 &&& 0x3f).toInt64)), (.long (xs.getD (own_ix p1) 0)), (.int ((p1.toUInt32 >>> ((6 : Int32) &&& 31).toUInt32).toInt32)), (.ref nl)])) _
      refine XS.lxor X15.here hx rfl (hb hby d7_165) rfl ?_
      show Steps p.tables e below (T15.setTop (mkF m 166 #[.val (.ref a0), .val (.int p1), .val (.long q2), .second] [(.long (((1 : Int64) <<< (p1 &&& 0x3f).toInt64) ^^^ (-1 : Int64))), (.long (xs.getD (own_ix p1) 0)), (.int ((p1.toUInt32 >>> ((6 : Int32) &&& 31).toUInt32).toInt32)), (.ref nl)])) _
      refine XS.land X15.here hx rfl (hb hby d7_166) rfl ?_
      show Steps p.tables e below (T15.setTop (mkF m 167 #[.val (.ref a0), .val (.int p1), .val (.long q2), .second] [(.long ((xs.getD (own_ix p1) 0) &&& (((1 : Int64) <<< (p1 &&& 0x3f).toInt64) ^^^ (-1 : Int64)))), (.int ((p1.toUInt32 >>> ((6 : Int32) &&& 31).toUInt32).toInt32)), (.ref nl)])) _
      refine st17 _ ?_
      show Steps p.tables e below (T17.setTop (mkF m 168 #[.val (.ref a0), .val (.int p1), .val (.long q2), .second] [])) _
      exact X17.returnOut hx Bd.returns (hb hby d7_168) hr
    · show Qwi Z a0 p1 (some xs) h0 n0 _ T17.heap _
      rw [e17]
      exact ⟨rfl, N17, Kh17.1, cap, g_a0, E_a0, _, _, _, _, _, _, _, g_nr, ne_nr_a0, F_width_a0, F_base_a0, F_based_a0, F_narrow_a0, F_middle_a0, F_wide_a0, F_nulls_a0, V_nr, own_NuS g_nl ne_nl_a0 ne_nr_nl (own_an_len hx4) V_nl⟩
  · obtain ⟨cq18, q18, q18'⟩ := E_a0.cell
    obtain ⟨_, _, ⟨T18, L18, k18, n18⟩, -, X18, ⟨Lc18, hQ18, l18, y18, z18⟩, st18⟩ := X5.privateBack hx (y := (⟨"com/example/wadjet/wadjet/storage/IntegerChunk", "capacity", "()I"⟩ : MethodName)) hown (mvT hZ (hw _ (List.mem_of_getElem? (i := 49) rfl))) (mvT hZ (hw _ (List.mem_of_getElem? (i := 50) rfl))) (own_selP hZ (hw _ (List.mem_of_getElem? (i := 1) rfl)) (hw _ (List.mem_of_getElem? (i := 51) rfl)) (hw _ (List.mem_of_getElem? (i := 50) rfl)) (by decide)) (Cond.privateMethod_at (mvP hZ (hw _ (List.mem_of_getElem? (i := 51) rfl)) (args := #[]))) (mvT hZ (hw _ (List.mem_of_getElem? (i := 52) rfl))) (by decide) (backOf (W := 1) (rm9 l Z A0 hw [] a0 nr kn cap vs (.int (0 : Int32)) h4 n0 Zh4 F_width_a0 F_narrow_a0 V_nr) hZ (hw _ (List.mem_of_getElem? (i := 52) rfl)) (hw _ (List.mem_of_getElem? (i := 2) rfl)) (by decide) (by decide)) (g := (mkF m 32 #[.val (.ref a0), .val (.int p1), .val (.long q2), .second] [(.ref a0), (.ref a0)])) rfl (by rw [hml]; rfl) (Steps.refl _) (a := a0) (by rw [eh5]; exact q18) q18' (argsL := []) (rest := [(.ref a0)]) (lenOf pd_5 rfl) rfl (by show 2 * 0 + _ ≤ _; exact Nat.le_of_eq rfl) (hb hby d7_32) (fun _ _ => ⟨rfl, eh5, (by decide : 0 + 0 ≤ _), (by decide : 0 + 0 ≤ _)⟩)
    dsimp only [Pt.U, Pt.locs, Pt.cells, Pt.slots] at X18 l18 y18 z18 st18 hQ18
    subst y18 z18
    obtain ⟨rfl, N18q, eh18⟩ := hQ18
    have N18 : Fr n0 L18 := by rw [l18]; exact Fr.app N5 N18q
    clear l18
    have hgr := own_growb hp hcap hc27
    have hslot : 0 < p1.toInt ∧ p1.toInt < 256 := by omega
    obtain ⟨_, _, ⟨T19, L19, k19, n19⟩, -, X19, ⟨Lc19, hQ19, l19, y19, z19⟩, st19⟩ := own_callSU X18 hx (x := (⟨"com/example/wadjet/wadjet/storage/IntegerChunk", "grownCapacity", "(II)I"⟩ : MethodName)) (owner := "com/example/wadjet/wadjet/storage/ColumnChunk") hown (mvT hZ (hw _ (List.mem_of_getElem? (i := 59) rfl))) (mvT hZ (hw _ (List.mem_of_getElem? (i := 60) rfl))) (mvT hZ (hw _ (List.mem_of_getElem? (i := 61) rfl))) (mvT hZ (hw _ (List.mem_of_getElem? (i := 9) rfl))) (mvT hZ (hw _ (List.mem_of_getElem? (i := 62) rfl))) (by decide) (backOf (W := 1) (rm11 l Z A0 hw [] cap p1  h4 n0 Zh4 (hslot)) hZ (hw _ (List.mem_of_getElem? (i := 62) rfl)) (hw _ (List.mem_of_getElem? (i := 9) rfl)) (by decide) (by decide)) (g := (mkF m 36 #[.val (.ref a0), .val (.int p1), .val (.long q2), .second] [(.int p1), (.int cap), (.ref a0)])) rfl (by rw [hml]; rfl) (argsL := [(.int cap), (.int p1)]) (rest := [(.ref a0)]) (lenOf pd_1 rfl) rfl (by show 2 * 0 + _ ≤ _; exact Nat.le_of_eq rfl) (hb hby d7_36) (fun _ _ => ⟨rfl, eh18, (by decide : 0 + 0 ≤ _), (by decide : 0 + 0 ≤ _)⟩)
    dsimp only [Pt.U, Pt.locs, Pt.cells, Pt.slots] at X19 l19 y19 z19 st19 hQ19
    subst y19 z19
    obtain ⟨rfl, N19q, eh19⟩ := hQ19
    have N19 : Fr n0 L19 := by rw [l19]; exact Fr.app N18 N19q
    clear l19
    obtain ⟨gw, h_gw⟩ : ∃ z : Int32, z = (own_grow cap p1) := ⟨_, rfl⟩
    have hgb : cap.toInt = 4 ∧ p1.toInt < gw.toInt ∧ gw.toInt ≤ 256 := by rw [h_gw]; exact ⟨by rw [hgr.1]; decide, hgr.2.2⟩
    have hrne : ¬ (gw = cap) := by intro q; rw [q] at hgb; omega
    have hrle : 0 ≤ cap.toInt ∧ cap.toInt ≤ gw.toInt ∧ gw.toInt ≤ 256 := by omega
    have hgw : p1 < gw := by rw [Int32.lt_iff_toInt_lt]; omega
    obtain ⟨cq20, q20, q20'⟩ := E_a0.cell
    obtain ⟨_, _, ⟨T20, L20, k20, n20⟩, -, X20, ⟨Lc20, hQ20, l20, y20, z20⟩, st20⟩ := X19.privateBack hx (y := (⟨"com/example/wadjet/wadjet/storage/IntegerChunk", "resize", "(I)V"⟩ : MethodName)) hown (mvT hZ (hw _ (List.mem_of_getElem? (i := 78) rfl))) (mvT hZ (hw _ (List.mem_of_getElem? (i := 79) rfl))) (own_selP hZ (hw _ (List.mem_of_getElem? (i := 1) rfl)) (hw _ (List.mem_of_getElem? (i := 80) rfl)) (hw _ (List.mem_of_getElem? (i := 79) rfl)) (by decide)) (Cond.privateMethod_at (mvP hZ (hw _ (List.mem_of_getElem? (i := 80) rfl)) (args := #[]))) (mvT hZ (hw _ (List.mem_of_getElem? (i := 81) rfl))) (by decide) (backOf (W := 0) (rm16 l Z A0 hw [] a0 gw (.long q2) (.int (nar .boolean (1 : Int32))) mi wi (.ref nl) nr kn cap vs h4 n0 Zh4 E_a0 F_width_a0 F_base_a0 F_based_a0 F_narrow_a0 F_middle_a0 F_wide_a0 F_nulls_a0 V_nr g_a0 ne_nr_a0 (hrne) (hrle)) hZ (hw _ (List.mem_of_getElem? (i := 81) rfl)) (hw _ (List.mem_of_getElem? (i := 2) rfl)) (by decide) (by decide)) (g := (mkF m 39 #[.val (.ref a0), .val (.int p1), .val (.long q2), .second] [(.int gw), (.ref a0)])) rfl (by rw [hml]; rfl) (Steps.refl _) (a := a0) (by rw [eh19]; exact q20) q20' (argsL := [(.int gw)]) (rest := []) (lenOf pd_6 rfl) rfl (by show 2 * 0 + _ ≤ _; exact Nat.le_of_eq rfl) (hb hby d7_39) (fun _ _ => ⟨rfl, eh19, (by decide : 0 + 1 ≤ _), (by decide : 0 + 256 ≤ _)⟩)
    dsimp only [Pt.U, Pt.locs, Pt.cells, Pt.slots] at X20 l20 y20 z20 st20 hQ20
    subst y20 z20
    obtain ⟨b20, kb20, rfl, N20q, gs_b20, Kc20, P20_0, P20_1, P20_2, P20_3, P20_4, P20_5, P20_6, P20_7, P20_8⟩ := hQ20
    have N20 : Fr n0 L20 := by rw [l20]; exact Fr.app N19 N20q
    clear l20
    have ne_a0_b20 : a0 ≠ b20 := Nat.ne_of_lt (Nat.lt_of_lt_of_le E_a0.lt gs_b20.2)
    have ne_nr_b20 : nr ≠ b20 := Nat.ne_of_lt (Nat.lt_of_lt_of_le V_nr.lt gs_b20.2)
    have ne_nl_b20 : nl ≠ b20 := Nat.ne_of_lt (Nat.lt_of_lt_of_le V_nl.lt gs_b20.2)
    have sz_b20 : h0.size ≤ b20 := Nat.le_trans Kh4.1 gs_b20.2
    have E_a0 : Exa Z T20.heap a0 "com/example/wadjet/wadjet/storage/IntegerChunk" := E_a0.keep Kc20
    have V_nr : Arv Z T20.heap nr kn .byte cap vs (.int (0 : Int32)) := V_nr.keep Kc20 (ninS ne_nr_a0 nin0)
    have V_nl : Arv Z T20.heap nl kl .long (4 : Int32) (xs.map Value.long) (.long (0 : Int64)) := V_nl.keep Kc20 (ninS ne_nl_a0 nin0)
    have ZT20_heap : n0 ≤ T20.heap.size := Nat.le_trans Zh4 Kc20.1
    have KT20_heap : Keep h0 T20.heap [a0, nr, nl] := Kh4.trans Kc20 (allS (Or.inl (by simp)) all0)
    have E_a0 : Exa Z T20.heap a0 "com/example/wadjet/wadjet/storage/IntegerChunk" := P20_0
    have F_width_a0 : Fld Z T20.heap a0 "com/example/wadjet/wadjet/storage/IntegerChunk" "width" "I" (.int (1 : Int32)) := P20_1
    have F_base_a0 : Fld Z T20.heap a0 "com/example/wadjet/wadjet/storage/IntegerChunk" "base" "J" (.long q2) := P20_2
    have F_based_a0 : Fld Z T20.heap a0 "com/example/wadjet/wadjet/storage/IntegerChunk" "based" "Z" (.int (nar .boolean (1 : Int32))) := P20_3
    have F_narrow_a0 : Fld Z T20.heap a0 "com/example/wadjet/wadjet/storage/IntegerChunk" "narrow" "[B" (.ref b20) := P20_4
    have F_middle_a0 : Fld Z T20.heap a0 "com/example/wadjet/wadjet/storage/IntegerChunk" "middle" "[C" mi := P20_5
    have F_wide_a0 : Fld Z T20.heap a0 "com/example/wadjet/wadjet/storage/IntegerChunk" "wide" "[I" wi := P20_6
    have F_nulls_a0 : Fld Z T20.heap a0 "com/example/wadjet/wadjet/storage/IntegerChunk" "nulls" "[J" (.ref nl) := P20_7
    have V_b20 : Arv Z T20.heap b20 kb20 .byte gw (own_copy vs cap.toNatClampNeg gw.toNatClampNeg) (.int (0 : Int32)) := P20_8
    obtain ⟨T21, X21, e21, st21⟩ := getF X20 hx hZ hown (host := "") (Or.inl (hw _ (List.mem_of_getElem? (i := 14) rfl))) Via.refl rfl F_width_a0 (g := (mkF m 43 #[.val (.ref a0), .val (.int p1), .val (.long q2), .second] [(.ref a0)])) rfl rfl (hb hby d7_43)
    obtain ⟨T22, X22, e22, st22⟩ := getF X21 hx hZ hown (host := "") (Or.inl (hw _ (List.mem_of_getElem? (i := 47) rfl))) Via.refl e21 F_base_a0 (g := (mkF m 52 #[.val (.ref a0), .val (.int p1), .val (.long q2), .second] [(.ref a0), (.long q2)])) rfl rfl (hb hby d7_52)
    obtain ⟨T23, X23, e23, st23⟩ := getF X22 hx hZ hown (host := "") (Or.inl (hw _ (List.mem_of_getElem? (i := 47) rfl))) Via.refl e22 F_base_a0 (g := (mkF m 61 #[.val (.ref a0), .val (.int p1), .val (.long q2), .second] [(.ref a0), (.long q2)])) rfl rfl (hb hby d7_61)
    obtain ⟨T24, X24, e24, st24⟩ := getF X23 hx hZ hown (host := "") (Or.inl (hw _ (List.mem_of_getElem? (i := 14) rfl))) Via.refl e23 F_width_a0 (g := (mkF m 69 #[.val (.ref a0), .val (.int p1), .val (.long q2), .second] [(.ref a0), (.int (8 : Int32)), (.long (1 : Int64)), (.long (q2 - q2))])) rfl rfl (hb hby d7_69)
    obtain ⟨T25, X25, e25, st25⟩ := getF X24 hx hZ hown (host := "") (Or.inl (hw _ (List.mem_of_getElem? (i := 14) rfl))) Via.refl e24 F_width_a0 (g := (mkF m 85 #[.val (.ref a0), .val (.int p1), .val (.long q2), .second] [(.ref a0)])) rfl rfl (hb hby d7_85)
    obtain ⟨T26, X26, e26, st26⟩ := getF X25 hx hZ hown (host := "") (Or.inl (hw _ (List.mem_of_getElem? (i := 17) rfl))) Via.refl e25 F_narrow_a0 (g := (mkF m 93 #[.val (.ref a0), .val (.int p1), .val (.long q2), .second] [(.ref a0)])) rfl rfl (hb hby d7_93)
    obtain ⟨T27, X27, e27, st27⟩ := getF X26 hx hZ hown (host := "") (Or.inl (hw _ (List.mem_of_getElem? (i := 47) rfl))) Via.refl e26 F_base_a0 (g := (mkF m 99 #[.val (.ref a0), .val (.int p1), .val (.long q2), .second] [(.ref a0), (.long q2), (.int p1), (.ref b20)])) rfl rfl (hb hby d7_99)
    have V_b20 : Arv Z T20.heap b20 kb20 .byte gw ((own_copy vs cap.toNatClampNeg gw.toNatClampNeg) ++ List.replicate 256 (Value.int (0 : Int32))) (.int (0 : Int32)) := V_b20.pad (pad_rep (own_copy vs cap.toNatClampNeg gw.toNatClampNeg) (Value.int (0 : Int32)) 256)
    obtain ⟨cl28, Ar28, qq28, SS28, MM28, HH28, GG28⟩ := id V_b20
    have hin28 := inb_of SS28 ⟨own_nneg hp.1, hgw⟩
    obtain ⟨T28, h28, X28, e28, W28, st28⟩ := stB X27 hx hZ e27 Ar28 (j := p1) hin28 (g := (mkF m 105 #[.val (.ref a0), .val (.int p1), .val (.long q2), .second] [(.int (((q2 - q2).toInt32).toInt8.toInt32)), (.int p1), (.ref b20)])) rfl rfl (hb hby d7_105)
    have V_b20 : Arv Z h28 b20 kb20 .byte gw (((own_copy vs cap.toNatClampNeg gw.toNatClampNeg) ++ List.replicate 256 (Value.int (0 : Int32))).set p1.toNatClampNeg (.int (nar .byte (((q2 - q2).toInt32).toInt8.toInt32)))) (.int (0 : Int32)) := Arv.set Ar28 qq28 SS28 MM28 HH28 GG28 (fits_nar_byte _) W28 p1.toNatClampNeg rfl (by rw [List.length_append, List.length_replicate, own_tn]; omega)
    have E_a0 : Exa Z h28 a0 "com/example/wadjet/wadjet/storage/IntegerChunk" := E_a0.wr W28
    have V_nr : Arv Z h28 nr kn .byte cap vs (.int (0 : Int32)) := V_nr.other W28 ne_nr_b20
    have V_nl : Arv Z h28 nl kl .long (4 : Int32) (xs.map Value.long) (.long (0 : Int64)) := V_nl.other W28 ne_nl_b20
    have F_width_a0 : Fld Z h28 a0 "com/example/wadjet/wadjet/storage/IntegerChunk" "width" "I" (.int (1 : Int32)) := F_width_a0.other W28 (Or.inl ne_a0_b20)
    have F_base_a0 : Fld Z h28 a0 "com/example/wadjet/wadjet/storage/IntegerChunk" "base" "J" (.long q2) := F_base_a0.other W28 (Or.inl ne_a0_b20)
    have F_based_a0 : Fld Z h28 a0 "com/example/wadjet/wadjet/storage/IntegerChunk" "based" "Z" (.int (nar .boolean (1 : Int32))) := F_based_a0.other W28 (Or.inl ne_a0_b20)
    have F_narrow_a0 : Fld Z h28 a0 "com/example/wadjet/wadjet/storage/IntegerChunk" "narrow" "[B" (.ref b20) := F_narrow_a0.other W28 (Or.inl ne_a0_b20)
    have F_middle_a0 : Fld Z h28 a0 "com/example/wadjet/wadjet/storage/IntegerChunk" "middle" "[C" mi := F_middle_a0.other W28 (Or.inl ne_a0_b20)
    have F_wide_a0 : Fld Z h28 a0 "com/example/wadjet/wadjet/storage/IntegerChunk" "wide" "[I" wi := F_wide_a0.other W28 (Or.inl ne_a0_b20)
    have F_nulls_a0 : Fld Z h28 a0 "com/example/wadjet/wadjet/storage/IntegerChunk" "nulls" "[J" (.ref nl) := F_nulls_a0.other W28 (Or.inl ne_a0_b20)
    have Zh28 : n0 ≤ h28.size := Nat.le_trans ZT20_heap (Keep.of_wr W28).1
    have Kh28 : Keep h0 h28 [a0, nr, nl] := KT20_heap.wr W28 (Or.inr sz_b20)
    have N28 := Fr.snoc X28 N20 gs_b20.1
    obtain ⟨T29, X29, e29, st29⟩ := getF X28 hx hZ hown (host := "") (Or.inl (hw _ (List.mem_of_getElem? (i := 24) rfl))) Via.refl e28 F_nulls_a0 (g := (mkF m 143 #[.val (.ref a0), .val (.int p1), .val (.long q2), .second] [(.ref a0)])) rfl rfl (hb hby d7_143)
    obtain ⟨T30, X30, e30, st30⟩ := getF X29 hx hZ hown (host := "") (Or.inl (hw _ (List.mem_of_getElem? (i := 24) rfl))) Via.refl e29 F_nulls_a0 (g := (mkF m 150 #[.val (.ref a0), .val (.int p1), .val (.long q2), .second] [(.ref a0)])) rfl rfl (hb hby d7_150)
    obtain ⟨cl31, Ar31, -, SS31, MM31, HH31, -⟩ := id V_nl
    have hin31 := inb_of SS31 (own_i6 hp)
    have hat31 : cl31.slots[(((p1.toUInt32 >>> ((6 : Int32) &&& 31).toUInt32).toInt32)).toNatClampNeg]? = some (.long (xs.getD (own_ix p1) 0)) := HH31.at hin31 (own_mg xs _)
    obtain ⟨cl32, Ar32, qq32, SS32, MM32, HH32, GG32⟩ := id V_nl
    have hin32 := inb_of SS32 (own_i6 hp)
    obtain ⟨T32, h32, X32, e32, W32, st32⟩ := stJ X30 hx hZ e30 Ar32 (j := ((p1.toUInt32 >>> ((6 : Int32) &&& 31).toUInt32).toInt32)) hin32 (g := (mkF m 167 #[.val (.ref a0), .val (.int p1), .val (.long q2), .second] [(.long ((xs.getD (own_ix p1) 0) &&& (((1 : Int64) <<< (p1 &&& 0x3f).toInt64) ^^^ (-1 : Int64)))), (.int ((p1.toUInt32 >>> ((6 : Int32) &&& 31).toUInt32).toInt32)), (.ref nl)])) rfl rfl (hb hby d7_167)
    have V_nl : Arv Z h32 nl kl .long (4 : Int32) ((own_an xs p1).map Value.long) (.long (0 : Int64)) := by rw [own_an, List.map_set]; exact Arv.set Ar32 qq32 SS32 MM32 HH32 GG32 rfl W32 (own_ix p1) rfl (own_ixl hx4 hp)
    have E_a0 : Exa Z h32 a0 "com/example/wadjet/wadjet/storage/IntegerChunk" := E_a0.wr W32
    have V_nr : Arv Z h32 nr kn .byte cap vs (.int (0 : Int32)) := V_nr.other W32 ne_nr_nl
    have F_width_a0 : Fld Z h32 a0 "com/example/wadjet/wadjet/storage/IntegerChunk" "width" "I" (.int (1 : Int32)) := F_width_a0.other W32 (Or.inl (Ne.symm ne_nl_a0))
    have F_base_a0 : Fld Z h32 a0 "com/example/wadjet/wadjet/storage/IntegerChunk" "base" "J" (.long q2) := F_base_a0.other W32 (Or.inl (Ne.symm ne_nl_a0))
    have F_based_a0 : Fld Z h32 a0 "com/example/wadjet/wadjet/storage/IntegerChunk" "based" "Z" (.int (nar .boolean (1 : Int32))) := F_based_a0.other W32 (Or.inl (Ne.symm ne_nl_a0))
    have F_narrow_a0 : Fld Z h32 a0 "com/example/wadjet/wadjet/storage/IntegerChunk" "narrow" "[B" (.ref b20) := F_narrow_a0.other W32 (Or.inl (Ne.symm ne_nl_a0))
    have F_middle_a0 : Fld Z h32 a0 "com/example/wadjet/wadjet/storage/IntegerChunk" "middle" "[C" mi := F_middle_a0.other W32 (Or.inl (Ne.symm ne_nl_a0))
    have F_wide_a0 : Fld Z h32 a0 "com/example/wadjet/wadjet/storage/IntegerChunk" "wide" "[I" wi := F_wide_a0.other W32 (Or.inl (Ne.symm ne_nl_a0))
    have F_nulls_a0 : Fld Z h32 a0 "com/example/wadjet/wadjet/storage/IntegerChunk" "nulls" "[J" (.ref nl) := F_nulls_a0.other W32 (Or.inl (Ne.symm ne_nl_a0))
    have V_b20 : Arv Z h32 b20 kb20 .byte gw (((own_copy vs cap.toNatClampNeg gw.toNatClampNeg) ++ List.replicate 256 (Value.int (0 : Int32))).set p1.toNatClampNeg (.int (nar .byte (((q2 - q2).toInt32).toInt8.toInt32)))) (.int (0 : Int32)) := V_b20.other W32 (Ne.symm ne_nl_b20)
    have Zh32 : n0 ≤ h32.size := Nat.le_trans Zh28 (Keep.of_wr W32).1
    have Kh32 : Keep h0 h32 [a0, nr, nl] := Kh28.wr W32 (Or.inl (by simp))
    have N32 := Fr.snoc X32 N28 g_nl
    obtain ⟨fs, hr, hrun, hended, hW, hsame⟩ := X32.leave (v := none) (fun _ => rfl)
    refine ⟨_, _, pre0 _ ?_, hrun, hended, _, _, rfl, ?_, ⟨_, rfl⟩, hW, hsame.mono (by decide) (by decide)⟩
    · show Steps p.tables e below (s₁.setTop (mkF m 0 #[.val (.ref a0), .val (.int p1), .val (.long q2), .second] [])) _
      refine XS.lloadN X0.here hx rfl (hb hby d7_0) rfl ?_
      show Steps p.tables e below (s₁.setTop (mkF m 1 #[.val (.ref a0), .val (.int p1), .val (.long q2), .second] [(.long q2)])) _
      refine st1 _ ?_
      show Steps p.tables e below (T1.setTop (mkF m 4 #[.val (.ref a0), .val (.int p1), .val (.long q2), .second] [(.int (q2.toInt32))])) _
      refine XS.pop X1.here hx rfl (hb hby d7_4) rfl rfl ?_
      show Steps p.tables e below (T1.setTop (mkF m 5 #[.val (.ref a0), .val (.int p1), .val (.long q2), .second] [])) _
      refine XS.aloadN X1.here hx rfl (hb hby d7_5) rfl rfl ?_
      show Steps p.tables e below (T1.setTop (mkF m 6 #[.val (.ref a0), .val (.int p1), .val (.long q2), .second] [(.ref a0)])) _
      refine st2 _ ?_
      show Steps p.tables e below (T2.setTop (mkF m 9 #[.val (.ref a0), .val (.int p1), .val (.long q2), .second] [(.int (0 : Int32))])) _
      refine XS.ifNo X2.here hx rfl (hb hby d7_9) rfl ((if0 _ _).trans (teq (by decide : (0 : Int32) = (0 : Int32))).2) ?_
      show Steps p.tables e below (T2.setTop (mkF m 12 #[.val (.ref a0), .val (.int p1), .val (.long q2), .second] [])) _
      refine XS.aloadN X2.here hx rfl (hb hby d7_12) rfl rfl ?_
      show Steps p.tables e below (T2.setTop (mkF m 13 #[.val (.ref a0), .val (.int p1), .val (.long q2), .second] [(.ref a0)])) _
      refine XS.lloadN X2.here hx rfl (hb hby d7_13) rfl ?_
      show Steps p.tables e below (T2.setTop (mkF m 14 #[.val (.ref a0), .val (.int p1), .val (.long q2), .second] [(.long q2), (.ref a0)])) _
      refine st3 _ ?_
      show Steps p.tables e below (T3.setTop (mkF m 17 #[.val (.ref a0), .val (.int p1), .val (.long q2), .second] [])) _
      refine XS.aloadN X3.here hx rfl (hb hby d7_17) rfl rfl ?_
      show Steps p.tables e below (T3.setTop (mkF m 18 #[.val (.ref a0), .val (.int p1), .val (.long q2), .second] [(.ref a0)])) _
      refine XS.iconst X3.here hx rfl (hb hby d7_18) ?_
      show Steps p.tables e below (T3.setTop (mkF m 19 #[.val (.ref a0), .val (.int p1), .val (.long q2), .second] [(.int (1 : Int32)), (.ref a0)])) _
      refine st4 _ ?_
      show Steps p.tables e below (T4.setTop (mkF m 22 #[.val (.ref a0), .val (.int p1), .val (.long q2), .second] [])) _
      refine XS.iloadN X4.here hx rfl (hb hby d7_22) rfl ?_
      show Steps p.tables e below (T4.setTop (mkF m 23 #[.val (.ref a0), .val (.int p1), .val (.long q2), .second] [(.int p1)])) _
      refine XS.aloadN X4.here hx rfl (hb hby d7_23) rfl rfl ?_
      show Steps p.tables e below (T4.setTop (mkF m 24 #[.val (.ref a0), .val (.int p1), .val (.long q2), .second] [(.ref a0), (.int p1)])) _
      refine st5.trans ?_
      show Steps p.tables e below (T5.setTop (mkF m 27 #[.val (.ref a0), .val (.int p1), .val (.long q2), .second] [(.int cap), (.int p1)])) _
      refine XS.icmpNo X5.here hx rfl (hb hby d7_27) rfl (flt hc27).1 ?_
      show Steps p.tables e below (T5.setTop (mkF m 30 #[.val (.ref a0), .val (.int p1), .val (.long q2), .second] [])) _
      refine XS.aloadN X5.here hx rfl (hb hby d7_30) rfl rfl ?_
      show Steps p.tables e below (T5.setTop (mkF m 31 #[.val (.ref a0), .val (.int p1), .val (.long q2), .second] [(.ref a0)])) _
      refine XS.aloadN X5.here hx rfl (hb hby d7_31) rfl rfl ?_
      show Steps p.tables e below (T5.setTop (mkF m 32 #[.val (.ref a0), .val (.int p1), .val (.long q2), .second] [(.ref a0), (.ref a0)])) _
      refine st18.trans ?_
      show Steps p.tables e below (T18.setTop (mkF m 35 #[.val (.ref a0), .val (.int p1), .val (.long q2), .second] [(.int cap), (.ref a0)])) _
      refine XS.iloadN X18.here hx rfl (hb hby d7_35) rfl ?_
      show Steps p.tables e below (T18.setTop (mkF m 36 #[.val (.ref a0), .val (.int p1), .val (.long q2), .second] [(.int p1), (.int cap), (.ref a0)])) _
      refine st19 _ ?_
      show Steps p.tables e below (T19.setTop (mkF m 39 #[.val (.ref a0), .val (.int p1), .val (.long q2), .second] [(.int (own_grow cap p1)), (.ref a0)])) _
      rw [← h_gw]
      show Steps p.tables e below (T19.setTop (mkF m 39 #[.val (.ref a0), .val (.int p1), .val (.long q2), .second] [(.int gw), (.ref a0)])) _
      refine st20.trans ?_
      show Steps p.tables e below (T20.setTop (mkF m 42 #[.val (.ref a0), .val (.int p1), .val (.long q2), .second] [])) _
      refine XS.aloadN X20.here hx rfl (hb hby d7_42) rfl rfl ?_
      show Steps p.tables e below (T20.setTop (mkF m 43 #[.val (.ref a0), .val (.int p1), .val (.long q2), .second] [(.ref a0)])) _
      refine st21 _ ?_
      show Steps p.tables e below (T21.setTop (mkF m 46 #[.val (.ref a0), .val (.int p1), .val (.long q2), .second] [(.int (1 : Int32))])) _
      refine XS.iconst X21.here hx rfl (hb hby d7_46) ?_
      show Steps p.tables e below (T21.setTop (mkF m 47 #[.val (.ref a0), .val (.int p1), .val (.long q2), .second] [(.int (4 : Int32)), (.int (1 : Int32))])) _
      refine XS.icmpNo X21.here hx rfl (hb hby d7_47) rfl (tlt (by decide : (1 : Int32) < (4 : Int32))).2.1 ?_
      show Steps p.tables e below (T21.setTop (mkF m 50 #[.val (.ref a0), .val (.int p1), .val (.long q2), .second] [])) _
      refine XS.lloadN X21.here hx rfl (hb hby d7_50) rfl ?_
      show Steps p.tables e below (T21.setTop (mkF m 51 #[.val (.ref a0), .val (.int p1), .val (.long q2), .second] [(.long q2)])) _
      refine XS.aloadN X21.here hx rfl (hb hby d7_51) rfl rfl ?_
      show Steps p.tables e below (T21.setTop (mkF m 52 #[.val (.ref a0), .val (.int p1), .val (.long q2), .second] [(.ref a0), (.long q2)])) _
      refine st22 _ ?_
      show Steps p.tables e below (T22.setTop (mkF m 55 #[.val (.ref a0), .val (.int p1), .val (.long q2), .second] [(.long q2), (.long q2)])) _
      refine XS.lcmp X22.here hx rfl (hb hby d7_55) rfl ?_
      show Steps p.tables e below (T22.setTop (mkF m 56 #[.val (.ref a0), .val (.int p1), .val (.long q2), .second] [(.int (lcmpW q2 q2))])) _
      refine XS.ifNo X22.here hx rfl (hb hby d7_56) rfl ((if0 _ _).trans (flt (mt (lw_lt _ _).mp (Int64.lt_irrefl : ¬ (q2 < q2)))).1) ?_
      show Steps p.tables e below (T22.setTop (mkF m 59 #[.val (.ref a0), .val (.int p1), .val (.long q2), .second] [])) _
      refine XS.lloadN X22.here hx rfl (hb hby d7_59) rfl ?_
      show Steps p.tables e below (T22.setTop (mkF m 60 #[.val (.ref a0), .val (.int p1), .val (.long q2), .second] [(.long q2)])) _
      refine XS.aloadN X22.here hx rfl (hb hby d7_60) rfl rfl ?_
      show Steps p.tables e below (T22.setTop (mkF m 61 #[.val (.ref a0), .val (.int p1), .val (.long q2), .second] [(.ref a0), (.long q2)])) _
      refine st23 _ ?_
      show Steps p.tables e below (T23.setTop (mkF m 64 #[.val (.ref a0), .val (.int p1), .val (.long q2), .second] [(.long q2), (.long q2)])) _
      refine XS.lsub X23.here hx rfl (hb hby d7_64) rfl ?_
      show Steps p.tables e below (T23.setTop (mkF m 65 #[.val (.ref a0), .val (.int p1), .val (.long q2), .second] [(.long (q2 - q2))])) _
      refine XS.lconst X23.here hx rfl (hb hby d7_65) ?_
      show Steps p.tables e below (T23.setTop (mkF m 66 #[.val (.ref a0), .val (.int p1), .val (.long q2), .second] [(.long (1 : Int64)), (.long (q2 - q2))])) _
      refine XS.bipush X23.here hx rfl (hb hby d7_66) ?_
      show Steps p.tables e below (T23.setTop (mkF m 68 #[.val (.ref a0), .val (.int p1), .val (.long q2), .second] [(.int (8 : Int32)), (.long (1 : Int64)), (.long (q2 - q2))])) _
      refine XS.aloadN X23.here hx rfl (hb hby d7_68) rfl rfl ?_
      show Steps p.tables e below (T23.setTop (mkF m 69 #[.val (.ref a0), .val (.int p1), .val (.long q2), .second] [(.ref a0), (.int (8 : Int32)), (.long (1 : Int64)), (.long (q2 - q2))])) _
      refine st24 _ ?_
      show Steps p.tables e below (T24.setTop (mkF m 72 #[.val (.ref a0), .val (.int p1), .val (.long q2), .second] [(.int (1 : Int32)), (.int (8 : Int32)), (.long (1 : Int64)), (.long (q2 - q2))])) _
      refine XS.imul X24.here hx rfl (hb hby d7_72) rfl ?_
      show Steps p.tables e below (T24.setTop (mkF m 73 #[.val (.ref a0), .val (.int p1), .val (.long q2), .second] [(.int ((8 : Int32) * (1 : Int32))), (.long (1 : Int64)), (.long (q2 - q2))])) _
      refine XS.lshl X24.here hx rfl (hb hby d7_73) rfl ?_
      show Steps p.tables e below (T24.setTop (mkF m 74 #[.val (.ref a0), .val (.int p1), .val (.long q2), .second] [(.long ((1 : Int64) <<< (((8 : Int32) * (1 : Int32)) &&& 0x3f).toInt64)), (.long (q2 - q2))])) _
      refine XS.lcmp X24.here hx rfl (hb hby d7_74) rfl ?_
      show Steps p.tables e below (T24.setTop (mkF m 75 #[.val (.ref a0), .val (.int p1), .val (.long q2), .second] [(.int (lcmpW (q2 - q2) ((1 : Int64) <<< (((8 : Int32) * (1 : Int32)) &&& 0x3f).toInt64)))])) _
      refine XS.ifYes X24.here hx rfl (pc0 := 75) (pc' := 84) rfl (hb hby d7_75) rfl ((if0 _ _).trans (tlt ((lw_lt _ _).mpr (own_lt8 q2 : (q2 - q2) < ((1 : Int64) <<< (((8 : Int32) * (1 : Int32)) &&& 0x3f).toInt64)))).1) (by decide) (by decide) ?_
      show Steps p.tables e below (T24.setTop (mkF m 84 #[.val (.ref a0), .val (.int p1), .val (.long q2), .second] [])) _
      refine XS.aloadN X24.here hx rfl (hb hby d7_84) rfl rfl ?_
      show Steps p.tables e below (T24.setTop (mkF m 85 #[.val (.ref a0), .val (.int p1), .val (.long q2), .second] [(.ref a0)])) _
      refine st25 _ ?_
      show Steps p.tables e below (T25.setTop (mkF m 88 #[.val (.ref a0), .val (.int p1), .val (.long q2), .second] [(.int (1 : Int32))])) _
      refine XS.iconst X25.here hx rfl (hb hby d7_88) ?_
      show Steps p.tables e below (T25.setTop (mkF m 89 #[.val (.ref a0), .val (.int p1), .val (.long q2), .second] [(.int (1 : Int32)), (.int (1 : Int32))])) _
      refine XS.icmpNo X25.here hx rfl (hb hby d7_89) rfl (teq (by decide : (1 : Int32) = (1 : Int32))).2 ?_
      show Steps p.tables e below (T25.setTop (mkF m 92 #[.val (.ref a0), .val (.int p1), .val (.long q2), .second] [])) _
      refine XS.aloadN X25.here hx rfl (hb hby d7_92) rfl rfl ?_
      show Steps p.tables e below (T25.setTop (mkF m 93 #[.val (.ref a0), .val (.int p1), .val (.long q2), .second] [(.ref a0)])) _
      refine st26 _ ?_
      show Steps p.tables e below (T26.setTop (mkF m 96 #[.val (.ref a0), .val (.int p1), .val (.long q2), .second] [(.ref b20)])) _
      refine XS.iloadN X26.here hx rfl (hb hby d7_96) rfl ?_
      show Steps p.tables e below (T26.setTop (mkF m 97 #[.val (.ref a0), .val (.int p1), .val (.long q2), .second] [(.int p1), (.ref b20)])) _
      refine XS.lloadN X26.here hx rfl (hb hby d7_97) rfl ?_
      show Steps p.tables e below (T26.setTop (mkF m 98 #[.val (.ref a0), .val (.int p1), .val (.long q2), .second] [(.long q2), (.int p1), (.ref b20)])) _
      refine XS.aloadN X26.here hx rfl (hb hby d7_98) rfl rfl ?_
      show Steps p.tables e below (T26.setTop (mkF m 99 #[.val (.ref a0), .val (.int p1), .val (.long q2), .second] [(.ref a0), (.long q2), (.int p1), (.ref b20)])) _
      refine st27 _ ?_
      show Steps p.tables e below (T27.setTop (mkF m 102 #[.val (.ref a0), .val (.int p1), .val (.long q2), .second] [(.long q2), (.long q2), (.int p1), (.ref b20)])) _
      refine XS.lsub X27.here hx rfl (hb hby d7_102) rfl ?_
      show Steps p.tables e below (T27.setTop (mkF m 103 #[.val (.ref a0), .val (.int p1), .val (.long q2), .second] [(.long (q2 - q2)), (.int p1), (.ref b20)])) _
      refine XS.l2i X27.here hx rfl (hb hby d7_103) rfl ?_
      show Steps p.tables e below (T27.setTop (mkF m 104 #[.val (.ref a0), .val (.int p1), .val (.long q2), .second] [(.int ((q2 - q2).toInt32)), (.int p1), (.ref b20)])) _
      refine XS.i2b X27.here hx rfl (hb hby d7_104) rfl ?_
      show Steps p.tables e below (T27.setTop (mkF m 105 #[.val (.ref a0), .val (.int p1), .val (.long q2), .second] [(.int (((q2 - q2).toInt32).toInt8.toInt32)), (.int p1), (.ref b20)])) _
      refine st28 _ ?_
      show Steps p.tables e below (T28.setTop (mkF m 106 #[.val (.ref a0), .val (.int p1), .val (.long q2), .second] [])) _
      refine XS.goto X28.here hx rfl (pc0 := 106) (pc' := 142) rfl (hb hby d7_106) (by decide) (by decide) ?_
      show Steps p.tables e below (T28.setTop (mkF m 142 #[.val (.ref a0), .val (.int p1), .val (.long q2), .second] [])) _
      refine XS.aloadN X28.here hx rfl (hb hby d7_142) rfl rfl ?_
      show Steps p.tables e below (T28.setTop (mkF m 143 #[.val (.ref a0), .val (.int p1), .val (.long q2), .second] [(.ref a0)])) _
      refine st29 _ ?_
      show Steps p.tables e below (T29.setTop (mkF m 146 #[.val (.ref a0), .val (.int p1), .val (.long q2), .second] [(.ref nl)])) _
      refine XS.ifnullNo X29.here hx rfl (hb hby d7_146) rfl ?_
      show Steps p.tables e below (T29.setTop (mkF m 149 #[.val (.ref a0), .val (.int p1), .val (.long q2), .second] [])) _
      refine XS.aloadN X29.here hx rfl (hb hby d7_149) rfl rfl ?_
      show Steps p.tables e below (T29.setTop (mkF m 150 #[.val (.ref a0), .val (.int p1), .val (.long q2), .second] [(.ref a0)])) _
      refine st30 _ ?_
      show Steps p.tables e below (T30.setTop (mkF m 153 #[.val (.ref a0), .val (.int p1), .val (.long q2), .second] [(.ref nl)])) _
      refine XS.iloadN X30.here hx rfl (hb hby d7_153) rfl ?_
      show Steps p.tables e below (T30.setTop (mkF m 154 #[.val (.ref a0), .val (.int p1), .val (.long q2), .second] [(.int p1), (.ref nl)])) _
      refine XS.bipush X30.here hx rfl (hb hby d7_154) ?_
      show Steps p.tables e below (T30.setTop (mkF m 156 #[.val (.ref a0), .val (.int p1), .val (.long q2), .second] [(.int (6 : Int32)), (.int p1), (.ref nl)])) _
      refine XS.iushr X30.here hx rfl (hb hby d7_156) rfl ?_
      show Steps p.tables e below (T30.setTop (mkF m 157 #[.val (.ref a0), .val (.int p1), .val (.long q2), .second] [(.int ((p1.toUInt32 >>> ((6 : Int32) &&& 31).toUInt32).toInt32)), (.ref nl)])) _
      refine XT.dup2 X30.here hx rfl (hb hby d7_157) rfl rfl rfl ?_
      show Steps p.tables e below (T30.setTop (mkF m 158 #[.val (.ref a0), .val (.int p1), .val (.long q2), .second] [(.int ((p1.toUInt32 >>> ((6 : Int32) &&& 31).toUInt32).toInt32)), (.ref nl), (.int ((p1.toUInt32 >>> ((6 : Int32) &&& 31).toUInt32).toInt32)), (.ref nl)])) _
      refine X30.laload hx (j := ((p1.toUInt32 >>> ((6 : Int32) &&& 31).toUInt32).toInt32)) (v := (.long (xs.getD (own_ix p1) 0))) (by rw [e30]; exact Ar31.1) (State.isArrayOf_alike hZ.alike Ar31.2.1) Ar31.2.2 hin31 hat31 (g := (mkF m 158 #[.val (.ref a0), .val (.int p1), .val (.long q2), .second] [(.int ((p1.toUInt32 >>> ((6 : Int32) &&& 31).toUInt32).toInt32)), (.ref nl), (.int ((p1.toUInt32 >>> ((6 : Int32) &&& 31).toUInt32).toInt32)), (.ref nl)])) rfl rfl (hb hby d7_158) _ ?_
      show Steps p.tables e below (T30.setTop (mkF m 159 #[.val (.ref a0), .val (.int p1), .val (.long q2), .second] [(.long (xs.getD (own_ix p1) 0)), (.int ((p1.toUInt32 >>> ((6 : Int32) &&& 31).toUInt32).toInt32)), (.ref nl)])) _
      refine XS.lconst X30.here hx rfl (hb hby d7_159) ?_
      show Steps p.tables e below (T30.setTop (mkF m 160 #[.val (.ref a0), .val (.int p1), .val (.long q2), .second] [(.long (1 : Int64)), (.long (xs.getD (own_ix p1) 0)), (.int ((p1.toUInt32 >>> ((6 : Int32) &&& 31).toUInt32).toInt32)), (.ref nl)])) _
      refine XS.iloadN X30.here hx rfl (hb hby d7_160) rfl ?_
      show Steps p.tables e below (T30.setTop (mkF m 161 #[.val (.ref a0), .val (.int p1), .val (.long q2), .second] [(.int p1), (.long (1 : Int64)), (.long (xs.getD (own_ix p1) 0)), (.int ((p1.toUInt32 >>> ((6 : Int32) &&& 31).toUInt32).toInt32)), (.ref nl)])) _
      refine XS.lshl X30.here hx rfl (hb hby d7_161) rfl ?_
      show Steps p.tables e below (T30.setTop (mkF m 162 #[.val (.ref a0), .val (.int p1), .val (.long q2), .second] [(.long ((1 : Int64) <<< (p1 &&& 0x3f).toInt64)), (.long (xs.getD (own_ix p1) 0)), (.int ((p1.toUInt32 >>> ((6 : Int32) &&& 31).toUInt32).toInt32)), (.ref nl)])) _
      refine X30.ldc2Long hx hown (mvT hZ (hw _ (List.mem_of_getElem? (i := 53) rfl))) (g := (mkF m 162 #[.val (.ref a0), .val (.int p1), .val (.long q2), .second] [(.long ((1 : Int64) <<< (p1 &&& 0x3f).toInt64)), (.long (xs.getD (own_ix p1) 0)), (.int ((p1.toUInt32 >>> ((6 : Int32) &&& 31).toUInt32).toInt32)), (.ref nl)])) rfl (hb hby d7_162) _ ?_
      show Steps p.tables e below (T30.setTop (mkF m 165 #[.val (.ref a0), .val (.int p1), .val (.long q2), .second] [(.long (-1 : Int64)), (.long ((1 : Int64) <<< (p1 &&& 0x3f).toInt64)), (.long (xs.getD (own_ix p1) 0)), (.int ((p1.toUInt32 >>> ((6 : Int32) &&& 31).toUInt32).toInt32)), (.ref nl)])) _
      refine XS.lxor X30.here hx rfl (hb hby d7_165) rfl ?_
      show Steps p.tables e below (T30.setTop (mkF m 166 #[.val (.ref a0), .val (.int p1), .val (.long q2), .second] [(.long (((1 : Int64) <<< (p1 &&& 0x3f).toInt64) ^^^ (-1 : Int64))), (.long (xs.getD (own_ix p1) 0)), (.int ((p1.toUInt32 >>> ((6 : Int32) &&& 31).toUInt32).toInt32)), (.ref nl)])) _
      refine XS.land X30.here hx rfl (hb hby d7_166) rfl ?_
      show Steps p.tables e below (T30.setTop (mkF m 167 #[.val (.ref a0), .val (.int p1), .val (.long q2), .second] [(.long ((xs.getD (own_ix p1) 0) &&& (((1 : Int64) <<< (p1 &&& 0x3f).toInt64) ^^^ (-1 : Int64)))), (.int ((p1.toUInt32 >>> ((6 : Int32) &&& 31).toUInt32).toInt32)), (.ref nl)])) _
      refine st32 _ ?_
      show Steps p.tables e below (T32.setTop (mkF m 168 #[.val (.ref a0), .val (.int p1), .val (.long q2), .second] [])) _
      exact X32.returnOut hx Bd.returns (hb hby d7_168) hr
    · show Qwi Z a0 p1 (some xs) h0 n0 _ T32.heap _
      rw [e32]
      exact ⟨rfl, N32, Kh32.1, gw, g_a0, E_a0, _, _, _, _, _, _, _, gs_b20.1, (Ne.symm ne_a0_b20), F_width_a0, F_base_a0, F_based_a0, F_narrow_a0, F_middle_a0, F_wide_a0, F_nulls_a0, V_b20, own_NuS g_nl ne_nl_a0 (Ne.symm ne_nl_b20) (own_an_len hx4) V_nl⟩
theorem rm7 (l : Launch) (Z : State) (A0 : Array Value) (hw : ∀ d ∈ tables_1, d.before A0 Z = true) (ws : List Jvm.Cond) (a0 : Addr) (p1 : Int32) (q2 : Int64) (cap : Int32) (st : Option (List Int64)) (h0 : Heap) (n0 : Nat) (Z0 : n0 ≤ h0.size) (hp : 0 ≤ p1.toInt ∧ p1.toInt < 256) (hv : (q2.toInt32.toInt64) = q2) (hcap : cap.toInt = 4 ∨ cap.toInt = 256) (HK : own_K Z h0 n0 a0 cap (0 : Int32) st) :
    MetFree l (⟨"com/example/wadjet/wadjet/storage/IntegerChunk", "writeInteger", "(IJ)V"⟩ : MethodName) (head1 (Jvm.Cond.code (⟨"com/example/wadjet/wadjet/storage/IntegerChunk", "writeInteger", "(IJ)V"⟩ : MethodName) prog_257_method_8_code 4 none :: ws) ({ frames := 3, cells := 1, slots := 256, locals := 46 } : Room)) (fun a U => a = #[(.ref a0), (.int p1), (.long q2)] ∧ Z.Warmed39 U.vm ∧ U.heap = h0) (fun _ _ _ _ _ => True) (fun _ U o U' => ∃ v L, o = .returned v ∧ Qwi Z a0 p1 st h0 n0 v U'.heap L ∧ FrameEnd U o U' L ({ frames := 3, cells := 1, slots := 256, locals := 46 } : Room).cells ({ frames := 3, cells := 1, slots := 256, locals := 46 } : Room).slots) := by
  cases st with
  | none => exact rm7_n l Z A0 hw ws a0 p1 q2 cap h0 n0 Z0 hp hv hcap HK
  | some xs => exact rm7_s l Z A0 hw ws a0 p1 q2 cap xs h0 n0 Z0 hp hv hcap HK
def own_exp (p0 p1 p2 p3 p4 p5 : Int32) : Int32 := (nar .boolean (if (p5 &&& (16 : Int32)) = (0 : Int32) then (if (p5 &&& (4 : Int32)) = (0 : Int32) then (if (p5 &&& (2 : Int32)) = (0 : Int32) then (if (p5 &&& (1 : Int32)) = (0 : Int32) then (0 : Int32) else (if p0 = p1 then (1 : Int32) else (0 : Int32))) else (if p0 = p2 then (1 : Int32) else (if (p5 &&& (1 : Int32)) = (0 : Int32) then (0 : Int32) else (if p0 = p1 then (1 : Int32) else (0 : Int32))))) else (if p0 = p3 then (0 : Int32) else (if (p5 &&& (2 : Int32)) = (0 : Int32) then (if (p5 &&& (1 : Int32)) = (0 : Int32) then (0 : Int32) else (if p0 = p1 then (1 : Int32) else (0 : Int32))) else (if p0 = p2 then (1 : Int32) else (if (p5 &&& (1 : Int32)) = (0 : Int32) then (0 : Int32) else (if p0 = p1 then (1 : Int32) else (0 : Int32))))))) else (if p0 = p4 then (0 : Int32) else (if (p5 &&& (4 : Int32)) = (0 : Int32) then (if (p5 &&& (2 : Int32)) = (0 : Int32) then (if (p5 &&& (1 : Int32)) = (0 : Int32) then (0 : Int32) else (if p0 = p1 then (1 : Int32) else (0 : Int32))) else (if p0 = p2 then (1 : Int32) else (if (p5 &&& (1 : Int32)) = (0 : Int32) then (0 : Int32) else (if p0 = p1 then (1 : Int32) else (0 : Int32))))) else (if p0 = p3 then (0 : Int32) else (if (p5 &&& (2 : Int32)) = (0 : Int32) then (if (p5 &&& (1 : Int32)) = (0 : Int32) then (0 : Int32) else (if p0 = p1 then (1 : Int32) else (0 : Int32))) else (if p0 = p2 then (1 : Int32) else (if (p5 &&& (1 : Int32)) = (0 : Int32) then (0 : Int32) else (if p0 = p1 then (1 : Int32) else (0 : Int32))))))))))
theorem d6_0 : decode method_2_code 0 = .ok (.iconst 0, 1) := by decide +kernel
theorem d6_1 : decode method_2_code 1 = .ok (.istore 6, 2) := by decide +kernel
theorem d6_3 : decode method_2_code 3 = .ok (.iload 5, 2) := by decide +kernel
theorem d6_5 : decode method_2_code 5 = .ok (.iconst 1, 1) := by decide +kernel
theorem d6_6 : decode method_2_code 6 = .ok (.iand, 1) := by decide +kernel
theorem d6_7 : decode method_2_code 7 = .ok (.ifCond .eq 11, 3) := by decide +kernel
theorem d6_10 : decode method_2_code 10 = .ok (.iload_n 0, 1) := by decide +kernel
theorem d6_11 : decode method_2_code 11 = .ok (.iload_n 1, 1) := by decide +kernel
theorem d6_12 : decode method_2_code 12 = .ok (.if_icmp .ne 6, 3) := by decide +kernel
theorem d6_15 : decode method_2_code 15 = .ok (.iconst 1, 1) := by decide +kernel
theorem d6_16 : decode method_2_code 16 = .ok (.istore 6, 2) := by decide +kernel
theorem d6_18 : decode method_2_code 18 = .ok (.iload 5, 2) := by decide +kernel
theorem d6_20 : decode method_2_code 20 = .ok (.iconst 2, 1) := by decide +kernel
theorem d6_21 : decode method_2_code 21 = .ok (.iand, 1) := by decide +kernel
theorem d6_22 : decode method_2_code 22 = .ok (.ifCond .eq 11, 3) := by decide +kernel
theorem d6_25 : decode method_2_code 25 = .ok (.iload_n 0, 1) := by decide +kernel
theorem d6_26 : decode method_2_code 26 = .ok (.iload_n 2, 1) := by decide +kernel
theorem d6_27 : decode method_2_code 27 = .ok (.if_icmp .ne 6, 3) := by decide +kernel
theorem d6_30 : decode method_2_code 30 = .ok (.iconst 1, 1) := by decide +kernel
theorem d6_31 : decode method_2_code 31 = .ok (.istore 6, 2) := by decide +kernel
theorem d6_33 : decode method_2_code 33 = .ok (.iload 5, 2) := by decide +kernel
theorem d6_35 : decode method_2_code 35 = .ok (.iconst 4, 1) := by decide +kernel
theorem d6_36 : decode method_2_code 36 = .ok (.iand, 1) := by decide +kernel
theorem d6_37 : decode method_2_code 37 = .ok (.ifCond .eq 11, 3) := by decide +kernel
theorem d6_40 : decode method_2_code 40 = .ok (.iload_n 0, 1) := by decide +kernel
theorem d6_41 : decode method_2_code 41 = .ok (.iload_n 3, 1) := by decide +kernel
theorem d6_42 : decode method_2_code 42 = .ok (.if_icmp .ne 6, 3) := by decide +kernel
theorem d6_45 : decode method_2_code 45 = .ok (.iconst 0, 1) := by decide +kernel
theorem d6_46 : decode method_2_code 46 = .ok (.istore 6, 2) := by decide +kernel
theorem d6_48 : decode method_2_code 48 = .ok (.iload 5, 2) := by decide +kernel
theorem d6_50 : decode method_2_code 50 = .ok (.bipush 16, 2) := by decide +kernel
theorem d6_52 : decode method_2_code 52 = .ok (.iand, 1) := by decide +kernel
theorem d6_53 : decode method_2_code 53 = .ok (.ifCond .eq 12, 3) := by decide +kernel
theorem d6_56 : decode method_2_code 56 = .ok (.iload_n 0, 1) := by decide +kernel
theorem d6_57 : decode method_2_code 57 = .ok (.iload 4, 2) := by decide +kernel
theorem d6_59 : decode method_2_code 59 = .ok (.if_icmp .ne 6, 3) := by decide +kernel
theorem d6_62 : decode method_2_code 62 = .ok (.iconst 0, 1) := by decide +kernel
theorem d6_63 : decode method_2_code 63 = .ok (.istore 6, 2) := by decide +kernel
theorem d6_65 : decode method_2_code 65 = .ok (.iload 6, 2) := by decide +kernel
theorem d6_67 : decode method_2_code 67 = .ok (.ireturn, 1) := by decide +kernel
theorem pn_6 : plainName "com/example/wadjet/wadjet/storage/IntegerChunkIsNullPinLaw" = true := by first | (simp [plainName, overriddenIn]; done) | decide +kernel
theorem ef_rm6 (m : MethodId) (p0 : Int32) (p1 : Int32) (p2 : Int32) (p3 : Int32) (p4 : Int32) (p5 : Int32) : entryFrame m #[(.int p0), (.int p1), (.int p2), (.int p3), (.int p4), (.int p5)] 7 = mkF m 0 #[.val (.int p0), .val (.int p1), .val (.int p2), .val (.int p3), .val (.int p4), .val (.int p5), .unset] [] := by first | (simp [entryFrame, mkF, argsToLocals, Value.category]; done) | rfl
def Qrm6 (Z : State) (p0 : Int32) (p1 : Int32) (p2 : Int32) (p3 : Int32) (p4 : Int32) (p5 : Int32) (h0 : Heap) (n0 : Nat) (v : Option Value) (h : Heap) (L : List Loc) : Prop := v = some (.int (own_exp p0 p1 p2 p3 p4 p5)) ∧ Fr n0 L ∧ h = h0
set_option maxRecDepth 65536 in
set_option maxHeartbeats 40000000 in
theorem rm6 (l : Launch) (Z : State) (A0 : Array Value) (hw : ∀ d ∈ tables_1, d.before A0 Z = true) (ws : List Jvm.Cond) (p0 : Int32) (p1 : Int32) (p2 : Int32) (p3 : Int32) (p4 : Int32) (p5 : Int32) (h0 : Heap) (n0 : Nat) (Z0 : n0 ≤ h0.size) :
    MetFree l (⟨"com/example/wadjet/wadjet/storage/IntegerChunkIsNullPinLaw", "expected", "(IIIIII)Z"⟩ : MethodName) (head1 (Jvm.Cond.code (⟨"com/example/wadjet/wadjet/storage/IntegerChunkIsNullPinLaw", "expected", "(IIIIII)Z"⟩ : MethodName) method_2_code 7 (some .boolean) :: ws) ({ frames := 0, cells := 0, slots := 0, locals := 0 } : Room)) (fun a U => a = #[(.int p0), (.int p1), (.int p2), (.int p3), (.int p4), (.int p5)] ∧ Z.Warmed39 U.vm ∧ U.heap = h0) (fun _ _ _ _ _ => True) (fun _ U o U' => ∃ v L, o = .returned v ∧ Qrm6 Z p0 p1 p2 p3 p4 p5 h0 n0 v U'.heap L ∧ FrameEnd U o U' L ({ frames := 0, cells := 0, slots := 0, locals := 0 } : Room).cells ({ frames := 0, cells := 0, slots := 0, locals := 0 } : Room).slots) := by
  refine MetFree.of_bodySF (plainFor_of_name pn_6) hisR ?_
  intro p e s m args below meth c s₁ Bd hml0 hP hK
  obtain ⟨rfl, hZ, hh⟩ := hP
  have hx := Bd.exec
  have hby := Bd.bytes
  have hml : c.maxLocals = 7 := hml0
  have hown : s.vm.findClass "com/example/wadjet/wadjet/storage/IntegerChunkIsNullPinLaw" = some m.cls := findClass_of_methodNamed Bd.named
  have hnm := (name_of_methodNamed Bd.named Bd.method).1
  have X0 : Stand p l e ({ frames := 0, cells := 0, slots := 0, locals := 0 } : Room) s m #[(.int p0), (.int p1), (.int p2), (.int p3), (.int p4), (.int p5)] below meth c s₁ [] 0 0 := Stand.of_body Bd
  have e0 : s₁.heap = h0 := by rw [← hh, Bd.state]; rfl
  have N0 := Fr.nil n0
  have K0 : Keep h0 h0 [] := Keep.refl _ _
  have pre0 : ∀ t, Steps p.tables e below (s₁.setTop (mkF m 0 #[.val (.int p0), .val (.int p1), .val (.int p2), .val (.int p3), .val (.int p4), .val (.int p5), .unset] [])) t → Steps p.tables e below (s₁.setTop (entryFrame m #[(.int p0), (.int p1), (.int p2), (.int p3), (.int p4), (.int p5)] 7)) t := fun t k => castTop (ef_rm6 m p0 p1 p2 p3 p4 p5) k
  obtain ⟨fs, hr, hrun, hended, hW, hsame⟩ := X0.leave (v := some (.int (nar .boolean (if (p5 &&& (16 : Int32)) = (0 : Int32) then (if (p5 &&& (4 : Int32)) = (0 : Int32) then (if (p5 &&& (2 : Int32)) = (0 : Int32) then (if (p5 &&& (1 : Int32)) = (0 : Int32) then (0 : Int32) else (if p0 = p1 then (1 : Int32) else (0 : Int32))) else (if p0 = p2 then (1 : Int32) else (if (p5 &&& (1 : Int32)) = (0 : Int32) then (0 : Int32) else (if p0 = p1 then (1 : Int32) else (0 : Int32))))) else (if p0 = p3 then (0 : Int32) else (if (p5 &&& (2 : Int32)) = (0 : Int32) then (if (p5 &&& (1 : Int32)) = (0 : Int32) then (0 : Int32) else (if p0 = p1 then (1 : Int32) else (0 : Int32))) else (if p0 = p2 then (1 : Int32) else (if (p5 &&& (1 : Int32)) = (0 : Int32) then (0 : Int32) else (if p0 = p1 then (1 : Int32) else (0 : Int32))))))) else (if p0 = p4 then (0 : Int32) else (if (p5 &&& (4 : Int32)) = (0 : Int32) then (if (p5 &&& (2 : Int32)) = (0 : Int32) then (if (p5 &&& (1 : Int32)) = (0 : Int32) then (0 : Int32) else (if p0 = p1 then (1 : Int32) else (0 : Int32))) else (if p0 = p2 then (1 : Int32) else (if (p5 &&& (1 : Int32)) = (0 : Int32) then (0 : Int32) else (if p0 = p1 then (1 : Int32) else (0 : Int32))))) else (if p0 = p3 then (0 : Int32) else (if (p5 &&& (2 : Int32)) = (0 : Int32) then (if (p5 &&& (1 : Int32)) = (0 : Int32) then (0 : Int32) else (if p0 = p1 then (1 : Int32) else (0 : Int32))) else (if p0 = p2 then (1 : Int32) else (if (p5 &&& (1 : Int32)) = (0 : Int32) then (0 : Int32) else (if p0 = p1 then (1 : Int32) else (0 : Int32)))))))))))) (fun h => by rw [Bd.returns] at h; cases h)
  refine ⟨_, _, pre0 _ ?_, hrun, hended, _, _, rfl, ?_, ⟨_, rfl⟩, hW, hsame.mono (by decide) (by decide)⟩
  · show Steps p.tables e below (s₁.setTop (mkF m 0 #[.val (.int p0), .val (.int p1), .val (.int p2), .val (.int p3), .val (.int p4), .val (.int p5), .unset] [])) _
    refine XS.iconst X0.here hx rfl (hb hby d6_0) ?_
    show Steps p.tables e below (s₁.setTop (mkF m 1 #[.val (.int p0), .val (.int p1), .val (.int p2), .val (.int p3), .val (.int p4), .val (.int p5), .unset] [(.int (0 : Int32))])) _
    refine XS.istore X0.here hx rfl (hb hby d6_1) rfl (l' := #[.val (.int p0), .val (.int p1), .val (.int p2), .val (.int p3), .val (.int p4), .val (.int p5), .val (.int (0 : Int32))]) rfl ?_
    show Steps p.tables e below (s₁.setTop (mkF m 3 #[.val (.int p0), .val (.int p1), .val (.int p2), .val (.int p3), .val (.int p4), .val (.int p5), .val (.int (0 : Int32))] [])) _
    refine XS.iload X0.here hx rfl (hb hby d6_3) rfl ?_
    show Steps p.tables e below (s₁.setTop (mkF m 5 #[.val (.int p0), .val (.int p1), .val (.int p2), .val (.int p3), .val (.int p4), .val (.int p5), .val (.int (0 : Int32))] [(.int p5)])) _
    refine XS.iconst X0.here hx rfl (hb hby d6_5) ?_
    show Steps p.tables e below (s₁.setTop (mkF m 6 #[.val (.int p0), .val (.int p1), .val (.int p2), .val (.int p3), .val (.int p4), .val (.int p5), .val (.int (0 : Int32))] [(.int (1 : Int32)), (.int p5)])) _
    refine XS.iand X0.here hx rfl (hb hby d6_6) rfl ?_
    refine own_via (s₁.setTop (mkF m 18 #[.val (.int p0), .val (.int p1), .val (.int p2), .val (.int p3), .val (.int p4), .val (.int p5), .val (.int (if (p5 &&& (1 : Int32)) = (0 : Int32) then (0 : Int32) else (if p0 = p1 then (1 : Int32) else (0 : Int32))))] [])) (fun k => ?_) ?_
    · by_cases hc7 : (p5 &&& (1 : Int32)) = (0 : Int32)
      · show Steps p.tables e below (s₁.setTop (mkF m 7 #[.val (.int p0), .val (.int p1), .val (.int p2), .val (.int p3), .val (.int p4), .val (.int p5), .val (.int (0 : Int32))] [(.int (p5 &&& (1 : Int32)))])) _
        refine XS.ifYes X0.here hx rfl (pc0 := 7) (pc' := 18) rfl (hb hby d6_7) rfl ((if0 _ _).trans (teq hc7).1) (by decide) (by decide) ?_
        try simp only [if_pos hc7] at k
        exact k
      · show Steps p.tables e below (s₁.setTop (mkF m 7 #[.val (.int p0), .val (.int p1), .val (.int p2), .val (.int p3), .val (.int p4), .val (.int p5), .val (.int (0 : Int32))] [(.int (p5 &&& (1 : Int32)))])) _
        refine XS.ifNo X0.here hx rfl (hb hby d6_7) rfl ((if0 _ _).trans (feq hc7).1) ?_
        show Steps p.tables e below (s₁.setTop (mkF m 10 #[.val (.int p0), .val (.int p1), .val (.int p2), .val (.int p3), .val (.int p4), .val (.int p5), .val (.int (0 : Int32))] [])) _
        refine XS.iloadN X0.here hx rfl (hb hby d6_10) rfl ?_
        show Steps p.tables e below (s₁.setTop (mkF m 11 #[.val (.int p0), .val (.int p1), .val (.int p2), .val (.int p3), .val (.int p4), .val (.int p5), .val (.int (0 : Int32))] [(.int p0)])) _
        refine XS.iloadN X0.here hx rfl (hb hby d6_11) rfl ?_
        by_cases hc12 : p0 = p1
        · show Steps p.tables e below (s₁.setTop (mkF m 12 #[.val (.int p0), .val (.int p1), .val (.int p2), .val (.int p3), .val (.int p4), .val (.int p5), .val (.int (0 : Int32))] [(.int p1), (.int p0)])) _
          refine XS.icmpNo X0.here hx rfl (hb hby d6_12) rfl (teq hc12).2 ?_
          show Steps p.tables e below (s₁.setTop (mkF m 15 #[.val (.int p0), .val (.int p1), .val (.int p2), .val (.int p3), .val (.int p4), .val (.int p5), .val (.int (0 : Int32))] [])) _
          refine XS.iconst X0.here hx rfl (hb hby d6_15) ?_
          show Steps p.tables e below (s₁.setTop (mkF m 16 #[.val (.int p0), .val (.int p1), .val (.int p2), .val (.int p3), .val (.int p4), .val (.int p5), .val (.int (0 : Int32))] [(.int (1 : Int32))])) _
          refine XS.istore X0.here hx rfl (hb hby d6_16) rfl (l' := #[.val (.int p0), .val (.int p1), .val (.int p2), .val (.int p3), .val (.int p4), .val (.int p5), .val (.int (1 : Int32))]) rfl ?_
          try simp only [if_neg hc7, if_pos hc12] at k
          exact k
        · show Steps p.tables e below (s₁.setTop (mkF m 12 #[.val (.int p0), .val (.int p1), .val (.int p2), .val (.int p3), .val (.int p4), .val (.int p5), .val (.int (0 : Int32))] [(.int p1), (.int p0)])) _
          refine XS.icmpYes X0.here hx rfl (pc0 := 12) (pc' := 18) rfl (hb hby d6_12) rfl (feq hc12).2 (by decide) (by decide) ?_
          try simp only [if_neg hc7, if_neg hc12] at k
          exact k
    show Steps p.tables e below (s₁.setTop (mkF m 18 #[.val (.int p0), .val (.int p1), .val (.int p2), .val (.int p3), .val (.int p4), .val (.int p5), .val (.int (if (p5 &&& (1 : Int32)) = (0 : Int32) then (0 : Int32) else (if p0 = p1 then (1 : Int32) else (0 : Int32))))] [])) _
    refine XS.iload X0.here hx rfl (hb hby d6_18) rfl ?_
    show Steps p.tables e below (s₁.setTop (mkF m 20 #[.val (.int p0), .val (.int p1), .val (.int p2), .val (.int p3), .val (.int p4), .val (.int p5), .val (.int (if (p5 &&& (1 : Int32)) = (0 : Int32) then (0 : Int32) else (if p0 = p1 then (1 : Int32) else (0 : Int32))))] [(.int p5)])) _
    refine XS.iconst X0.here hx rfl (hb hby d6_20) ?_
    show Steps p.tables e below (s₁.setTop (mkF m 21 #[.val (.int p0), .val (.int p1), .val (.int p2), .val (.int p3), .val (.int p4), .val (.int p5), .val (.int (if (p5 &&& (1 : Int32)) = (0 : Int32) then (0 : Int32) else (if p0 = p1 then (1 : Int32) else (0 : Int32))))] [(.int (2 : Int32)), (.int p5)])) _
    refine XS.iand X0.here hx rfl (hb hby d6_21) rfl ?_
    refine own_via (s₁.setTop (mkF m 33 #[.val (.int p0), .val (.int p1), .val (.int p2), .val (.int p3), .val (.int p4), .val (.int p5), .val (.int (if (p5 &&& (2 : Int32)) = (0 : Int32) then (if (p5 &&& (1 : Int32)) = (0 : Int32) then (0 : Int32) else (if p0 = p1 then (1 : Int32) else (0 : Int32))) else (if p0 = p2 then (1 : Int32) else (if (p5 &&& (1 : Int32)) = (0 : Int32) then (0 : Int32) else (if p0 = p1 then (1 : Int32) else (0 : Int32))))))] [])) (fun k => ?_) ?_
    · by_cases hc22 : (p5 &&& (2 : Int32)) = (0 : Int32)
      · show Steps p.tables e below (s₁.setTop (mkF m 22 #[.val (.int p0), .val (.int p1), .val (.int p2), .val (.int p3), .val (.int p4), .val (.int p5), .val (.int (if (p5 &&& (1 : Int32)) = (0 : Int32) then (0 : Int32) else (if p0 = p1 then (1 : Int32) else (0 : Int32))))] [(.int (p5 &&& (2 : Int32)))])) _
        refine XS.ifYes X0.here hx rfl (pc0 := 22) (pc' := 33) rfl (hb hby d6_22) rfl ((if0 _ _).trans (teq hc22).1) (by decide) (by decide) ?_
        try simp only [if_pos hc22] at k
        exact k
      · show Steps p.tables e below (s₁.setTop (mkF m 22 #[.val (.int p0), .val (.int p1), .val (.int p2), .val (.int p3), .val (.int p4), .val (.int p5), .val (.int (if (p5 &&& (1 : Int32)) = (0 : Int32) then (0 : Int32) else (if p0 = p1 then (1 : Int32) else (0 : Int32))))] [(.int (p5 &&& (2 : Int32)))])) _
        refine XS.ifNo X0.here hx rfl (hb hby d6_22) rfl ((if0 _ _).trans (feq hc22).1) ?_
        show Steps p.tables e below (s₁.setTop (mkF m 25 #[.val (.int p0), .val (.int p1), .val (.int p2), .val (.int p3), .val (.int p4), .val (.int p5), .val (.int (if (p5 &&& (1 : Int32)) = (0 : Int32) then (0 : Int32) else (if p0 = p1 then (1 : Int32) else (0 : Int32))))] [])) _
        refine XS.iloadN X0.here hx rfl (hb hby d6_25) rfl ?_
        show Steps p.tables e below (s₁.setTop (mkF m 26 #[.val (.int p0), .val (.int p1), .val (.int p2), .val (.int p3), .val (.int p4), .val (.int p5), .val (.int (if (p5 &&& (1 : Int32)) = (0 : Int32) then (0 : Int32) else (if p0 = p1 then (1 : Int32) else (0 : Int32))))] [(.int p0)])) _
        refine XS.iloadN X0.here hx rfl (hb hby d6_26) rfl ?_
        by_cases hc27 : p0 = p2
        · show Steps p.tables e below (s₁.setTop (mkF m 27 #[.val (.int p0), .val (.int p1), .val (.int p2), .val (.int p3), .val (.int p4), .val (.int p5), .val (.int (if (p5 &&& (1 : Int32)) = (0 : Int32) then (0 : Int32) else (if p0 = p1 then (1 : Int32) else (0 : Int32))))] [(.int p2), (.int p0)])) _
          refine XS.icmpNo X0.here hx rfl (hb hby d6_27) rfl (teq hc27).2 ?_
          show Steps p.tables e below (s₁.setTop (mkF m 30 #[.val (.int p0), .val (.int p1), .val (.int p2), .val (.int p3), .val (.int p4), .val (.int p5), .val (.int (if (p5 &&& (1 : Int32)) = (0 : Int32) then (0 : Int32) else (if p0 = p1 then (1 : Int32) else (0 : Int32))))] [])) _
          refine XS.iconst X0.here hx rfl (hb hby d6_30) ?_
          show Steps p.tables e below (s₁.setTop (mkF m 31 #[.val (.int p0), .val (.int p1), .val (.int p2), .val (.int p3), .val (.int p4), .val (.int p5), .val (.int (if (p5 &&& (1 : Int32)) = (0 : Int32) then (0 : Int32) else (if p0 = p1 then (1 : Int32) else (0 : Int32))))] [(.int (1 : Int32))])) _
          refine XS.istore X0.here hx rfl (hb hby d6_31) rfl (l' := #[.val (.int p0), .val (.int p1), .val (.int p2), .val (.int p3), .val (.int p4), .val (.int p5), .val (.int (1 : Int32))]) rfl ?_
          try simp only [if_neg hc22, if_pos hc27] at k
          exact k
        · show Steps p.tables e below (s₁.setTop (mkF m 27 #[.val (.int p0), .val (.int p1), .val (.int p2), .val (.int p3), .val (.int p4), .val (.int p5), .val (.int (if (p5 &&& (1 : Int32)) = (0 : Int32) then (0 : Int32) else (if p0 = p1 then (1 : Int32) else (0 : Int32))))] [(.int p2), (.int p0)])) _
          refine XS.icmpYes X0.here hx rfl (pc0 := 27) (pc' := 33) rfl (hb hby d6_27) rfl (feq hc27).2 (by decide) (by decide) ?_
          try simp only [if_neg hc22, if_neg hc27] at k
          exact k
    show Steps p.tables e below (s₁.setTop (mkF m 33 #[.val (.int p0), .val (.int p1), .val (.int p2), .val (.int p3), .val (.int p4), .val (.int p5), .val (.int (if (p5 &&& (2 : Int32)) = (0 : Int32) then (if (p5 &&& (1 : Int32)) = (0 : Int32) then (0 : Int32) else (if p0 = p1 then (1 : Int32) else (0 : Int32))) else (if p0 = p2 then (1 : Int32) else (if (p5 &&& (1 : Int32)) = (0 : Int32) then (0 : Int32) else (if p0 = p1 then (1 : Int32) else (0 : Int32))))))] [])) _
    refine XS.iload X0.here hx rfl (hb hby d6_33) rfl ?_
    show Steps p.tables e below (s₁.setTop (mkF m 35 #[.val (.int p0), .val (.int p1), .val (.int p2), .val (.int p3), .val (.int p4), .val (.int p5), .val (.int (if (p5 &&& (2 : Int32)) = (0 : Int32) then (if (p5 &&& (1 : Int32)) = (0 : Int32) then (0 : Int32) else (if p0 = p1 then (1 : Int32) else (0 : Int32))) else (if p0 = p2 then (1 : Int32) else (if (p5 &&& (1 : Int32)) = (0 : Int32) then (0 : Int32) else (if p0 = p1 then (1 : Int32) else (0 : Int32))))))] [(.int p5)])) _
    refine XS.iconst X0.here hx rfl (hb hby d6_35) ?_
    show Steps p.tables e below (s₁.setTop (mkF m 36 #[.val (.int p0), .val (.int p1), .val (.int p2), .val (.int p3), .val (.int p4), .val (.int p5), .val (.int (if (p5 &&& (2 : Int32)) = (0 : Int32) then (if (p5 &&& (1 : Int32)) = (0 : Int32) then (0 : Int32) else (if p0 = p1 then (1 : Int32) else (0 : Int32))) else (if p0 = p2 then (1 : Int32) else (if (p5 &&& (1 : Int32)) = (0 : Int32) then (0 : Int32) else (if p0 = p1 then (1 : Int32) else (0 : Int32))))))] [(.int (4 : Int32)), (.int p5)])) _
    refine XS.iand X0.here hx rfl (hb hby d6_36) rfl ?_
    refine own_via (s₁.setTop (mkF m 48 #[.val (.int p0), .val (.int p1), .val (.int p2), .val (.int p3), .val (.int p4), .val (.int p5), .val (.int (if (p5 &&& (4 : Int32)) = (0 : Int32) then (if (p5 &&& (2 : Int32)) = (0 : Int32) then (if (p5 &&& (1 : Int32)) = (0 : Int32) then (0 : Int32) else (if p0 = p1 then (1 : Int32) else (0 : Int32))) else (if p0 = p2 then (1 : Int32) else (if (p5 &&& (1 : Int32)) = (0 : Int32) then (0 : Int32) else (if p0 = p1 then (1 : Int32) else (0 : Int32))))) else (if p0 = p3 then (0 : Int32) else (if (p5 &&& (2 : Int32)) = (0 : Int32) then (if (p5 &&& (1 : Int32)) = (0 : Int32) then (0 : Int32) else (if p0 = p1 then (1 : Int32) else (0 : Int32))) else (if p0 = p2 then (1 : Int32) else (if (p5 &&& (1 : Int32)) = (0 : Int32) then (0 : Int32) else (if p0 = p1 then (1 : Int32) else (0 : Int32))))))))] [])) (fun k => ?_) ?_
    · by_cases hc37 : (p5 &&& (4 : Int32)) = (0 : Int32)
      · show Steps p.tables e below (s₁.setTop (mkF m 37 #[.val (.int p0), .val (.int p1), .val (.int p2), .val (.int p3), .val (.int p4), .val (.int p5), .val (.int (if (p5 &&& (2 : Int32)) = (0 : Int32) then (if (p5 &&& (1 : Int32)) = (0 : Int32) then (0 : Int32) else (if p0 = p1 then (1 : Int32) else (0 : Int32))) else (if p0 = p2 then (1 : Int32) else (if (p5 &&& (1 : Int32)) = (0 : Int32) then (0 : Int32) else (if p0 = p1 then (1 : Int32) else (0 : Int32))))))] [(.int (p5 &&& (4 : Int32)))])) _
        refine XS.ifYes X0.here hx rfl (pc0 := 37) (pc' := 48) rfl (hb hby d6_37) rfl ((if0 _ _).trans (teq hc37).1) (by decide) (by decide) ?_
        try simp only [if_pos hc37] at k
        exact k
      · show Steps p.tables e below (s₁.setTop (mkF m 37 #[.val (.int p0), .val (.int p1), .val (.int p2), .val (.int p3), .val (.int p4), .val (.int p5), .val (.int (if (p5 &&& (2 : Int32)) = (0 : Int32) then (if (p5 &&& (1 : Int32)) = (0 : Int32) then (0 : Int32) else (if p0 = p1 then (1 : Int32) else (0 : Int32))) else (if p0 = p2 then (1 : Int32) else (if (p5 &&& (1 : Int32)) = (0 : Int32) then (0 : Int32) else (if p0 = p1 then (1 : Int32) else (0 : Int32))))))] [(.int (p5 &&& (4 : Int32)))])) _
        refine XS.ifNo X0.here hx rfl (hb hby d6_37) rfl ((if0 _ _).trans (feq hc37).1) ?_
        show Steps p.tables e below (s₁.setTop (mkF m 40 #[.val (.int p0), .val (.int p1), .val (.int p2), .val (.int p3), .val (.int p4), .val (.int p5), .val (.int (if (p5 &&& (2 : Int32)) = (0 : Int32) then (if (p5 &&& (1 : Int32)) = (0 : Int32) then (0 : Int32) else (if p0 = p1 then (1 : Int32) else (0 : Int32))) else (if p0 = p2 then (1 : Int32) else (if (p5 &&& (1 : Int32)) = (0 : Int32) then (0 : Int32) else (if p0 = p1 then (1 : Int32) else (0 : Int32))))))] [])) _
        refine XS.iloadN X0.here hx rfl (hb hby d6_40) rfl ?_
        show Steps p.tables e below (s₁.setTop (mkF m 41 #[.val (.int p0), .val (.int p1), .val (.int p2), .val (.int p3), .val (.int p4), .val (.int p5), .val (.int (if (p5 &&& (2 : Int32)) = (0 : Int32) then (if (p5 &&& (1 : Int32)) = (0 : Int32) then (0 : Int32) else (if p0 = p1 then (1 : Int32) else (0 : Int32))) else (if p0 = p2 then (1 : Int32) else (if (p5 &&& (1 : Int32)) = (0 : Int32) then (0 : Int32) else (if p0 = p1 then (1 : Int32) else (0 : Int32))))))] [(.int p0)])) _
        refine XS.iloadN X0.here hx rfl (hb hby d6_41) rfl ?_
        by_cases hc42 : p0 = p3
        · show Steps p.tables e below (s₁.setTop (mkF m 42 #[.val (.int p0), .val (.int p1), .val (.int p2), .val (.int p3), .val (.int p4), .val (.int p5), .val (.int (if (p5 &&& (2 : Int32)) = (0 : Int32) then (if (p5 &&& (1 : Int32)) = (0 : Int32) then (0 : Int32) else (if p0 = p1 then (1 : Int32) else (0 : Int32))) else (if p0 = p2 then (1 : Int32) else (if (p5 &&& (1 : Int32)) = (0 : Int32) then (0 : Int32) else (if p0 = p1 then (1 : Int32) else (0 : Int32))))))] [(.int p3), (.int p0)])) _
          refine XS.icmpNo X0.here hx rfl (hb hby d6_42) rfl (teq hc42).2 ?_
          show Steps p.tables e below (s₁.setTop (mkF m 45 #[.val (.int p0), .val (.int p1), .val (.int p2), .val (.int p3), .val (.int p4), .val (.int p5), .val (.int (if (p5 &&& (2 : Int32)) = (0 : Int32) then (if (p5 &&& (1 : Int32)) = (0 : Int32) then (0 : Int32) else (if p0 = p1 then (1 : Int32) else (0 : Int32))) else (if p0 = p2 then (1 : Int32) else (if (p5 &&& (1 : Int32)) = (0 : Int32) then (0 : Int32) else (if p0 = p1 then (1 : Int32) else (0 : Int32))))))] [])) _
          refine XS.iconst X0.here hx rfl (hb hby d6_45) ?_
          show Steps p.tables e below (s₁.setTop (mkF m 46 #[.val (.int p0), .val (.int p1), .val (.int p2), .val (.int p3), .val (.int p4), .val (.int p5), .val (.int (if (p5 &&& (2 : Int32)) = (0 : Int32) then (if (p5 &&& (1 : Int32)) = (0 : Int32) then (0 : Int32) else (if p0 = p1 then (1 : Int32) else (0 : Int32))) else (if p0 = p2 then (1 : Int32) else (if (p5 &&& (1 : Int32)) = (0 : Int32) then (0 : Int32) else (if p0 = p1 then (1 : Int32) else (0 : Int32))))))] [(.int (0 : Int32))])) _
          refine XS.istore X0.here hx rfl (hb hby d6_46) rfl (l' := #[.val (.int p0), .val (.int p1), .val (.int p2), .val (.int p3), .val (.int p4), .val (.int p5), .val (.int (0 : Int32))]) rfl ?_
          try simp only [if_neg hc37, if_pos hc42] at k
          exact k
        · show Steps p.tables e below (s₁.setTop (mkF m 42 #[.val (.int p0), .val (.int p1), .val (.int p2), .val (.int p3), .val (.int p4), .val (.int p5), .val (.int (if (p5 &&& (2 : Int32)) = (0 : Int32) then (if (p5 &&& (1 : Int32)) = (0 : Int32) then (0 : Int32) else (if p0 = p1 then (1 : Int32) else (0 : Int32))) else (if p0 = p2 then (1 : Int32) else (if (p5 &&& (1 : Int32)) = (0 : Int32) then (0 : Int32) else (if p0 = p1 then (1 : Int32) else (0 : Int32))))))] [(.int p3), (.int p0)])) _
          refine XS.icmpYes X0.here hx rfl (pc0 := 42) (pc' := 48) rfl (hb hby d6_42) rfl (feq hc42).2 (by decide) (by decide) ?_
          try simp only [if_neg hc37, if_neg hc42] at k
          exact k
    show Steps p.tables e below (s₁.setTop (mkF m 48 #[.val (.int p0), .val (.int p1), .val (.int p2), .val (.int p3), .val (.int p4), .val (.int p5), .val (.int (if (p5 &&& (4 : Int32)) = (0 : Int32) then (if (p5 &&& (2 : Int32)) = (0 : Int32) then (if (p5 &&& (1 : Int32)) = (0 : Int32) then (0 : Int32) else (if p0 = p1 then (1 : Int32) else (0 : Int32))) else (if p0 = p2 then (1 : Int32) else (if (p5 &&& (1 : Int32)) = (0 : Int32) then (0 : Int32) else (if p0 = p1 then (1 : Int32) else (0 : Int32))))) else (if p0 = p3 then (0 : Int32) else (if (p5 &&& (2 : Int32)) = (0 : Int32) then (if (p5 &&& (1 : Int32)) = (0 : Int32) then (0 : Int32) else (if p0 = p1 then (1 : Int32) else (0 : Int32))) else (if p0 = p2 then (1 : Int32) else (if (p5 &&& (1 : Int32)) = (0 : Int32) then (0 : Int32) else (if p0 = p1 then (1 : Int32) else (0 : Int32))))))))] [])) _
    refine XS.iload X0.here hx rfl (hb hby d6_48) rfl ?_
    show Steps p.tables e below (s₁.setTop (mkF m 50 #[.val (.int p0), .val (.int p1), .val (.int p2), .val (.int p3), .val (.int p4), .val (.int p5), .val (.int (if (p5 &&& (4 : Int32)) = (0 : Int32) then (if (p5 &&& (2 : Int32)) = (0 : Int32) then (if (p5 &&& (1 : Int32)) = (0 : Int32) then (0 : Int32) else (if p0 = p1 then (1 : Int32) else (0 : Int32))) else (if p0 = p2 then (1 : Int32) else (if (p5 &&& (1 : Int32)) = (0 : Int32) then (0 : Int32) else (if p0 = p1 then (1 : Int32) else (0 : Int32))))) else (if p0 = p3 then (0 : Int32) else (if (p5 &&& (2 : Int32)) = (0 : Int32) then (if (p5 &&& (1 : Int32)) = (0 : Int32) then (0 : Int32) else (if p0 = p1 then (1 : Int32) else (0 : Int32))) else (if p0 = p2 then (1 : Int32) else (if (p5 &&& (1 : Int32)) = (0 : Int32) then (0 : Int32) else (if p0 = p1 then (1 : Int32) else (0 : Int32))))))))] [(.int p5)])) _
    refine XS.bipush X0.here hx rfl (hb hby d6_50) ?_
    show Steps p.tables e below (s₁.setTop (mkF m 52 #[.val (.int p0), .val (.int p1), .val (.int p2), .val (.int p3), .val (.int p4), .val (.int p5), .val (.int (if (p5 &&& (4 : Int32)) = (0 : Int32) then (if (p5 &&& (2 : Int32)) = (0 : Int32) then (if (p5 &&& (1 : Int32)) = (0 : Int32) then (0 : Int32) else (if p0 = p1 then (1 : Int32) else (0 : Int32))) else (if p0 = p2 then (1 : Int32) else (if (p5 &&& (1 : Int32)) = (0 : Int32) then (0 : Int32) else (if p0 = p1 then (1 : Int32) else (0 : Int32))))) else (if p0 = p3 then (0 : Int32) else (if (p5 &&& (2 : Int32)) = (0 : Int32) then (if (p5 &&& (1 : Int32)) = (0 : Int32) then (0 : Int32) else (if p0 = p1 then (1 : Int32) else (0 : Int32))) else (if p0 = p2 then (1 : Int32) else (if (p5 &&& (1 : Int32)) = (0 : Int32) then (0 : Int32) else (if p0 = p1 then (1 : Int32) else (0 : Int32))))))))] [(.int (16 : Int32)), (.int p5)])) _
    refine XS.iand X0.here hx rfl (hb hby d6_52) rfl ?_
    refine own_via (s₁.setTop (mkF m 65 #[.val (.int p0), .val (.int p1), .val (.int p2), .val (.int p3), .val (.int p4), .val (.int p5), .val (.int (if (p5 &&& (16 : Int32)) = (0 : Int32) then (if (p5 &&& (4 : Int32)) = (0 : Int32) then (if (p5 &&& (2 : Int32)) = (0 : Int32) then (if (p5 &&& (1 : Int32)) = (0 : Int32) then (0 : Int32) else (if p0 = p1 then (1 : Int32) else (0 : Int32))) else (if p0 = p2 then (1 : Int32) else (if (p5 &&& (1 : Int32)) = (0 : Int32) then (0 : Int32) else (if p0 = p1 then (1 : Int32) else (0 : Int32))))) else (if p0 = p3 then (0 : Int32) else (if (p5 &&& (2 : Int32)) = (0 : Int32) then (if (p5 &&& (1 : Int32)) = (0 : Int32) then (0 : Int32) else (if p0 = p1 then (1 : Int32) else (0 : Int32))) else (if p0 = p2 then (1 : Int32) else (if (p5 &&& (1 : Int32)) = (0 : Int32) then (0 : Int32) else (if p0 = p1 then (1 : Int32) else (0 : Int32))))))) else (if p0 = p4 then (0 : Int32) else (if (p5 &&& (4 : Int32)) = (0 : Int32) then (if (p5 &&& (2 : Int32)) = (0 : Int32) then (if (p5 &&& (1 : Int32)) = (0 : Int32) then (0 : Int32) else (if p0 = p1 then (1 : Int32) else (0 : Int32))) else (if p0 = p2 then (1 : Int32) else (if (p5 &&& (1 : Int32)) = (0 : Int32) then (0 : Int32) else (if p0 = p1 then (1 : Int32) else (0 : Int32))))) else (if p0 = p3 then (0 : Int32) else (if (p5 &&& (2 : Int32)) = (0 : Int32) then (if (p5 &&& (1 : Int32)) = (0 : Int32) then (0 : Int32) else (if p0 = p1 then (1 : Int32) else (0 : Int32))) else (if p0 = p2 then (1 : Int32) else (if (p5 &&& (1 : Int32)) = (0 : Int32) then (0 : Int32) else (if p0 = p1 then (1 : Int32) else (0 : Int32))))))))))] [])) (fun k => ?_) ?_
    · by_cases hc53 : (p5 &&& (16 : Int32)) = (0 : Int32)
      · show Steps p.tables e below (s₁.setTop (mkF m 53 #[.val (.int p0), .val (.int p1), .val (.int p2), .val (.int p3), .val (.int p4), .val (.int p5), .val (.int (if (p5 &&& (4 : Int32)) = (0 : Int32) then (if (p5 &&& (2 : Int32)) = (0 : Int32) then (if (p5 &&& (1 : Int32)) = (0 : Int32) then (0 : Int32) else (if p0 = p1 then (1 : Int32) else (0 : Int32))) else (if p0 = p2 then (1 : Int32) else (if (p5 &&& (1 : Int32)) = (0 : Int32) then (0 : Int32) else (if p0 = p1 then (1 : Int32) else (0 : Int32))))) else (if p0 = p3 then (0 : Int32) else (if (p5 &&& (2 : Int32)) = (0 : Int32) then (if (p5 &&& (1 : Int32)) = (0 : Int32) then (0 : Int32) else (if p0 = p1 then (1 : Int32) else (0 : Int32))) else (if p0 = p2 then (1 : Int32) else (if (p5 &&& (1 : Int32)) = (0 : Int32) then (0 : Int32) else (if p0 = p1 then (1 : Int32) else (0 : Int32))))))))] [(.int (p5 &&& (16 : Int32)))])) _
        refine XS.ifYes X0.here hx rfl (pc0 := 53) (pc' := 65) rfl (hb hby d6_53) rfl ((if0 _ _).trans (teq hc53).1) (by decide) (by decide) ?_
        try simp only [if_pos hc53] at k
        exact k
      · show Steps p.tables e below (s₁.setTop (mkF m 53 #[.val (.int p0), .val (.int p1), .val (.int p2), .val (.int p3), .val (.int p4), .val (.int p5), .val (.int (if (p5 &&& (4 : Int32)) = (0 : Int32) then (if (p5 &&& (2 : Int32)) = (0 : Int32) then (if (p5 &&& (1 : Int32)) = (0 : Int32) then (0 : Int32) else (if p0 = p1 then (1 : Int32) else (0 : Int32))) else (if p0 = p2 then (1 : Int32) else (if (p5 &&& (1 : Int32)) = (0 : Int32) then (0 : Int32) else (if p0 = p1 then (1 : Int32) else (0 : Int32))))) else (if p0 = p3 then (0 : Int32) else (if (p5 &&& (2 : Int32)) = (0 : Int32) then (if (p5 &&& (1 : Int32)) = (0 : Int32) then (0 : Int32) else (if p0 = p1 then (1 : Int32) else (0 : Int32))) else (if p0 = p2 then (1 : Int32) else (if (p5 &&& (1 : Int32)) = (0 : Int32) then (0 : Int32) else (if p0 = p1 then (1 : Int32) else (0 : Int32))))))))] [(.int (p5 &&& (16 : Int32)))])) _
        refine XS.ifNo X0.here hx rfl (hb hby d6_53) rfl ((if0 _ _).trans (feq hc53).1) ?_
        show Steps p.tables e below (s₁.setTop (mkF m 56 #[.val (.int p0), .val (.int p1), .val (.int p2), .val (.int p3), .val (.int p4), .val (.int p5), .val (.int (if (p5 &&& (4 : Int32)) = (0 : Int32) then (if (p5 &&& (2 : Int32)) = (0 : Int32) then (if (p5 &&& (1 : Int32)) = (0 : Int32) then (0 : Int32) else (if p0 = p1 then (1 : Int32) else (0 : Int32))) else (if p0 = p2 then (1 : Int32) else (if (p5 &&& (1 : Int32)) = (0 : Int32) then (0 : Int32) else (if p0 = p1 then (1 : Int32) else (0 : Int32))))) else (if p0 = p3 then (0 : Int32) else (if (p5 &&& (2 : Int32)) = (0 : Int32) then (if (p5 &&& (1 : Int32)) = (0 : Int32) then (0 : Int32) else (if p0 = p1 then (1 : Int32) else (0 : Int32))) else (if p0 = p2 then (1 : Int32) else (if (p5 &&& (1 : Int32)) = (0 : Int32) then (0 : Int32) else (if p0 = p1 then (1 : Int32) else (0 : Int32))))))))] [])) _
        refine XS.iloadN X0.here hx rfl (hb hby d6_56) rfl ?_
        show Steps p.tables e below (s₁.setTop (mkF m 57 #[.val (.int p0), .val (.int p1), .val (.int p2), .val (.int p3), .val (.int p4), .val (.int p5), .val (.int (if (p5 &&& (4 : Int32)) = (0 : Int32) then (if (p5 &&& (2 : Int32)) = (0 : Int32) then (if (p5 &&& (1 : Int32)) = (0 : Int32) then (0 : Int32) else (if p0 = p1 then (1 : Int32) else (0 : Int32))) else (if p0 = p2 then (1 : Int32) else (if (p5 &&& (1 : Int32)) = (0 : Int32) then (0 : Int32) else (if p0 = p1 then (1 : Int32) else (0 : Int32))))) else (if p0 = p3 then (0 : Int32) else (if (p5 &&& (2 : Int32)) = (0 : Int32) then (if (p5 &&& (1 : Int32)) = (0 : Int32) then (0 : Int32) else (if p0 = p1 then (1 : Int32) else (0 : Int32))) else (if p0 = p2 then (1 : Int32) else (if (p5 &&& (1 : Int32)) = (0 : Int32) then (0 : Int32) else (if p0 = p1 then (1 : Int32) else (0 : Int32))))))))] [(.int p0)])) _
        refine XS.iload X0.here hx rfl (hb hby d6_57) rfl ?_
        by_cases hc59 : p0 = p4
        · show Steps p.tables e below (s₁.setTop (mkF m 59 #[.val (.int p0), .val (.int p1), .val (.int p2), .val (.int p3), .val (.int p4), .val (.int p5), .val (.int (if (p5 &&& (4 : Int32)) = (0 : Int32) then (if (p5 &&& (2 : Int32)) = (0 : Int32) then (if (p5 &&& (1 : Int32)) = (0 : Int32) then (0 : Int32) else (if p0 = p1 then (1 : Int32) else (0 : Int32))) else (if p0 = p2 then (1 : Int32) else (if (p5 &&& (1 : Int32)) = (0 : Int32) then (0 : Int32) else (if p0 = p1 then (1 : Int32) else (0 : Int32))))) else (if p0 = p3 then (0 : Int32) else (if (p5 &&& (2 : Int32)) = (0 : Int32) then (if (p5 &&& (1 : Int32)) = (0 : Int32) then (0 : Int32) else (if p0 = p1 then (1 : Int32) else (0 : Int32))) else (if p0 = p2 then (1 : Int32) else (if (p5 &&& (1 : Int32)) = (0 : Int32) then (0 : Int32) else (if p0 = p1 then (1 : Int32) else (0 : Int32))))))))] [(.int p4), (.int p0)])) _
          refine XS.icmpNo X0.here hx rfl (hb hby d6_59) rfl (teq hc59).2 ?_
          show Steps p.tables e below (s₁.setTop (mkF m 62 #[.val (.int p0), .val (.int p1), .val (.int p2), .val (.int p3), .val (.int p4), .val (.int p5), .val (.int (if (p5 &&& (4 : Int32)) = (0 : Int32) then (if (p5 &&& (2 : Int32)) = (0 : Int32) then (if (p5 &&& (1 : Int32)) = (0 : Int32) then (0 : Int32) else (if p0 = p1 then (1 : Int32) else (0 : Int32))) else (if p0 = p2 then (1 : Int32) else (if (p5 &&& (1 : Int32)) = (0 : Int32) then (0 : Int32) else (if p0 = p1 then (1 : Int32) else (0 : Int32))))) else (if p0 = p3 then (0 : Int32) else (if (p5 &&& (2 : Int32)) = (0 : Int32) then (if (p5 &&& (1 : Int32)) = (0 : Int32) then (0 : Int32) else (if p0 = p1 then (1 : Int32) else (0 : Int32))) else (if p0 = p2 then (1 : Int32) else (if (p5 &&& (1 : Int32)) = (0 : Int32) then (0 : Int32) else (if p0 = p1 then (1 : Int32) else (0 : Int32))))))))] [])) _
          refine XS.iconst X0.here hx rfl (hb hby d6_62) ?_
          show Steps p.tables e below (s₁.setTop (mkF m 63 #[.val (.int p0), .val (.int p1), .val (.int p2), .val (.int p3), .val (.int p4), .val (.int p5), .val (.int (if (p5 &&& (4 : Int32)) = (0 : Int32) then (if (p5 &&& (2 : Int32)) = (0 : Int32) then (if (p5 &&& (1 : Int32)) = (0 : Int32) then (0 : Int32) else (if p0 = p1 then (1 : Int32) else (0 : Int32))) else (if p0 = p2 then (1 : Int32) else (if (p5 &&& (1 : Int32)) = (0 : Int32) then (0 : Int32) else (if p0 = p1 then (1 : Int32) else (0 : Int32))))) else (if p0 = p3 then (0 : Int32) else (if (p5 &&& (2 : Int32)) = (0 : Int32) then (if (p5 &&& (1 : Int32)) = (0 : Int32) then (0 : Int32) else (if p0 = p1 then (1 : Int32) else (0 : Int32))) else (if p0 = p2 then (1 : Int32) else (if (p5 &&& (1 : Int32)) = (0 : Int32) then (0 : Int32) else (if p0 = p1 then (1 : Int32) else (0 : Int32))))))))] [(.int (0 : Int32))])) _
          refine XS.istore X0.here hx rfl (hb hby d6_63) rfl (l' := #[.val (.int p0), .val (.int p1), .val (.int p2), .val (.int p3), .val (.int p4), .val (.int p5), .val (.int (0 : Int32))]) rfl ?_
          try simp only [if_neg hc53, if_pos hc59] at k
          exact k
        · show Steps p.tables e below (s₁.setTop (mkF m 59 #[.val (.int p0), .val (.int p1), .val (.int p2), .val (.int p3), .val (.int p4), .val (.int p5), .val (.int (if (p5 &&& (4 : Int32)) = (0 : Int32) then (if (p5 &&& (2 : Int32)) = (0 : Int32) then (if (p5 &&& (1 : Int32)) = (0 : Int32) then (0 : Int32) else (if p0 = p1 then (1 : Int32) else (0 : Int32))) else (if p0 = p2 then (1 : Int32) else (if (p5 &&& (1 : Int32)) = (0 : Int32) then (0 : Int32) else (if p0 = p1 then (1 : Int32) else (0 : Int32))))) else (if p0 = p3 then (0 : Int32) else (if (p5 &&& (2 : Int32)) = (0 : Int32) then (if (p5 &&& (1 : Int32)) = (0 : Int32) then (0 : Int32) else (if p0 = p1 then (1 : Int32) else (0 : Int32))) else (if p0 = p2 then (1 : Int32) else (if (p5 &&& (1 : Int32)) = (0 : Int32) then (0 : Int32) else (if p0 = p1 then (1 : Int32) else (0 : Int32))))))))] [(.int p4), (.int p0)])) _
          refine XS.icmpYes X0.here hx rfl (pc0 := 59) (pc' := 65) rfl (hb hby d6_59) rfl (feq hc59).2 (by decide) (by decide) ?_
          try simp only [if_neg hc53, if_neg hc59] at k
          exact k
    show Steps p.tables e below (s₁.setTop (mkF m 65 #[.val (.int p0), .val (.int p1), .val (.int p2), .val (.int p3), .val (.int p4), .val (.int p5), .val (.int (if (p5 &&& (16 : Int32)) = (0 : Int32) then (if (p5 &&& (4 : Int32)) = (0 : Int32) then (if (p5 &&& (2 : Int32)) = (0 : Int32) then (if (p5 &&& (1 : Int32)) = (0 : Int32) then (0 : Int32) else (if p0 = p1 then (1 : Int32) else (0 : Int32))) else (if p0 = p2 then (1 : Int32) else (if (p5 &&& (1 : Int32)) = (0 : Int32) then (0 : Int32) else (if p0 = p1 then (1 : Int32) else (0 : Int32))))) else (if p0 = p3 then (0 : Int32) else (if (p5 &&& (2 : Int32)) = (0 : Int32) then (if (p5 &&& (1 : Int32)) = (0 : Int32) then (0 : Int32) else (if p0 = p1 then (1 : Int32) else (0 : Int32))) else (if p0 = p2 then (1 : Int32) else (if (p5 &&& (1 : Int32)) = (0 : Int32) then (0 : Int32) else (if p0 = p1 then (1 : Int32) else (0 : Int32))))))) else (if p0 = p4 then (0 : Int32) else (if (p5 &&& (4 : Int32)) = (0 : Int32) then (if (p5 &&& (2 : Int32)) = (0 : Int32) then (if (p5 &&& (1 : Int32)) = (0 : Int32) then (0 : Int32) else (if p0 = p1 then (1 : Int32) else (0 : Int32))) else (if p0 = p2 then (1 : Int32) else (if (p5 &&& (1 : Int32)) = (0 : Int32) then (0 : Int32) else (if p0 = p1 then (1 : Int32) else (0 : Int32))))) else (if p0 = p3 then (0 : Int32) else (if (p5 &&& (2 : Int32)) = (0 : Int32) then (if (p5 &&& (1 : Int32)) = (0 : Int32) then (0 : Int32) else (if p0 = p1 then (1 : Int32) else (0 : Int32))) else (if p0 = p2 then (1 : Int32) else (if (p5 &&& (1 : Int32)) = (0 : Int32) then (0 : Int32) else (if p0 = p1 then (1 : Int32) else (0 : Int32))))))))))] [])) _
    refine XS.iload X0.here hx rfl (hb hby d6_65) rfl ?_
    show Steps p.tables e below (s₁.setTop (mkF m 67 #[.val (.int p0), .val (.int p1), .val (.int p2), .val (.int p3), .val (.int p4), .val (.int p5), .val (.int (if (p5 &&& (16 : Int32)) = (0 : Int32) then (if (p5 &&& (4 : Int32)) = (0 : Int32) then (if (p5 &&& (2 : Int32)) = (0 : Int32) then (if (p5 &&& (1 : Int32)) = (0 : Int32) then (0 : Int32) else (if p0 = p1 then (1 : Int32) else (0 : Int32))) else (if p0 = p2 then (1 : Int32) else (if (p5 &&& (1 : Int32)) = (0 : Int32) then (0 : Int32) else (if p0 = p1 then (1 : Int32) else (0 : Int32))))) else (if p0 = p3 then (0 : Int32) else (if (p5 &&& (2 : Int32)) = (0 : Int32) then (if (p5 &&& (1 : Int32)) = (0 : Int32) then (0 : Int32) else (if p0 = p1 then (1 : Int32) else (0 : Int32))) else (if p0 = p2 then (1 : Int32) else (if (p5 &&& (1 : Int32)) = (0 : Int32) then (0 : Int32) else (if p0 = p1 then (1 : Int32) else (0 : Int32))))))) else (if p0 = p4 then (0 : Int32) else (if (p5 &&& (4 : Int32)) = (0 : Int32) then (if (p5 &&& (2 : Int32)) = (0 : Int32) then (if (p5 &&& (1 : Int32)) = (0 : Int32) then (0 : Int32) else (if p0 = p1 then (1 : Int32) else (0 : Int32))) else (if p0 = p2 then (1 : Int32) else (if (p5 &&& (1 : Int32)) = (0 : Int32) then (0 : Int32) else (if p0 = p1 then (1 : Int32) else (0 : Int32))))) else (if p0 = p3 then (0 : Int32) else (if (p5 &&& (2 : Int32)) = (0 : Int32) then (if (p5 &&& (1 : Int32)) = (0 : Int32) then (0 : Int32) else (if p0 = p1 then (1 : Int32) else (0 : Int32))) else (if p0 = p2 then (1 : Int32) else (if (p5 &&& (1 : Int32)) = (0 : Int32) then (0 : Int32) else (if p0 = p1 then (1 : Int32) else (0 : Int32))))))))))] [(.int (if (p5 &&& (16 : Int32)) = (0 : Int32) then (if (p5 &&& (4 : Int32)) = (0 : Int32) then (if (p5 &&& (2 : Int32)) = (0 : Int32) then (if (p5 &&& (1 : Int32)) = (0 : Int32) then (0 : Int32) else (if p0 = p1 then (1 : Int32) else (0 : Int32))) else (if p0 = p2 then (1 : Int32) else (if (p5 &&& (1 : Int32)) = (0 : Int32) then (0 : Int32) else (if p0 = p1 then (1 : Int32) else (0 : Int32))))) else (if p0 = p3 then (0 : Int32) else (if (p5 &&& (2 : Int32)) = (0 : Int32) then (if (p5 &&& (1 : Int32)) = (0 : Int32) then (0 : Int32) else (if p0 = p1 then (1 : Int32) else (0 : Int32))) else (if p0 = p2 then (1 : Int32) else (if (p5 &&& (1 : Int32)) = (0 : Int32) then (0 : Int32) else (if p0 = p1 then (1 : Int32) else (0 : Int32))))))) else (if p0 = p4 then (0 : Int32) else (if (p5 &&& (4 : Int32)) = (0 : Int32) then (if (p5 &&& (2 : Int32)) = (0 : Int32) then (if (p5 &&& (1 : Int32)) = (0 : Int32) then (0 : Int32) else (if p0 = p1 then (1 : Int32) else (0 : Int32))) else (if p0 = p2 then (1 : Int32) else (if (p5 &&& (1 : Int32)) = (0 : Int32) then (0 : Int32) else (if p0 = p1 then (1 : Int32) else (0 : Int32))))) else (if p0 = p3 then (0 : Int32) else (if (p5 &&& (2 : Int32)) = (0 : Int32) then (if (p5 &&& (1 : Int32)) = (0 : Int32) then (0 : Int32) else (if p0 = p1 then (1 : Int32) else (0 : Int32))) else (if p0 = p2 then (1 : Int32) else (if (p5 &&& (1 : Int32)) = (0 : Int32) then (0 : Int32) else (if p0 = p1 then (1 : Int32) else (0 : Int32))))))))))])) _
    exact retN X0 hx (t := .boolean) Bd.returns (by simp) (hb hby d6_67) hr
  · show Qrm6 Z p0 p1 p2 p3 p4 p5 h0 n0 _ s₁.heap _
    rw [e0]
    exact ⟨rfl, N0, rfl⟩
theorem own_255 (z : Int32) : 0 ≤ (z &&& (255 : Int32)).toInt ∧ (z &&& (255 : Int32)).toInt < 256 := by
  have a := c_mask z 255 8 (by decide) (by decide)
  have e3 : ((2 ^ 8 : Nat) : Int) = 256 := by decide
  rw [e3] at a; omega
theorem own_capb {z cap : Int32} (h : cap = (if (z &&& (8 : Int32)) = (0 : Int32) then (4 : Int32) else (256 : Int32))) : cap.toInt = 4 ∨ cap.toInt = 256 := by
  rw [h]; split
  · exact Or.inl (by decide)
  · exact Or.inr (by decide)
theorem own_i2l (z : Int32) : ((z.toInt64).toInt32.toInt64) = (z.toInt64) := by
  have e : (z.toInt64).toInt32 = z := by
    apply Int32.toInt_inj.mp
    have a := c_l2i (z.toInt64); rw [c_i2l] at a
    have b := rng32 ((z.toInt64).toInt32); have c := rng32 z
    omega
  rw [e]
def own_len (st : Option (List Int64)) : Prop := ∀ xs, st = some xs → xs.length = 4
theorem own_len_none : own_len none := fun _ h => nomatch h
theorem own_len_wn {st : Option (List Int64)} {z : Int32} (h : own_len st) : own_len (own_wn st z) := fun xs q => by
  cases st with
  | none => cases q; exact own_or_len rfl
  | some ys => cases q; exact own_or_len (h ys rfl)
theorem own_len_cl {st : Option (List Int64)} {z : Int32} (h : own_len st) : own_len (own_cl st z) := fun xs q => by
  cases st with
  | none => cases q
  | some ys => cases q; exact own_an_len (h ys rfl)
def own_B (st : Option (List Int64)) (n : Nat) : Bool := match st with
  | none => false
  | some xs => (xs.getD (n / 64) 0).toBitVec.getLsbD (n % 64)
theorem own_of {z : Int32} {n : Nat} (h : z.toInt = n) (hn : n < 256) : z = Int32.ofNat n := by
  apply Int32.toInt_inj.mp
  have q : ∀ k : Fin 256, (Int32.ofNat k.1).toInt = (k.1 : Int) := by decide +kernel
  rw [q ⟨n, hn⟩, h]
theorem own_bits : ∀ k : Fin 256, ((1 : Int64) <<< ((Int32.ofNat k.1) &&& 0x3f).toInt64).toBitVec = BitVec.twoPow 64 (k.1 % 64) := by decide +kernel
theorem own_bv {z : Int32} {n : Nat} (h : z.toInt = n) (hn : n < 256) : ((1 : Int64) <<< (z &&& 0x3f).toInt64).toBitVec = BitVec.twoPow 64 (n % 64) := by
  rw [own_of h hn]; exact own_bits ⟨n, hn⟩
theorem own_ixn {z : Int32} {n : Nat} (h : z.toInt = n) (hn : n < 256) : own_ix z = n / 64 := by
  have := own_ix_eq (z := z) (by omega); omega
theorem own_L1 (st : Option (List Int64)) {z : Int32} {n : Nat} (h : z.toInt = n) (hn : n < 256) : own_isn st z = if own_B st n = true then (1 : Int32) else (0 : Int32) := by
  cases st with
  | none => rfl
  | some xs =>
    show nar .boolean (if ((xs.getD (own_ix z) 0) &&& ((1 : Int64) <<< (z &&& 0x3f).toInt64)) = (0 : Int64) then (0 : Int32) else (1 : Int32)) = _
    have e : (((xs.getD (own_ix z) 0) &&& ((1 : Int64) <<< (z &&& 0x3f).toInt64)) = (0 : Int64)) ↔ ¬ (own_B (some xs) n = true) := by
      rw [← Int64.toBitVec_inj, Int64.toBitVec_and, own_bv h hn, own_ixn h hn, BitVec.and_twoPow]
      show _ ↔ ¬ ((xs.getD (n / 64) 0).toBitVec.getLsbD (n % 64) = true)
      have e0 : (0 : Int64).toBitVec = 0#64 := rfl
      rw [e0]
      cases hb : (xs.getD (n / 64) 0).toBitVec.getLsbD (n % 64)
      · simp
      · simp only [if_true, not_true_eq_false, iff_false]
        intro q
        have := congrArg (fun b => BitVec.getLsbD b (n % 64)) q
        simp [BitVec.getLsbD_twoPow] at this
        omega
    simp only [e]
    cases own_B (some xs) n <;> rfl
theorem own_gs (xs : List Int64) (i j : Nat) (x : Int64) (hi : i < xs.length) : (xs.set i x).getD j 0 = if i = j then x else xs.getD j 0 := by
  simp only [List.getD_eq_getElem?_getD, List.getElem?_set]
  by_cases h : i = j
  · subst h; simp [hi]
  · simp [h]
theorem own_L2 {st : Option (List Int64)} (hl : own_len st) {z : Int32} {m n : Nat} (h : z.toInt = m) (hm : m < 256) (hn : n < 256) : own_B (own_wn st z) n = (decide (n = m) || own_B st n) := by
  obtain ⟨ys, hy, h4, hB⟩ : ∃ ys : List Int64, st.getD own_z4 = ys ∧ ys.length = 4 ∧ own_B st n = (ys.getD (n / 64) 0).toBitVec.getLsbD (n % 64) := by
    cases st with
    | none =>
      refine ⟨own_z4, rfl, rfl, ?_⟩
      have q : ∀ k : Fin 4, (own_z4.getD k.1 0) = 0 := by decide
      have := q ⟨n / 64, by omega⟩
      show false = (own_z4.getD (n / 64) 0).toBitVec.getLsbD (n % 64)
      rw [this]
      have e0 : (0 : Int64).toBitVec = 0#64 := rfl
      rw [e0, BitVec.getLsbD_zero]
    | some ys => exact ⟨ys, rfl, hl ys rfl, rfl⟩
  rw [hB]
  show ((own_or (st.getD own_z4) z).getD (n / 64) 0).toBitVec.getLsbD (n % 64) = _
  rw [hy, own_or, own_ixn h hm, own_gs _ _ _ _ (by omega)]
  by_cases q : m / 64 = n / 64
  · rw [if_pos q, Int64.toBitVec_or, own_bv h hm, BitVec.getLsbD_or, BitVec.getLsbD_twoPow, q]
    by_cases r : m % 64 = n % 64
    · have : n = m := by omega
      simp [this] <;> omega
    · have : ¬ n = m := fun z => r (by rw [z])
      simp [this, r]
  · rw [if_neg q]
    have : ¬ n = m := fun z => q (by rw [z])
    simp [this]
theorem own_L3 {st : Option (List Int64)} (hl : own_len st) {z : Int32} {m n : Nat} (h : z.toInt = m) (hm : m < 256) (hn : n < 256) : own_B (own_cl st z) n = (!decide (n = m) && own_B st n) := by
  cases st with
  | none => show false = _; simp [own_B]
  | some ys =>
    have h4 := hl ys rfl
    show ((own_an ys z).getD (n / 64) 0).toBitVec.getLsbD (n % 64) = (!decide (n = m) && (ys.getD (n / 64) 0).toBitVec.getLsbD (n % 64))
    rw [own_an, own_ixn h hm, own_gs _ _ _ _ (by omega)]
    by_cases q : m / 64 = n / 64
    · have e1 : (-1 : Int64).toBitVec = BitVec.allOnes 64 := by decide
      rw [if_pos q, Int64.toBitVec_and, Int64.toBitVec_xor, own_bv h hm, e1, BitVec.getLsbD_and, BitVec.getLsbD_xor, BitVec.getLsbD_twoPow, BitVec.getLsbD_allOnes, q]
      by_cases r : m % 64 = n % 64
      · have : n = m := by omega
        simp [this] <;> omega
      · have : ¬ n = m := fun z => r (by rw [z])
        simp [this, r] <;> omega
    · rw [if_neg q]
      have : ¬ n = m := fun z => q (by rw [z])
      simp [this]
theorem own_fin (f s sa sb sc se : Int32) (hs : 0 ≤ s.toInt ∧ s.toInt < 256) (ha : 0 ≤ sa.toInt ∧ sa.toInt < 256) (hb : 0 ≤ sb.toInt ∧ sb.toInt < 256) (hc : 0 ≤ sc.toInt ∧ sc.toInt < 256) (he : 0 ≤ se.toInt ∧ se.toInt < 256) :
    own_isn (if (f &&& (16 : Int32)) = (0 : Int32) then (if (f &&& (4 : Int32)) = (0 : Int32) then (if (f &&& (2 : Int32)) = (0 : Int32) then (if (f &&& (1 : Int32)) = (0 : Int32) then none else own_wn none sa) else own_wn (if (f &&& (1 : Int32)) = (0 : Int32) then none else own_wn none sa) sb) else own_cl (if (f &&& (2 : Int32)) = (0 : Int32) then (if (f &&& (1 : Int32)) = (0 : Int32) then none else own_wn none sa) else own_wn (if (f &&& (1 : Int32)) = (0 : Int32) then none else own_wn none sa) sb) sc) else own_cl (if (f &&& (4 : Int32)) = (0 : Int32) then (if (f &&& (2 : Int32)) = (0 : Int32) then (if (f &&& (1 : Int32)) = (0 : Int32) then none else own_wn none sa) else own_wn (if (f &&& (1 : Int32)) = (0 : Int32) then none else own_wn none sa) sb) else own_cl (if (f &&& (2 : Int32)) = (0 : Int32) then (if (f &&& (1 : Int32)) = (0 : Int32) then none else own_wn none sa) else own_wn (if (f &&& (1 : Int32)) = (0 : Int32) then none else own_wn none sa) sb) sc) se) s = own_exp s sa sb sc se f := by
  obtain ⟨n, hn, hn2⟩ : ∃ n : Nat, s.toInt = n ∧ n < 256 := ⟨s.toInt.toNat, by omega, by omega⟩
  obtain ⟨na, ea, la⟩ : ∃ n : Nat, sa.toInt = n ∧ n < 256 := ⟨sa.toInt.toNat, by omega, by omega⟩
  obtain ⟨nb, eb, lb⟩ : ∃ n : Nat, sb.toInt = n ∧ n < 256 := ⟨sb.toInt.toNat, by omega, by omega⟩
  obtain ⟨nc, ec, lc⟩ : ∃ n : Nat, sc.toInt = n ∧ n < 256 := ⟨sc.toInt.toNat, by omega, by omega⟩
  obtain ⟨ne, ee, le⟩ : ∃ n : Nat, se.toInt = n ∧ n < 256 := ⟨se.toInt.toNat, by omega, by omega⟩
  have qa : (s = sa) ↔ n = na := by rw [← Int32.toInt_inj, hn, ea]; omega
  have qb : (s = sb) ↔ n = nb := by rw [← Int32.toInt_inj, hn, eb]; omega
  have qc : (s = sc) ↔ n = nc := by rw [← Int32.toInt_inj, hn, ec]; omega
  have qe : (s = se) ↔ n = ne := by rw [← Int32.toInt_inj, hn, ee]; omega
  rw [own_L1 _ hn hn2]
  have W := fun (st : Option (List Int64)) (h : own_len st) => own_L2 (st := st) h ea la hn2
  have W2 := fun (st : Option (List Int64)) (h : own_len st) => own_L2 (st := st) h eb lb hn2
  have C1 := fun (st : Option (List Int64)) (h : own_len st) => own_L3 (st := st) h ec lc hn2
  have C2 := fun (st : Option (List Int64)) (h : own_len st) => own_L3 (st := st) h ee le hn2
  have B0 : own_B none n = false := rfl
  have l1 : ∀ z, own_len (own_wn none z) := fun z => own_len_wn own_len_none
  have l2 : ∀ y z, own_len (own_wn (own_wn none y) z) := fun y z => own_len_wn (l1 y)
  have l3 : ∀ z, own_len (own_cl none z) := fun z => own_len_cl own_len_none
  have l4 : ∀ y z, own_len (own_cl (own_wn none y) z) := fun y z => own_len_cl (l1 y)
  have l5 : ∀ x y z, own_len (own_cl (own_wn (own_wn none x) y) z) := fun x y z => own_len_cl (l2 x y)
  have n1 : nar .boolean (1 : Int32) = 1 := by decide
  have n2 : nar .boolean (0 : Int32) = 0 := by decide
  unfold own_exp
  simp only [qa, qb, qc, qe]
  generalize (f &&& (1 : Int32)) = f1
  generalize (f &&& (2 : Int32)) = f2
  generalize (f &&& (4 : Int32)) = f4
  generalize (f &&& (16 : Int32)) = f16
  by_cases h1 : f1 = 0 <;> by_cases h2 : f2 = 0 <;> by_cases h4 : f4 = 0 <;> by_cases h16 : f16 = 0 <;> simp only [h1, h2, h4, h16, if_true, if_false, W, W2, C1, C2, own_len_none, l1, l2, l3, l4, l5, B0] <;> (by_cases z1 : n = na <;> (first | simp only [if_pos z1, decide_eq_true z1] | simp only [if_neg z1, decide_eq_false z1] | skip) <;> by_cases z2 : n = nb <;> (first | simp only [if_pos z2, decide_eq_true z2] | simp only [if_neg z2, decide_eq_false z2] | skip) <;> by_cases z3 : n = nc <;> (first | simp only [if_pos z3, decide_eq_true z3] | simp only [if_neg z3, decide_eq_false z3] | skip) <;> by_cases z4 : n = ne <;> (first | simp only [if_pos z4, decide_eq_true z4] | simp only [if_neg z4, decide_eq_false z4] | skip) <;> rfl)

set_option maxRecDepth 65536 in
set_option maxHeartbeats 40000000 in
theorem kg1 {p : Program} {l : Launch} {e : Env} {s : State} {m : MethodId} {args : Array Value} {below : List Frame} {meth : Method} {c : Code} {T0 : State} {locs : List Loc} {cells slots : Nat} {Z : State} {A0 : Array Value} {h0 : Heap} {n0 : Nat} (p0 p1 p2 p3 p4 p5 sa sb sc sd se cap0 : Int32) (ck : Addr) (cap bd : Int32) (st : Option (List Int64)) (X0 : Stand p l e room_1 s m args below meth c T0 locs cells slots) (hx : p.tables.exec = Jvm.exec) (hZ : Z.Warmed39 s.vm) (hw : ∀ d ∈ tables_1, d.before A0 Z = true) (hby : c.code = code) (hml : c.maxLocals = 15) (hown : s.vm.findClass "com/example/wadjet/wadjet/storage/IntegerChunkIsNullPinLaw" = some m.cls) (e0 : T0.heap = h0) (N0 : Fr n0 locs) (Z0 : n0 ≤ h0.size) (hsa : 0 ≤ sa.toInt ∧ sa.toInt < 256) (hcl : cells + 1 ≤ 16) (hsl : slots + 4 ≤ 640) (HK : own_K Z h0 n0 ck cap bd st) :
    ∃ (T' : State) (h' : Heap) (locs' : List Loc) (c' s' : Nat), Stand p l e room_1 s m args below meth c T' locs' c' s' ∧ T'.heap = h' ∧ Fr n0 locs' ∧ n0 ≤ h'.size ∧ own_K Z h' n0 ck cap bd (if (p5 &&& (1 : Int32)) = (0 : Int32) then st else (own_wn st sa)) ∧ c' ≤ cells + 1 ∧ s' ≤ slots + 4 ∧
      ∀ target, Steps p.tables e below (T'.setTop (mkF m 81 #[.val (.int p0), .val (.int p1), .val (.int p2), .val (.int p3), .val (.int p4), .val (.int p5), .val (.int sa), .val (.int sb), .val (.int sc), .val (.int sd), .val (.int se), .val (.int cap0), .val (.ref ck), .unset, .unset] [])) target → Steps p.tables e below (T0.setTop (mkF m 67 #[.val (.int p0), .val (.int p1), .val (.int p2), .val (.int p3), .val (.int p4), .val (.int p5), .val (.int sa), .val (.int sb), .val (.int sc), .val (.int sd), .val (.int se), .val (.int cap0), .val (.ref ck), .unset, .unset] [])) target := by
  by_cases hc71 : (p5 &&& (1 : Int32)) = (0 : Int32)
  · refine ⟨T0, _, _, cells, slots, X0, e0, N0, Z0, by rw [if_pos hc71]; exact HK, by omega, by omega, fun target kt => ?_⟩
    show Steps p.tables e below (T0.setTop (mkF m 67 #[.val (.int p0), .val (.int p1), .val (.int p2), .val (.int p3), .val (.int p4), .val (.int p5), .val (.int sa), .val (.int sb), .val (.int sc), .val (.int sd), .val (.int se), .val (.int cap0), .val (.ref ck), .unset, .unset] [])) _
    refine XS.iload X0.here hx rfl (hb hby at_67) rfl ?_
    show Steps p.tables e below (T0.setTop (mkF m 69 #[.val (.int p0), .val (.int p1), .val (.int p2), .val (.int p3), .val (.int p4), .val (.int p5), .val (.int sa), .val (.int sb), .val (.int sc), .val (.int sd), .val (.int se), .val (.int cap0), .val (.ref ck), .unset, .unset] [(.int p5)])) _
    refine XS.iconst X0.here hx rfl (hb hby at_69) ?_
    show Steps p.tables e below (T0.setTop (mkF m 70 #[.val (.int p0), .val (.int p1), .val (.int p2), .val (.int p3), .val (.int p4), .val (.int p5), .val (.int sa), .val (.int sb), .val (.int sc), .val (.int sd), .val (.int se), .val (.int cap0), .val (.ref ck), .unset, .unset] [(.int (1 : Int32)), (.int p5)])) _
    refine XS.iand X0.here hx rfl (hb hby at_70) rfl ?_
    show Steps p.tables e below (T0.setTop (mkF m 71 #[.val (.int p0), .val (.int p1), .val (.int p2), .val (.int p3), .val (.int p4), .val (.int p5), .val (.int sa), .val (.int sb), .val (.int sc), .val (.int sd), .val (.int se), .val (.int cap0), .val (.ref ck), .unset, .unset] [(.int (p5 &&& (1 : Int32)))])) _
    refine XS.ifYes X0.here hx rfl (pc0 := 71) (pc' := 81) rfl (hb hby at_71) rfl ((if0 _ _).trans (teq hc71).1) (by decide) (by decide) ?_
    show Steps p.tables e below (T0.setTop (mkF m 81 #[.val (.int p0), .val (.int p1), .val (.int p2), .val (.int p3), .val (.int p4), .val (.int p5), .val (.int sa), .val (.int sb), .val (.int sc), .val (.int sd), .val (.int se), .val (.int cap0), .val (.ref ck), .unset, .unset] [])) _
    exact kt
  · obtain ⟨cq1, kq1, q1a, q1b, q1c⟩ := isOf hZ e0 HK.2.1
    obtain ⟨_, _, ⟨T1, L1, k1, n1⟩, -, X1, ⟨Lc1, hQ1, l1, y1, z1⟩, st1⟩ := X0.virtualBack hx (y := (⟨"com/example/wadjet/wadjet/storage/IntegerChunk", "writeNull", "(I)V"⟩ : MethodName)) (z := (⟨"com/example/wadjet/wadjet/storage/IntegerChunk", "writeNull", "(I)V"⟩ : MethodName)) hown (mvT hZ (hw _ (List.mem_of_getElem? (i := 19) rfl))) (mvT hZ (hw _ (List.mem_of_getElem? (i := 20) rfl))) (notFace_of_selects (args := #[]) (mvT hZ (hw _ (List.mem_of_getElem? (i := 22) rfl)))) (mvT hZ (hw _ (List.mem_of_getElem? (i := 22) rfl))) (mvT hZ (hw _ (List.mem_of_getElem? (i := 21) rfl))) (by decide) (backOf (W := 0) (rm4 l Z A0 hw [] ck sa (cap) (bd) (st) h0 n0 Z0 hsa HK) hZ (hw _ (List.mem_of_getElem? (i := 23) rfl)) (hw _ (List.mem_of_getElem? (i := 2) rfl)) (by decide) (by decide)) q1a q1c (g := (mkF m 78 #[.val (.int p0), .val (.int p1), .val (.int p2), .val (.int p3), .val (.int p4), .val (.int p5), .val (.int sa), .val (.int sb), .val (.int sc), .val (.int sd), .val (.int se), .val (.int cap0), .val (.ref ck), .unset, .unset] [(.int sa), (.ref ck)])) rfl (by rw [hml]; rfl) (Steps.refl _) (argsL := [(.int sa)]) (rest := []) (lenOf pd_6 rfl) rfl (by show 2 * 0 + _ ≤ _; exact Nat.le_of_eq rfl) (hb hby at_78) (fun _ _ => ⟨rfl, e0, (by show cells + 1 ≤ 16; omega), (by show slots + 4 ≤ 640; omega)⟩)
    dsimp only [Pt.U, Pt.locs, Pt.cells, Pt.slots] at X1 l1 y1 z1 st1 hQ1
    rw [y1, z1] at X1
    obtain ⟨rfl, N1q, hsz1, HK1⟩ := hQ1
    have N1 : Fr n0 L1 := by rw [l1]; exact Fr.app N0 N1q
    clear l1
    have Z_1 : n0 ≤ T1.heap.size := Nat.le_trans Z0 hsz1
    refine ⟨T1, _, _, (cells + 1), (slots + 4), X1, rfl, N1, Z_1, by rw [if_neg hc71]; exact HK1, by omega, by omega, fun target kt => ?_⟩
    show Steps p.tables e below (T0.setTop (mkF m 67 #[.val (.int p0), .val (.int p1), .val (.int p2), .val (.int p3), .val (.int p4), .val (.int p5), .val (.int sa), .val (.int sb), .val (.int sc), .val (.int sd), .val (.int se), .val (.int cap0), .val (.ref ck), .unset, .unset] [])) _
    refine XS.iload X0.here hx rfl (hb hby at_67) rfl ?_
    show Steps p.tables e below (T0.setTop (mkF m 69 #[.val (.int p0), .val (.int p1), .val (.int p2), .val (.int p3), .val (.int p4), .val (.int p5), .val (.int sa), .val (.int sb), .val (.int sc), .val (.int sd), .val (.int se), .val (.int cap0), .val (.ref ck), .unset, .unset] [(.int p5)])) _
    refine XS.iconst X0.here hx rfl (hb hby at_69) ?_
    show Steps p.tables e below (T0.setTop (mkF m 70 #[.val (.int p0), .val (.int p1), .val (.int p2), .val (.int p3), .val (.int p4), .val (.int p5), .val (.int sa), .val (.int sb), .val (.int sc), .val (.int sd), .val (.int se), .val (.int cap0), .val (.ref ck), .unset, .unset] [(.int (1 : Int32)), (.int p5)])) _
    refine XS.iand X0.here hx rfl (hb hby at_70) rfl ?_
    show Steps p.tables e below (T0.setTop (mkF m 71 #[.val (.int p0), .val (.int p1), .val (.int p2), .val (.int p3), .val (.int p4), .val (.int p5), .val (.int sa), .val (.int sb), .val (.int sc), .val (.int sd), .val (.int se), .val (.int cap0), .val (.ref ck), .unset, .unset] [(.int (p5 &&& (1 : Int32)))])) _
    refine XS.ifNo X0.here hx rfl (hb hby at_71) rfl ((if0 _ _).trans (feq hc71).1) ?_
    show Steps p.tables e below (T0.setTop (mkF m 74 #[.val (.int p0), .val (.int p1), .val (.int p2), .val (.int p3), .val (.int p4), .val (.int p5), .val (.int sa), .val (.int sb), .val (.int sc), .val (.int sd), .val (.int se), .val (.int cap0), .val (.ref ck), .unset, .unset] [])) _
    refine XS.aload X0.here hx rfl (hb hby at_74) rfl rfl ?_
    show Steps p.tables e below (T0.setTop (mkF m 76 #[.val (.int p0), .val (.int p1), .val (.int p2), .val (.int p3), .val (.int p4), .val (.int p5), .val (.int sa), .val (.int sb), .val (.int sc), .val (.int sd), .val (.int se), .val (.int cap0), .val (.ref ck), .unset, .unset] [(.ref ck)])) _
    refine XS.iload X0.here hx rfl (hb hby at_76) rfl ?_
    show Steps p.tables e below (T0.setTop (mkF m 78 #[.val (.int p0), .val (.int p1), .val (.int p2), .val (.int p3), .val (.int p4), .val (.int p5), .val (.int sa), .val (.int sb), .val (.int sc), .val (.int sd), .val (.int se), .val (.int cap0), .val (.ref ck), .unset, .unset] [(.int sa), (.ref ck)])) _
    refine st1.trans ?_
    show Steps p.tables e below (T1.setTop (mkF m 81 #[.val (.int p0), .val (.int p1), .val (.int p2), .val (.int p3), .val (.int p4), .val (.int p5), .val (.int sa), .val (.int sb), .val (.int sc), .val (.int sd), .val (.int se), .val (.int cap0), .val (.ref ck), .unset, .unset] [])) _
    exact kt
set_option maxRecDepth 65536 in
set_option maxHeartbeats 40000000 in
theorem kg2 {p : Program} {l : Launch} {e : Env} {s : State} {m : MethodId} {args : Array Value} {below : List Frame} {meth : Method} {c : Code} {T0 : State} {locs : List Loc} {cells slots : Nat} {Z : State} {A0 : Array Value} {h0 : Heap} {n0 : Nat} (p0 p1 p2 p3 p4 p5 sa sb sc sd se cap0 : Int32) (ck : Addr) (cap bd : Int32) (st : Option (List Int64)) (X0 : Stand p l e room_1 s m args below meth c T0 locs cells slots) (hx : p.tables.exec = Jvm.exec) (hZ : Z.Warmed39 s.vm) (hw : ∀ d ∈ tables_1, d.before A0 Z = true) (hby : c.code = code) (hml : c.maxLocals = 15) (hown : s.vm.findClass "com/example/wadjet/wadjet/storage/IntegerChunkIsNullPinLaw" = some m.cls) (e0 : T0.heap = h0) (N0 : Fr n0 locs) (Z0 : n0 ≤ h0.size) (hsb : 0 ≤ sb.toInt ∧ sb.toInt < 256) (hcl : cells + 1 ≤ 16) (hsl : slots + 4 ≤ 640) (HK : own_K Z h0 n0 ck cap bd st) :
    ∃ (T' : State) (h' : Heap) (locs' : List Loc) (c' s' : Nat), Stand p l e room_1 s m args below meth c T' locs' c' s' ∧ T'.heap = h' ∧ Fr n0 locs' ∧ n0 ≤ h'.size ∧ own_K Z h' n0 ck cap bd (if (p5 &&& (2 : Int32)) = (0 : Int32) then st else (own_wn st sb)) ∧ c' ≤ cells + 1 ∧ s' ≤ slots + 4 ∧
      ∀ target, Steps p.tables e below (T'.setTop (mkF m 95 #[.val (.int p0), .val (.int p1), .val (.int p2), .val (.int p3), .val (.int p4), .val (.int p5), .val (.int sa), .val (.int sb), .val (.int sc), .val (.int sd), .val (.int se), .val (.int cap0), .val (.ref ck), .unset, .unset] [])) target → Steps p.tables e below (T0.setTop (mkF m 81 #[.val (.int p0), .val (.int p1), .val (.int p2), .val (.int p3), .val (.int p4), .val (.int p5), .val (.int sa), .val (.int sb), .val (.int sc), .val (.int sd), .val (.int se), .val (.int cap0), .val (.ref ck), .unset, .unset] [])) target := by
  by_cases hc85 : (p5 &&& (2 : Int32)) = (0 : Int32)
  · refine ⟨T0, _, _, cells, slots, X0, e0, N0, Z0, by rw [if_pos hc85]; exact HK, by omega, by omega, fun target kt => ?_⟩
    show Steps p.tables e below (T0.setTop (mkF m 81 #[.val (.int p0), .val (.int p1), .val (.int p2), .val (.int p3), .val (.int p4), .val (.int p5), .val (.int sa), .val (.int sb), .val (.int sc), .val (.int sd), .val (.int se), .val (.int cap0), .val (.ref ck), .unset, .unset] [])) _
    refine XS.iload X0.here hx rfl (hb hby at_81) rfl ?_
    show Steps p.tables e below (T0.setTop (mkF m 83 #[.val (.int p0), .val (.int p1), .val (.int p2), .val (.int p3), .val (.int p4), .val (.int p5), .val (.int sa), .val (.int sb), .val (.int sc), .val (.int sd), .val (.int se), .val (.int cap0), .val (.ref ck), .unset, .unset] [(.int p5)])) _
    refine XS.iconst X0.here hx rfl (hb hby at_83) ?_
    show Steps p.tables e below (T0.setTop (mkF m 84 #[.val (.int p0), .val (.int p1), .val (.int p2), .val (.int p3), .val (.int p4), .val (.int p5), .val (.int sa), .val (.int sb), .val (.int sc), .val (.int sd), .val (.int se), .val (.int cap0), .val (.ref ck), .unset, .unset] [(.int (2 : Int32)), (.int p5)])) _
    refine XS.iand X0.here hx rfl (hb hby at_84) rfl ?_
    show Steps p.tables e below (T0.setTop (mkF m 85 #[.val (.int p0), .val (.int p1), .val (.int p2), .val (.int p3), .val (.int p4), .val (.int p5), .val (.int sa), .val (.int sb), .val (.int sc), .val (.int sd), .val (.int se), .val (.int cap0), .val (.ref ck), .unset, .unset] [(.int (p5 &&& (2 : Int32)))])) _
    refine XS.ifYes X0.here hx rfl (pc0 := 85) (pc' := 95) rfl (hb hby at_85) rfl ((if0 _ _).trans (teq hc85).1) (by decide) (by decide) ?_
    show Steps p.tables e below (T0.setTop (mkF m 95 #[.val (.int p0), .val (.int p1), .val (.int p2), .val (.int p3), .val (.int p4), .val (.int p5), .val (.int sa), .val (.int sb), .val (.int sc), .val (.int sd), .val (.int se), .val (.int cap0), .val (.ref ck), .unset, .unset] [])) _
    exact kt
  · obtain ⟨cq1, kq1, q1a, q1b, q1c⟩ := isOf hZ e0 HK.2.1
    obtain ⟨_, _, ⟨T1, L1, k1, n1⟩, -, X1, ⟨Lc1, hQ1, l1, y1, z1⟩, st1⟩ := X0.virtualBack hx (y := (⟨"com/example/wadjet/wadjet/storage/IntegerChunk", "writeNull", "(I)V"⟩ : MethodName)) (z := (⟨"com/example/wadjet/wadjet/storage/IntegerChunk", "writeNull", "(I)V"⟩ : MethodName)) hown (mvT hZ (hw _ (List.mem_of_getElem? (i := 19) rfl))) (mvT hZ (hw _ (List.mem_of_getElem? (i := 20) rfl))) (notFace_of_selects (args := #[]) (mvT hZ (hw _ (List.mem_of_getElem? (i := 22) rfl)))) (mvT hZ (hw _ (List.mem_of_getElem? (i := 22) rfl))) (mvT hZ (hw _ (List.mem_of_getElem? (i := 21) rfl))) (by decide) (backOf (W := 0) (rm4 l Z A0 hw [] ck sb (cap) (bd) (st) h0 n0 Z0 hsb HK) hZ (hw _ (List.mem_of_getElem? (i := 23) rfl)) (hw _ (List.mem_of_getElem? (i := 2) rfl)) (by decide) (by decide)) q1a q1c (g := (mkF m 92 #[.val (.int p0), .val (.int p1), .val (.int p2), .val (.int p3), .val (.int p4), .val (.int p5), .val (.int sa), .val (.int sb), .val (.int sc), .val (.int sd), .val (.int se), .val (.int cap0), .val (.ref ck), .unset, .unset] [(.int sb), (.ref ck)])) rfl (by rw [hml]; rfl) (Steps.refl _) (argsL := [(.int sb)]) (rest := []) (lenOf pd_6 rfl) rfl (by show 2 * 0 + _ ≤ _; exact Nat.le_of_eq rfl) (hb hby at_92) (fun _ _ => ⟨rfl, e0, (by show cells + 1 ≤ 16; omega), (by show slots + 4 ≤ 640; omega)⟩)
    dsimp only [Pt.U, Pt.locs, Pt.cells, Pt.slots] at X1 l1 y1 z1 st1 hQ1
    rw [y1, z1] at X1
    obtain ⟨rfl, N1q, hsz1, HK1⟩ := hQ1
    have N1 : Fr n0 L1 := by rw [l1]; exact Fr.app N0 N1q
    clear l1
    have Z_1 : n0 ≤ T1.heap.size := Nat.le_trans Z0 hsz1
    refine ⟨T1, _, _, (cells + 1), (slots + 4), X1, rfl, N1, Z_1, by rw [if_neg hc85]; exact HK1, by omega, by omega, fun target kt => ?_⟩
    show Steps p.tables e below (T0.setTop (mkF m 81 #[.val (.int p0), .val (.int p1), .val (.int p2), .val (.int p3), .val (.int p4), .val (.int p5), .val (.int sa), .val (.int sb), .val (.int sc), .val (.int sd), .val (.int se), .val (.int cap0), .val (.ref ck), .unset, .unset] [])) _
    refine XS.iload X0.here hx rfl (hb hby at_81) rfl ?_
    show Steps p.tables e below (T0.setTop (mkF m 83 #[.val (.int p0), .val (.int p1), .val (.int p2), .val (.int p3), .val (.int p4), .val (.int p5), .val (.int sa), .val (.int sb), .val (.int sc), .val (.int sd), .val (.int se), .val (.int cap0), .val (.ref ck), .unset, .unset] [(.int p5)])) _
    refine XS.iconst X0.here hx rfl (hb hby at_83) ?_
    show Steps p.tables e below (T0.setTop (mkF m 84 #[.val (.int p0), .val (.int p1), .val (.int p2), .val (.int p3), .val (.int p4), .val (.int p5), .val (.int sa), .val (.int sb), .val (.int sc), .val (.int sd), .val (.int se), .val (.int cap0), .val (.ref ck), .unset, .unset] [(.int (2 : Int32)), (.int p5)])) _
    refine XS.iand X0.here hx rfl (hb hby at_84) rfl ?_
    show Steps p.tables e below (T0.setTop (mkF m 85 #[.val (.int p0), .val (.int p1), .val (.int p2), .val (.int p3), .val (.int p4), .val (.int p5), .val (.int sa), .val (.int sb), .val (.int sc), .val (.int sd), .val (.int se), .val (.int cap0), .val (.ref ck), .unset, .unset] [(.int (p5 &&& (2 : Int32)))])) _
    refine XS.ifNo X0.here hx rfl (hb hby at_85) rfl ((if0 _ _).trans (feq hc85).1) ?_
    show Steps p.tables e below (T0.setTop (mkF m 88 #[.val (.int p0), .val (.int p1), .val (.int p2), .val (.int p3), .val (.int p4), .val (.int p5), .val (.int sa), .val (.int sb), .val (.int sc), .val (.int sd), .val (.int se), .val (.int cap0), .val (.ref ck), .unset, .unset] [])) _
    refine XS.aload X0.here hx rfl (hb hby at_88) rfl rfl ?_
    show Steps p.tables e below (T0.setTop (mkF m 90 #[.val (.int p0), .val (.int p1), .val (.int p2), .val (.int p3), .val (.int p4), .val (.int p5), .val (.int sa), .val (.int sb), .val (.int sc), .val (.int sd), .val (.int se), .val (.int cap0), .val (.ref ck), .unset, .unset] [(.ref ck)])) _
    refine XS.iload X0.here hx rfl (hb hby at_90) rfl ?_
    show Steps p.tables e below (T0.setTop (mkF m 92 #[.val (.int p0), .val (.int p1), .val (.int p2), .val (.int p3), .val (.int p4), .val (.int p5), .val (.int sa), .val (.int sb), .val (.int sc), .val (.int sd), .val (.int se), .val (.int cap0), .val (.ref ck), .unset, .unset] [(.int sb), (.ref ck)])) _
    refine st1.trans ?_
    show Steps p.tables e below (T1.setTop (mkF m 95 #[.val (.int p0), .val (.int p1), .val (.int p2), .val (.int p3), .val (.int p4), .val (.int p5), .val (.int sa), .val (.int sb), .val (.int sc), .val (.int sd), .val (.int se), .val (.int cap0), .val (.ref ck), .unset, .unset] [])) _
    exact kt
theorem pd_7 : parseMethodDescriptor "(IJ)V" = some ⟨[.int, .long], none⟩ := by decide +kernel
set_option maxRecDepth 65536 in
set_option maxHeartbeats 40000000 in
theorem kg3 {p : Program} {l : Launch} {e : Env} {s : State} {m : MethodId} {args : Array Value} {below : List Frame} {meth : Method} {c : Code} {T0 : State} {locs : List Loc} {cells slots : Nat} {Z : State} {A0 : Array Value} {h0 : Heap} {n0 : Nat} (p0 p1 p2 p3 p4 p5 sa sb sc sd se cap0 : Int32) (ck : Addr) (cap : Int32) (st : Option (List Int64)) (X0 : Stand p l e room_1 s m args below meth c T0 locs cells slots) (hx : p.tables.exec = Jvm.exec) (hZ : Z.Warmed39 s.vm) (hw : ∀ d ∈ tables_1, d.before A0 Z = true) (hby : c.code = code) (hml : c.maxLocals = 15) (hown : s.vm.findClass "com/example/wadjet/wadjet/storage/IntegerChunkIsNullPinLaw" = some m.cls) (e0 : T0.heap = h0) (N0 : Fr n0 locs) (Z0 : n0 ≤ h0.size) (hsc : 0 ≤ sc.toInt ∧ sc.toInt < 256) (hcap : cap.toInt = 4 ∨ cap.toInt = 256) (hcl : cells + 1 ≤ 16) (hsl : slots + 256 ≤ 640) (HK : own_K Z h0 n0 ck cap (0 : Int32) st) :
    ∃ (T' : State) (h' : Heap) (locs' : List Loc) (c' s' : Nat) (cap' bd' : Int32), Stand p l e room_1 s m args below meth c T' locs' c' s' ∧ T'.heap = h' ∧ Fr n0 locs' ∧ n0 ≤ h'.size ∧ own_K Z h' n0 ck cap' bd' (if (p5 &&& (4 : Int32)) = (0 : Int32) then st else (own_cl st sc)) ∧ c' ≤ cells + 1 ∧ s' ≤ slots + 256 ∧
      ∀ target, Steps p.tables e below (T'.setTop (mkF m 112 #[.val (.int p0), .val (.int p1), .val (.int p2), .val (.int p3), .val (.int p4), .val (.int p5), .val (.int sa), .val (.int sb), .val (.int sc), .val (.int sd), .val (.int se), .val (.int cap0), .val (.ref ck), .unset, .unset] [])) target → Steps p.tables e below (T0.setTop (mkF m 95 #[.val (.int p0), .val (.int p1), .val (.int p2), .val (.int p3), .val (.int p4), .val (.int p5), .val (.int sa), .val (.int sb), .val (.int sc), .val (.int sd), .val (.int se), .val (.int cap0), .val (.ref ck), .unset, .unset] [])) target := by
  by_cases hc99 : (p5 &&& (4 : Int32)) = (0 : Int32)
  · refine ⟨T0, _, _, cells, slots, cap, (0 : Int32), X0, e0, N0, Z0, by rw [if_pos hc99]; exact HK, by omega, by omega, fun target kt => ?_⟩
    show Steps p.tables e below (T0.setTop (mkF m 95 #[.val (.int p0), .val (.int p1), .val (.int p2), .val (.int p3), .val (.int p4), .val (.int p5), .val (.int sa), .val (.int sb), .val (.int sc), .val (.int sd), .val (.int se), .val (.int cap0), .val (.ref ck), .unset, .unset] [])) _
    refine XS.iload X0.here hx rfl (hb hby at_95) rfl ?_
    show Steps p.tables e below (T0.setTop (mkF m 97 #[.val (.int p0), .val (.int p1), .val (.int p2), .val (.int p3), .val (.int p4), .val (.int p5), .val (.int sa), .val (.int sb), .val (.int sc), .val (.int sd), .val (.int se), .val (.int cap0), .val (.ref ck), .unset, .unset] [(.int p5)])) _
    refine XS.iconst X0.here hx rfl (hb hby at_97) ?_
    show Steps p.tables e below (T0.setTop (mkF m 98 #[.val (.int p0), .val (.int p1), .val (.int p2), .val (.int p3), .val (.int p4), .val (.int p5), .val (.int sa), .val (.int sb), .val (.int sc), .val (.int sd), .val (.int se), .val (.int cap0), .val (.ref ck), .unset, .unset] [(.int (4 : Int32)), (.int p5)])) _
    refine XS.iand X0.here hx rfl (hb hby at_98) rfl ?_
    show Steps p.tables e below (T0.setTop (mkF m 99 #[.val (.int p0), .val (.int p1), .val (.int p2), .val (.int p3), .val (.int p4), .val (.int p5), .val (.int sa), .val (.int sb), .val (.int sc), .val (.int sd), .val (.int se), .val (.int cap0), .val (.ref ck), .unset, .unset] [(.int (p5 &&& (4 : Int32)))])) _
    refine XS.ifYes X0.here hx rfl (pc0 := 99) (pc' := 112) rfl (hb hby at_99) rfl ((if0 _ _).trans (teq hc99).1) (by decide) (by decide) ?_
    show Steps p.tables e below (T0.setTop (mkF m 112 #[.val (.int p0), .val (.int p1), .val (.int p2), .val (.int p3), .val (.int p4), .val (.int p5), .val (.int sa), .val (.int sb), .val (.int sc), .val (.int sd), .val (.int se), .val (.int cap0), .val (.ref ck), .unset, .unset] [])) _
    exact kt
  · obtain ⟨cq1, kq1, q1a, q1b, q1c⟩ := isOf hZ e0 HK.2.1
    obtain ⟨_, _, ⟨T1, L1, k1, n1⟩, -, X1, ⟨Lc1, hQ1, l1, y1, z1⟩, st1⟩ := X0.virtualBack hx (y := (⟨"com/example/wadjet/wadjet/storage/IntegerChunk", "writeInteger", "(IJ)V"⟩ : MethodName)) (z := (⟨"com/example/wadjet/wadjet/storage/IntegerChunk", "writeInteger", "(IJ)V"⟩ : MethodName)) hown (mvT hZ (hw _ (List.mem_of_getElem? (i := 36) rfl))) (mvT hZ (hw _ (List.mem_of_getElem? (i := 37) rfl))) (notFace_of_selects (args := #[]) (mvT hZ (hw _ (List.mem_of_getElem? (i := 39) rfl)))) (mvT hZ (hw _ (List.mem_of_getElem? (i := 39) rfl))) (mvT hZ (hw _ (List.mem_of_getElem? (i := 38) rfl))) (by decide) (backOf (W := 0) (rm7 l Z A0 hw [] ck sc (p4.toInt64) (cap) (st) h0 n0 Z0 hsc (own_i2l p4) hcap HK) hZ (hw _ (List.mem_of_getElem? (i := 40) rfl)) (hw _ (List.mem_of_getElem? (i := 2) rfl)) (by decide) (by decide)) q1a q1c (g := (mkF m 109 #[.val (.int p0), .val (.int p1), .val (.int p2), .val (.int p3), .val (.int p4), .val (.int p5), .val (.int sa), .val (.int sb), .val (.int sc), .val (.int sd), .val (.int se), .val (.int cap0), .val (.ref ck), .unset, .unset] [(.long (p4.toInt64)), (.int sc), (.ref ck)])) rfl (by rw [hml]; rfl) (Steps.refl _) (argsL := [(.int sc), (.long (p4.toInt64))]) (rest := []) (lenOf pd_7 rfl) rfl (by show 2 * 0 + _ ≤ _; exact Nat.le_of_eq rfl) (hb hby at_109) (fun _ _ => ⟨rfl, e0, (by show cells + 1 ≤ 16; omega), (by show slots + 256 ≤ 640; omega)⟩)
    dsimp only [Pt.U, Pt.locs, Pt.cells, Pt.slots] at X1 l1 y1 z1 st1 hQ1
    rw [y1, z1] at X1
    obtain ⟨rfl, N1q, hsz1, cq1, HK1⟩ := hQ1
    have N1 : Fr n0 L1 := by rw [l1]; exact Fr.app N0 N1q
    clear l1
    have Z_1 : n0 ≤ T1.heap.size := Nat.le_trans Z0 hsz1
    refine ⟨T1, _, _, (cells + 1), (slots + 256), cq1, (1 : Int32), X1, rfl, N1, Z_1, by rw [if_neg hc99]; exact HK1, by omega, by omega, fun target kt => ?_⟩
    show Steps p.tables e below (T0.setTop (mkF m 95 #[.val (.int p0), .val (.int p1), .val (.int p2), .val (.int p3), .val (.int p4), .val (.int p5), .val (.int sa), .val (.int sb), .val (.int sc), .val (.int sd), .val (.int se), .val (.int cap0), .val (.ref ck), .unset, .unset] [])) _
    refine XS.iload X0.here hx rfl (hb hby at_95) rfl ?_
    show Steps p.tables e below (T0.setTop (mkF m 97 #[.val (.int p0), .val (.int p1), .val (.int p2), .val (.int p3), .val (.int p4), .val (.int p5), .val (.int sa), .val (.int sb), .val (.int sc), .val (.int sd), .val (.int se), .val (.int cap0), .val (.ref ck), .unset, .unset] [(.int p5)])) _
    refine XS.iconst X0.here hx rfl (hb hby at_97) ?_
    show Steps p.tables e below (T0.setTop (mkF m 98 #[.val (.int p0), .val (.int p1), .val (.int p2), .val (.int p3), .val (.int p4), .val (.int p5), .val (.int sa), .val (.int sb), .val (.int sc), .val (.int sd), .val (.int se), .val (.int cap0), .val (.ref ck), .unset, .unset] [(.int (4 : Int32)), (.int p5)])) _
    refine XS.iand X0.here hx rfl (hb hby at_98) rfl ?_
    show Steps p.tables e below (T0.setTop (mkF m 99 #[.val (.int p0), .val (.int p1), .val (.int p2), .val (.int p3), .val (.int p4), .val (.int p5), .val (.int sa), .val (.int sb), .val (.int sc), .val (.int sd), .val (.int se), .val (.int cap0), .val (.ref ck), .unset, .unset] [(.int (p5 &&& (4 : Int32)))])) _
    refine XS.ifNo X0.here hx rfl (hb hby at_99) rfl ((if0 _ _).trans (feq hc99).1) ?_
    show Steps p.tables e below (T0.setTop (mkF m 102 #[.val (.int p0), .val (.int p1), .val (.int p2), .val (.int p3), .val (.int p4), .val (.int p5), .val (.int sa), .val (.int sb), .val (.int sc), .val (.int sd), .val (.int se), .val (.int cap0), .val (.ref ck), .unset, .unset] [])) _
    refine XS.aload X0.here hx rfl (hb hby at_102) rfl rfl ?_
    show Steps p.tables e below (T0.setTop (mkF m 104 #[.val (.int p0), .val (.int p1), .val (.int p2), .val (.int p3), .val (.int p4), .val (.int p5), .val (.int sa), .val (.int sb), .val (.int sc), .val (.int sd), .val (.int se), .val (.int cap0), .val (.ref ck), .unset, .unset] [(.ref ck)])) _
    refine XS.iload X0.here hx rfl (hb hby at_104) rfl ?_
    show Steps p.tables e below (T0.setTop (mkF m 106 #[.val (.int p0), .val (.int p1), .val (.int p2), .val (.int p3), .val (.int p4), .val (.int p5), .val (.int sa), .val (.int sb), .val (.int sc), .val (.int sd), .val (.int se), .val (.int cap0), .val (.ref ck), .unset, .unset] [(.int sc), (.ref ck)])) _
    refine XS.iload X0.here hx rfl (hb hby at_106) rfl ?_
    show Steps p.tables e below (T0.setTop (mkF m 108 #[.val (.int p0), .val (.int p1), .val (.int p2), .val (.int p3), .val (.int p4), .val (.int p5), .val (.int sa), .val (.int sb), .val (.int sc), .val (.int sd), .val (.int se), .val (.int cap0), .val (.ref ck), .unset, .unset] [(.int p4), (.int sc), (.ref ck)])) _
    refine XS.i2l X0.here hx rfl (hb hby at_108) rfl ?_
    show Steps p.tables e below (T0.setTop (mkF m 109 #[.val (.int p0), .val (.int p1), .val (.int p2), .val (.int p3), .val (.int p4), .val (.int p5), .val (.int sa), .val (.int sb), .val (.int sc), .val (.int sd), .val (.int se), .val (.int cap0), .val (.ref ck), .unset, .unset] [(.long (p4.toInt64)), (.int sc), (.ref ck)])) _
    refine st1.trans ?_
    show Steps p.tables e below (T1.setTop (mkF m 112 #[.val (.int p0), .val (.int p1), .val (.int p2), .val (.int p3), .val (.int p4), .val (.int p5), .val (.int sa), .val (.int sb), .val (.int sc), .val (.int sd), .val (.int se), .val (.int cap0), .val (.ref ck), .unset, .unset] [])) _
    exact kt
set_option maxRecDepth 65536 in
set_option maxHeartbeats 40000000 in
theorem kg4 {p : Program} {l : Launch} {e : Env} {s : State} {m : MethodId} {args : Array Value} {below : List Frame} {meth : Method} {c : Code} {T0 : State} {locs : List Loc} {cells slots : Nat} {Z : State} {A0 : Array Value} {h0 : Heap} {n0 : Nat} (p0 p1 p2 p3 p4 p5 sa sb sc sd se cap0 : Int32) (ck : Addr) (cap bd : Int32) (st : Option (List Int64)) (X0 : Stand p l e room_1 s m args below meth c T0 locs cells slots) (hx : p.tables.exec = Jvm.exec) (hZ : Z.Warmed39 s.vm) (hw : ∀ d ∈ tables_1, d.before A0 Z = true) (hby : c.code = code) (hml : c.maxLocals = 15) (hown : s.vm.findClass "com/example/wadjet/wadjet/storage/IntegerChunkIsNullPinLaw" = some m.cls) (e0 : T0.heap = h0) (N0 : Fr n0 locs) (Z0 : n0 ≤ h0.size) (hse : 0 ≤ se.toInt ∧ se.toInt < 256) (hcl : cells + 0 ≤ 16) (hsl : slots + 0 ≤ 640) (HK : own_K Z h0 n0 ck cap bd st) :
    ∃ (T' : State) (h' : Heap) (locs' : List Loc) (c' s' : Nat), Stand p l e room_1 s m args below meth c T' locs' c' s' ∧ T'.heap = h' ∧ Fr n0 locs' ∧ n0 ≤ h'.size ∧ own_K Z h' n0 ck cap bd (if (p5 &&& (16 : Int32)) = (0 : Int32) then st else (own_cl st se)) ∧ c' ≤ cells + 0 ∧ s' ≤ slots + 0 ∧
      ∀ target, Steps p.tables e below (T'.setTop (mkF m 127 #[.val (.int p0), .val (.int p1), .val (.int p2), .val (.int p3), .val (.int p4), .val (.int p5), .val (.int sa), .val (.int sb), .val (.int sc), .val (.int sd), .val (.int se), .val (.int cap0), .val (.ref ck), .unset, .unset] [])) target → Steps p.tables e below (T0.setTop (mkF m 112 #[.val (.int p0), .val (.int p1), .val (.int p2), .val (.int p3), .val (.int p4), .val (.int p5), .val (.int sa), .val (.int sb), .val (.int sc), .val (.int sd), .val (.int se), .val (.int cap0), .val (.ref ck), .unset, .unset] [])) target := by
  by_cases hc117 : (p5 &&& (16 : Int32)) = (0 : Int32)
  · refine ⟨T0, _, _, cells, slots, X0, e0, N0, Z0, by rw [if_pos hc117]; exact HK, by omega, by omega, fun target kt => ?_⟩
    show Steps p.tables e below (T0.setTop (mkF m 112 #[.val (.int p0), .val (.int p1), .val (.int p2), .val (.int p3), .val (.int p4), .val (.int p5), .val (.int sa), .val (.int sb), .val (.int sc), .val (.int sd), .val (.int se), .val (.int cap0), .val (.ref ck), .unset, .unset] [])) _
    refine XS.iload X0.here hx rfl (hb hby at_112) rfl ?_
    show Steps p.tables e below (T0.setTop (mkF m 114 #[.val (.int p0), .val (.int p1), .val (.int p2), .val (.int p3), .val (.int p4), .val (.int p5), .val (.int sa), .val (.int sb), .val (.int sc), .val (.int sd), .val (.int se), .val (.int cap0), .val (.ref ck), .unset, .unset] [(.int p5)])) _
    refine XS.bipush X0.here hx rfl (hb hby at_114) ?_
    show Steps p.tables e below (T0.setTop (mkF m 116 #[.val (.int p0), .val (.int p1), .val (.int p2), .val (.int p3), .val (.int p4), .val (.int p5), .val (.int sa), .val (.int sb), .val (.int sc), .val (.int sd), .val (.int se), .val (.int cap0), .val (.ref ck), .unset, .unset] [(.int (16 : Int32)), (.int p5)])) _
    refine XS.iand X0.here hx rfl (hb hby at_116) rfl ?_
    show Steps p.tables e below (T0.setTop (mkF m 117 #[.val (.int p0), .val (.int p1), .val (.int p2), .val (.int p3), .val (.int p4), .val (.int p5), .val (.int sa), .val (.int sb), .val (.int sc), .val (.int sd), .val (.int se), .val (.int cap0), .val (.ref ck), .unset, .unset] [(.int (p5 &&& (16 : Int32)))])) _
    refine XS.ifYes X0.here hx rfl (pc0 := 117) (pc' := 127) rfl (hb hby at_117) rfl ((if0 _ _).trans (teq hc117).1) (by decide) (by decide) ?_
    show Steps p.tables e below (T0.setTop (mkF m 127 #[.val (.int p0), .val (.int p1), .val (.int p2), .val (.int p3), .val (.int p4), .val (.int p5), .val (.int sa), .val (.int sb), .val (.int sc), .val (.int sd), .val (.int se), .val (.int cap0), .val (.ref ck), .unset, .unset] [])) _
    exact kt
  · obtain ⟨cq1, kq1, q1a, q1b, q1c⟩ := isOf hZ e0 HK.2.1
    obtain ⟨_, _, ⟨T1, L1, k1, n1⟩, -, X1, ⟨Lc1, hQ1, l1, y1, z1⟩, st1⟩ := X0.virtualBack hx (y := (⟨"com/example/wadjet/wadjet/storage/IntegerChunk", "clear", "(I)V"⟩ : MethodName)) (z := (⟨"com/example/wadjet/wadjet/storage/IntegerChunk", "clear", "(I)V"⟩ : MethodName)) hown (mvT hZ (hw _ (List.mem_of_getElem? (i := 54) rfl))) (mvT hZ (hw _ (List.mem_of_getElem? (i := 55) rfl))) (notFace_of_selects (args := #[]) (mvT hZ (hw _ (List.mem_of_getElem? (i := 57) rfl)))) (mvT hZ (hw _ (List.mem_of_getElem? (i := 57) rfl))) (mvT hZ (hw _ (List.mem_of_getElem? (i := 56) rfl))) (by decide) (backOf (W := 0) (rm10 l Z A0 hw [] ck se (cap) (bd) (st) h0 n0 Z0 hse HK) hZ (hw _ (List.mem_of_getElem? (i := 58) rfl)) (hw _ (List.mem_of_getElem? (i := 2) rfl)) (by decide) (by decide)) q1a q1c (g := (mkF m 124 #[.val (.int p0), .val (.int p1), .val (.int p2), .val (.int p3), .val (.int p4), .val (.int p5), .val (.int sa), .val (.int sb), .val (.int sc), .val (.int sd), .val (.int se), .val (.int cap0), .val (.ref ck), .unset, .unset] [(.int se), (.ref ck)])) rfl (by rw [hml]; rfl) (Steps.refl _) (argsL := [(.int se)]) (rest := []) (lenOf pd_6 rfl) rfl (by show 2 * 0 + _ ≤ _; exact Nat.le_of_eq rfl) (hb hby at_124) (fun _ _ => ⟨rfl, e0, (by show cells + 0 ≤ 16; omega), (by show slots + 0 ≤ 640; omega)⟩)
    dsimp only [Pt.U, Pt.locs, Pt.cells, Pt.slots] at X1 l1 y1 z1 st1 hQ1
    rw [y1, z1] at X1
    obtain ⟨rfl, N1q, hsz1, HK1⟩ := hQ1
    have N1 : Fr n0 L1 := by rw [l1]; exact Fr.app N0 N1q
    clear l1
    have Z_1 : n0 ≤ T1.heap.size := Nat.le_trans Z0 hsz1
    refine ⟨T1, _, _, cells, slots, X1, rfl, N1, Z_1, by rw [if_neg hc117]; exact HK1, by omega, by omega, fun target kt => ?_⟩
    show Steps p.tables e below (T0.setTop (mkF m 112 #[.val (.int p0), .val (.int p1), .val (.int p2), .val (.int p3), .val (.int p4), .val (.int p5), .val (.int sa), .val (.int sb), .val (.int sc), .val (.int sd), .val (.int se), .val (.int cap0), .val (.ref ck), .unset, .unset] [])) _
    refine XS.iload X0.here hx rfl (hb hby at_112) rfl ?_
    show Steps p.tables e below (T0.setTop (mkF m 114 #[.val (.int p0), .val (.int p1), .val (.int p2), .val (.int p3), .val (.int p4), .val (.int p5), .val (.int sa), .val (.int sb), .val (.int sc), .val (.int sd), .val (.int se), .val (.int cap0), .val (.ref ck), .unset, .unset] [(.int p5)])) _
    refine XS.bipush X0.here hx rfl (hb hby at_114) ?_
    show Steps p.tables e below (T0.setTop (mkF m 116 #[.val (.int p0), .val (.int p1), .val (.int p2), .val (.int p3), .val (.int p4), .val (.int p5), .val (.int sa), .val (.int sb), .val (.int sc), .val (.int sd), .val (.int se), .val (.int cap0), .val (.ref ck), .unset, .unset] [(.int (16 : Int32)), (.int p5)])) _
    refine XS.iand X0.here hx rfl (hb hby at_116) rfl ?_
    show Steps p.tables e below (T0.setTop (mkF m 117 #[.val (.int p0), .val (.int p1), .val (.int p2), .val (.int p3), .val (.int p4), .val (.int p5), .val (.int sa), .val (.int sb), .val (.int sc), .val (.int sd), .val (.int se), .val (.int cap0), .val (.ref ck), .unset, .unset] [(.int (p5 &&& (16 : Int32)))])) _
    refine XS.ifNo X0.here hx rfl (hb hby at_117) rfl ((if0 _ _).trans (feq hc117).1) ?_
    show Steps p.tables e below (T0.setTop (mkF m 120 #[.val (.int p0), .val (.int p1), .val (.int p2), .val (.int p3), .val (.int p4), .val (.int p5), .val (.int sa), .val (.int sb), .val (.int sc), .val (.int sd), .val (.int se), .val (.int cap0), .val (.ref ck), .unset, .unset] [])) _
    refine XS.aload X0.here hx rfl (hb hby at_120) rfl rfl ?_
    show Steps p.tables e below (T0.setTop (mkF m 122 #[.val (.int p0), .val (.int p1), .val (.int p2), .val (.int p3), .val (.int p4), .val (.int p5), .val (.int sa), .val (.int sb), .val (.int sc), .val (.int sd), .val (.int se), .val (.int cap0), .val (.ref ck), .unset, .unset] [(.ref ck)])) _
    refine XS.iload X0.here hx rfl (hb hby at_122) rfl ?_
    show Steps p.tables e below (T0.setTop (mkF m 124 #[.val (.int p0), .val (.int p1), .val (.int p2), .val (.int p3), .val (.int p4), .val (.int p5), .val (.int sa), .val (.int sb), .val (.int sc), .val (.int sd), .val (.int se), .val (.int cap0), .val (.ref ck), .unset, .unset] [(.int se), (.ref ck)])) _
    refine st1.trans ?_
    show Steps p.tables e below (T1.setTop (mkF m 127 #[.val (.int p0), .val (.int p1), .val (.int p2), .val (.int p3), .val (.int p4), .val (.int p5), .val (.int sa), .val (.int sb), .val (.int sc), .val (.int sd), .val (.int se), .val (.int cap0), .val (.ref ck), .unset, .unset] [])) _
    exact kt
theorem pd_8 : parseMethodDescriptor "(I)Z" = some ⟨[.int], some .boolean⟩ := by decide +kernel
theorem pd_9 : parseMethodDescriptor "(IIIIII)Z" = some ⟨[.int, .int, .int, .int, .int, .int], some .boolean⟩ := by decide +kernel
theorem pn_0 : plainName "com/example/wadjet/wadjet/storage/IntegerChunkIsNullPinLaw" = true := by first | (simp [plainName, overriddenIn]; done) | decide +kernel
theorem ef_rm0 (m : MethodId) (p0 : Int32) (p1 : Int32) (p2 : Int32) (p3 : Int32) (p4 : Int32) (p5 : Int32) : entryFrame m #[(.int p0), (.int p1), (.int p2), (.int p3), (.int p4), (.int p5)] maxLocals = mkF m 0 #[.val (.int p0), .val (.int p1), .val (.int p2), .val (.int p3), .val (.int p4), .val (.int p5), .unset, .unset, .unset, .unset, .unset, .unset, .unset, .unset, .unset] [] := by first | (simp [entryFrame, mkF, argsToLocals, Value.category, maxLocals]; done) | rfl
def Qrm0 (Z : State) (p0 : Int32) (p1 : Int32) (p2 : Int32) (p3 : Int32) (p4 : Int32) (p5 : Int32) (h0 : Heap) (n0 : Nat) (v : Option Value) (h : Heap) (L : List Loc) : Prop := v = some (.int (1 : Int32)) ∧ Fr n0 L
set_option maxRecDepth 65536 in
set_option maxHeartbeats 40000000 in
theorem rm0 (l : Launch) (Z : State) (A0 : Array Value) (hw : ∀ d ∈ tables_1, d.before A0 Z = true) (ws : List Jvm.Cond) (p0 : Int32) (p1 : Int32) (p2 : Int32) (p3 : Int32) (p4 : Int32) (p5 : Int32) (h0 : Heap) (n0 : Nat) (Z0 : n0 ≤ h0.size) :
    MetFree l x (head1 (Jvm.Cond.code x code maxLocals ret :: ws) room_1) (fun a U => a = #[(.int p0), (.int p1), (.int p2), (.int p3), (.int p4), (.int p5)] ∧ Z.Warmed39 U.vm ∧ U.heap = h0) (fun _ _ _ _ _ => True) (fun _ U o U' => ∃ v L, o = .returned v ∧ Qrm0 Z p0 p1 p2 p3 p4 p5 h0 n0 v U'.heap L ∧ FrameEnd U o U' L room_1.cells room_1.slots) := by
  refine MetFree.of_bodySF (plainFor_of_name pn_0) hisR ?_
  intro p e s m args below meth c s₁ Bd hml0 hP hK
  obtain ⟨rfl, hZ, hh⟩ := hP
  have hx := Bd.exec
  have hby := Bd.bytes
  have hml : c.maxLocals = 15 := hml0
  have hown : s.vm.findClass "com/example/wadjet/wadjet/storage/IntegerChunkIsNullPinLaw" = some m.cls := findClass_of_methodNamed Bd.named
  have hnm := (name_of_methodNamed Bd.named Bd.method).1
  have X0 : Stand p l e room_1 s m #[(.int p0), (.int p1), (.int p2), (.int p3), (.int p4), (.int p5)] below meth c s₁ [] 0 0 := Stand.of_body Bd
  have e0 : s₁.heap = h0 := by rw [← hh, Bd.state]; rfl
  have N0 := Fr.nil n0
  have K0 : Keep h0 h0 [] := Keep.refl _ _
  have pre0 : ∀ t, Steps p.tables e below (s₁.setTop (mkF m 0 #[.val (.int p0), .val (.int p1), .val (.int p2), .val (.int p3), .val (.int p4), .val (.int p5), .unset, .unset, .unset, .unset, .unset, .unset, .unset, .unset, .unset] [])) t → Steps p.tables e below (s₁.setTop (entryFrame m #[(.int p0), (.int p1), (.int p2), (.int p3), (.int p4), (.int p5)] maxLocals)) t := fun t k => castTop (ef_rm0 m p0 p1 p2 p3 p4 p5) k
  obtain ⟨sa, h_sa⟩ : ∃ z : Int32, z = (p0 &&& (255 : Int32)) := ⟨_, rfl⟩
  have hsa : 0 ≤ sa.toInt ∧ sa.toInt < 256 := h_sa ▸ own_255 p0
  obtain ⟨sb, h_sb⟩ : ∃ z : Int32, z = (p1 &&& (255 : Int32)) := ⟨_, rfl⟩
  have hsb : 0 ≤ sb.toInt ∧ sb.toInt < 256 := h_sb ▸ own_255 p1
  obtain ⟨sc, h_sc⟩ : ∃ z : Int32, z = (p2 &&& (255 : Int32)) := ⟨_, rfl⟩
  have hsc : 0 ≤ sc.toInt ∧ sc.toInt < 256 := h_sc ▸ own_255 p2
  obtain ⟨sd, h_sd⟩ : ∃ z : Int32, z = (p3 &&& (255 : Int32)) := ⟨_, rfl⟩
  have hsd : 0 ≤ sd.toInt ∧ sd.toInt < 256 := h_sd ▸ own_255 p3
  obtain ⟨se, h_se⟩ : ∃ z : Int32, z = (((p5.toUInt32 >>> ((8 : Int32) &&& 31).toUInt32).toInt32) &&& (255 : Int32)) := ⟨_, rfl⟩
  have hse : 0 ≤ se.toInt ∧ se.toInt < 256 := h_se ▸ own_255 _
  obtain ⟨cap, h_cap⟩ : ∃ z : Int32, z = (if (p5 &&& (8 : Int32)) = (0 : Int32) then (4 : Int32) else (256 : Int32)) := ⟨_, rfl⟩
  have hcap : cap.toInt = 4 ∨ cap.toInt = 256 := own_capb h_cap
  obtain ⟨T1, h1, X1, e1, E1, A1, D1, -, st1⟩ := newO X0 hx hZ hown (hw _ (List.mem_of_getElem? (i := 0) rfl)) (hw _ (List.mem_of_getElem? (i := 1) rfl)) (hw _ (List.mem_of_getElem? (i := 2) rfl)) e0 (g := (mkF m 56 #[.val (.int p0), .val (.int p1), .val (.int p2), .val (.int p3), .val (.int p4), .val (.int p5), .val (.int sa), .val (.int sb), .val (.int sc), .val (.int sd), .val (.int se), .val (.int cap), .unset, .unset, .unset] [])) rfl (hb hby at_56) (by decide) (by decide)
  obtain ⟨ck, g1⟩ : ∃ z, z = h0.size := ⟨_, rfl⟩
  rw [← g1] at A1 D1 st1
  have g_ck : n0 ≤ ck := Nat.le_trans Z0 (Nat.le_of_eq g1.symm)
  have sz_ck : h0.size ≤ ck := Nat.le_trans K0.1 (Nat.le_of_eq g1.symm)
  have Zh1 : n0 ≤ h1.size := Nat.le_trans Z0 E1.1
  have Kh1 : Keep h0 h1 [] := K0.ext E1
  have E_ck : Exa Z h1 ck "com/example/wadjet/wadjet/storage/IntegerChunk" := A1
  have F_width_ck : Fld Z h1 ck "com/example/wadjet/wadjet/storage/IntegerChunk" "width" "I" (.int (0 : Int32)) := D1 (Or.inl (hw _ (List.mem_of_getElem? (i := 15) rfl))) (ty := .int) (by decide)
  have F_narrow_ck : Fld Z h1 ck "com/example/wadjet/wadjet/storage/IntegerChunk" "narrow" "[B" .null := D1 (Or.inl (hw _ (List.mem_of_getElem? (i := 18) rfl))) (ty := (.array .byte)) (by decide)
  have F_nulls_ck : Fld Z h1 ck "com/example/wadjet/wadjet/storage/IntegerChunk" "nulls" "[J" .null := D1 (Or.inl (hw _ (List.mem_of_getElem? (i := 25) rfl))) (ty := (.array .long)) (by decide)
  have F_based_ck : Fld Z h1 ck "com/example/wadjet/wadjet/storage/IntegerChunk" "based" "Z" (.int (0 : Int32)) := D1 (Or.inl (hw _ (List.mem_of_getElem? (i := 46) rfl))) (ty := .boolean) (by decide)
  have F_base_ck : Fld Z h1 ck "com/example/wadjet/wadjet/storage/IntegerChunk" "base" "J" (.long (0 : Int64)) := D1 (Or.inl (hw _ (List.mem_of_getElem? (i := 48) rfl))) (ty := .long) (by decide)
  have F_middle_ck : Fld Z h1 ck "com/example/wadjet/wadjet/storage/IntegerChunk" "middle" "[C" .null := D1 (Or.inl (hw _ (List.mem_of_getElem? (i := 92) rfl))) (ty := (.array .char)) (by decide)
  have F_wide_ck : Fld Z h1 ck "com/example/wadjet/wadjet/storage/IntegerChunk" "wide" "[I" .null := D1 (Or.inl (hw _ (List.mem_of_getElem? (i := 94) rfl))) (ty := (.array .int)) (by decide)
  obtain ⟨_, _, ⟨T2, L2, k2, n2⟩, -, X2, ⟨Lc2, hQ2, l2, y2, z2⟩, st2⟩ := X1.specialBack hx (y := (⟨"com/example/wadjet/wadjet/storage/IntegerChunk", "<init>", "(I)V"⟩ : MethodName)) rfl hown (mvT hZ (hw _ (List.mem_of_getElem? (i := 3) rfl))) (mvT hZ (hw _ (List.mem_of_getElem? (i := 4) rfl))) (mvT hZ (hw _ (List.mem_of_getElem? (i := 5) rfl))) (by decide) (backOf (W := 1) (rm1 l Z A0 hw [] ck cap (.int (0 : Int32)) .null .null .null h1 n0 Zh1 E_ck F_width_ck F_base_ck F_based_ck F_narrow_ck F_middle_ck F_wide_ck F_nulls_ck g_ck (by omega)) hZ (hw _ (List.mem_of_getElem? (i := 5) rfl)) (hw _ (List.mem_of_getElem? (i := 2) rfl)) (by decide) (by decide)) (g := (mkF m 62 #[.val (.int p0), .val (.int p1), .val (.int p2), .val (.int p3), .val (.int p4), .val (.int p5), .val (.int sa), .val (.int sb), .val (.int sc), .val (.int sd), .val (.int se), .val (.int cap), .unset, .unset, .unset] [(.int cap), (.ref ck), (.ref ck)])) rfl (by rw [hml]; rfl) (Steps.refl _) (a := ck) (argsL := [(.int cap)]) (rest := [(.ref ck)]) (lenOf pd_6 rfl) rfl (by show 2 * 0 + _ ≤ _; exact Nat.le_of_eq rfl) (hb hby at_62) (fun _ _ => ⟨rfl, e1, (by decide : 1 + 1 ≤ _), (by decide : 7 + 256 ≤ _)⟩)
  dsimp only [Pt.U, Pt.locs, Pt.cells, Pt.slots] at X2 l2 y2 z2 st2 hQ2
  subst y2 z2
  obtain ⟨rfl, N2q, hsz2, HK2⟩ := hQ2
  have N2 : Fr n0 L2 := by rw [l2]; exact Fr.app N0 N2q
  clear l2
  have Z_2 : n0 ≤ T2.heap.size := Nat.le_trans Zh1 hsz2
  obtain ⟨T3, h3, L3, c3, s3, X3, e3, N3, Z3, HK3, hc3, hs3, st3⟩ := kg1 p0 p1 p2 p3 p4 p5 sa sb sc sd se cap ck (cap) (0) (none) X2 hx hZ hw hby hml hown rfl N2 Z_2 hsa (by omega) (by omega) HK2
  obtain ⟨T4, h4, L4, c4, s4, X4, e4, N4, Z4, HK4, hc4, hs4, st4⟩ := kg2 p0 p1 p2 p3 p4 p5 sa sb sc sd se cap ck (cap) (0) (if (p5 &&& (1 : Int32)) = (0 : Int32) then none else own_wn (none) sa) X3 hx hZ hw hby hml hown e3 N3 Z3 hsb (by omega) (by omega) HK3
  obtain ⟨T5, h5, L5, c5, s5, cp5, bd5, X5, e5, N5, Z5, HK5, hc5, hs5, st5⟩ := kg3 p0 p1 p2 p3 p4 p5 sa sb sc sd se cap ck (cap) (if (p5 &&& (2 : Int32)) = (0 : Int32) then if (p5 &&& (1 : Int32)) = (0 : Int32) then none else own_wn (none) sa else own_wn (if (p5 &&& (1 : Int32)) = (0 : Int32) then none else own_wn (none) sa) sb) X4 hx hZ hw hby hml hown e4 N4 Z4 hsc hcap (by omega) (by omega) HK4
  obtain ⟨T6, h6, L6, c6, s6, X6, e6, N6, Z6, HK6, hc6, hs6, st6⟩ := kg4 p0 p1 p2 p3 p4 p5 sa sb sc sd se cap ck (cp5) (bd5) (if (p5 &&& (4 : Int32)) = (0 : Int32) then if (p5 &&& (2 : Int32)) = (0 : Int32) then if (p5 &&& (1 : Int32)) = (0 : Int32) then none else own_wn (none) sa else own_wn (if (p5 &&& (1 : Int32)) = (0 : Int32) then none else own_wn (none) sa) sb else own_cl (if (p5 &&& (2 : Int32)) = (0 : Int32) then if (p5 &&& (1 : Int32)) = (0 : Int32) then none else own_wn (none) sa else own_wn (if (p5 &&& (1 : Int32)) = (0 : Int32) then none else own_wn (none) sa) sb) sc) X5 hx hZ hw hby hml hown e5 N5 Z5 hse (by omega) (by omega) HK5
  obtain ⟨cq7, kq7, q7a, q7b, q7c⟩ := isOf hZ e6 HK6.2.1
  obtain ⟨_, _, ⟨T7, L7, k7, n7⟩, -, X7, ⟨Lc7, hQ7, l7, y7, z7⟩, st7⟩ := X6.virtualBack hx (y := (⟨"com/example/wadjet/wadjet/storage/IntegerChunk", "isNull", "(I)Z"⟩ : MethodName)) (z := (⟨"com/example/wadjet/wadjet/storage/IntegerChunk", "isNull", "(I)Z"⟩ : MethodName)) hown (mvT hZ (hw _ (List.mem_of_getElem? (i := 27) rfl))) (mvT hZ (hw _ (List.mem_of_getElem? (i := 28) rfl))) (notFace_of_selects (args := #[]) (mvT hZ (hw _ (List.mem_of_getElem? (i := 30) rfl)))) (mvT hZ (hw _ (List.mem_of_getElem? (i := 30) rfl))) (mvT hZ (hw _ (List.mem_of_getElem? (i := 29) rfl))) (by decide) (backOf (W := 0) (rm5 l Z A0 hw [] ck sd (cp5) (bd5) (if (p5 &&& (16 : Int32)) = (0 : Int32) then if (p5 &&& (4 : Int32)) = (0 : Int32) then if (p5 &&& (2 : Int32)) = (0 : Int32) then if (p5 &&& (1 : Int32)) = (0 : Int32) then none else own_wn (none) sa else own_wn (if (p5 &&& (1 : Int32)) = (0 : Int32) then none else own_wn (none) sa) sb else own_cl (if (p5 &&& (2 : Int32)) = (0 : Int32) then if (p5 &&& (1 : Int32)) = (0 : Int32) then none else own_wn (none) sa else own_wn (if (p5 &&& (1 : Int32)) = (0 : Int32) then none else own_wn (none) sa) sb) sc else own_cl (if (p5 &&& (4 : Int32)) = (0 : Int32) then if (p5 &&& (2 : Int32)) = (0 : Int32) then if (p5 &&& (1 : Int32)) = (0 : Int32) then none else own_wn (none) sa else own_wn (if (p5 &&& (1 : Int32)) = (0 : Int32) then none else own_wn (none) sa) sb else own_cl (if (p5 &&& (2 : Int32)) = (0 : Int32) then if (p5 &&& (1 : Int32)) = (0 : Int32) then none else own_wn (none) sa else own_wn (if (p5 &&& (1 : Int32)) = (0 : Int32) then none else own_wn (none) sa) sb) sc) se) h6 n0 Z6 hsd HK6) hZ (hw _ (List.mem_of_getElem? (i := 31) rfl)) (hw _ (List.mem_of_getElem? (i := 2) rfl)) (by decide) (by decide)) q7a q7c (g := (mkF m 131 #[.val (.int p0), .val (.int p1), .val (.int p2), .val (.int p3), .val (.int p4), .val (.int p5), .val (.int sa), .val (.int sb), .val (.int sc), .val (.int sd), .val (.int se), .val (.int cap), .val (.ref ck), .unset, .unset] [(.int sd), (.ref ck)])) rfl (by rw [hml]; rfl) (Steps.refl _) (argsL := [(.int sd)]) (rest := []) (lenOf pd_8 rfl) rfl (by show 2 * 0 + _ ≤ _; exact Nat.le_of_eq rfl) (hb hby at_131) (fun _ _ => ⟨rfl, e6, (by show c6 + 0 ≤ 16; omega), (by show s6 + 0 ≤ 640; omega)⟩)
  dsimp only [Pt.U, Pt.locs, Pt.cells, Pt.slots] at X7 l7 y7 z7 st7 hQ7
  rw [y7, z7] at X7
  obtain ⟨rfl, N7q, eh7⟩ := hQ7
  have N7 : Fr n0 L7 := by rw [l7]; exact Fr.app N6 N7q
  clear l7
  obtain ⟨cq8, kq8, q8a, q8b, q8c⟩ := isOf hZ eh7 HK6.2.1
  obtain ⟨_, _, ⟨T8, L8, k8, n8⟩, -, X8, ⟨Lc8, hQ8, l8, y8, z8⟩, st8⟩ := X7.virtualBack hx (y := (⟨"com/example/wadjet/wadjet/storage/IntegerChunk", "isNull", "(I)Z"⟩ : MethodName)) (z := (⟨"com/example/wadjet/wadjet/storage/IntegerChunk", "isNull", "(I)Z"⟩ : MethodName)) hown (mvT hZ (hw _ (List.mem_of_getElem? (i := 27) rfl))) (mvT hZ (hw _ (List.mem_of_getElem? (i := 28) rfl))) (notFace_of_selects (args := #[]) (mvT hZ (hw _ (List.mem_of_getElem? (i := 30) rfl)))) (mvT hZ (hw _ (List.mem_of_getElem? (i := 30) rfl))) (mvT hZ (hw _ (List.mem_of_getElem? (i := 29) rfl))) (by decide) (backOf (W := 0) (rm5 l Z A0 hw [] ck sa (cp5) (bd5) (if (p5 &&& (16 : Int32)) = (0 : Int32) then if (p5 &&& (4 : Int32)) = (0 : Int32) then if (p5 &&& (2 : Int32)) = (0 : Int32) then if (p5 &&& (1 : Int32)) = (0 : Int32) then none else own_wn (none) sa else own_wn (if (p5 &&& (1 : Int32)) = (0 : Int32) then none else own_wn (none) sa) sb else own_cl (if (p5 &&& (2 : Int32)) = (0 : Int32) then if (p5 &&& (1 : Int32)) = (0 : Int32) then none else own_wn (none) sa else own_wn (if (p5 &&& (1 : Int32)) = (0 : Int32) then none else own_wn (none) sa) sb) sc else own_cl (if (p5 &&& (4 : Int32)) = (0 : Int32) then if (p5 &&& (2 : Int32)) = (0 : Int32) then if (p5 &&& (1 : Int32)) = (0 : Int32) then none else own_wn (none) sa else own_wn (if (p5 &&& (1 : Int32)) = (0 : Int32) then none else own_wn (none) sa) sb else own_cl (if (p5 &&& (2 : Int32)) = (0 : Int32) then if (p5 &&& (1 : Int32)) = (0 : Int32) then none else own_wn (none) sa else own_wn (if (p5 &&& (1 : Int32)) = (0 : Int32) then none else own_wn (none) sa) sb) sc) se) h6 n0 Z6 hsa HK6) hZ (hw _ (List.mem_of_getElem? (i := 31) rfl)) (hw _ (List.mem_of_getElem? (i := 2) rfl)) (by decide) (by decide)) q8a q8c (g := (mkF m 140 #[.val (.int p0), .val (.int p1), .val (.int p2), .val (.int p3), .val (.int p4), .val (.int p5), .val (.int sa), .val (.int sb), .val (.int sc), .val (.int sd), .val (.int se), .val (.int cap), .val (.ref ck), .val (.int (own_isn (if (p5 &&& (16 : Int32)) = (0 : Int32) then if (p5 &&& (4 : Int32)) = (0 : Int32) then if (p5 &&& (2 : Int32)) = (0 : Int32) then if (p5 &&& (1 : Int32)) = (0 : Int32) then none else own_wn (none) sa else own_wn (if (p5 &&& (1 : Int32)) = (0 : Int32) then none else own_wn (none) sa) sb else own_cl (if (p5 &&& (2 : Int32)) = (0 : Int32) then if (p5 &&& (1 : Int32)) = (0 : Int32) then none else own_wn (none) sa else own_wn (if (p5 &&& (1 : Int32)) = (0 : Int32) then none else own_wn (none) sa) sb) sc else own_cl (if (p5 &&& (4 : Int32)) = (0 : Int32) then if (p5 &&& (2 : Int32)) = (0 : Int32) then if (p5 &&& (1 : Int32)) = (0 : Int32) then none else own_wn (none) sa else own_wn (if (p5 &&& (1 : Int32)) = (0 : Int32) then none else own_wn (none) sa) sb else own_cl (if (p5 &&& (2 : Int32)) = (0 : Int32) then if (p5 &&& (1 : Int32)) = (0 : Int32) then none else own_wn (none) sa else own_wn (if (p5 &&& (1 : Int32)) = (0 : Int32) then none else own_wn (none) sa) sb) sc) se) sd)), .unset] [(.int sa), (.ref ck)])) rfl (by rw [hml]; rfl) (Steps.refl _) (argsL := [(.int sa)]) (rest := []) (lenOf pd_8 rfl) rfl (by show 2 * 0 + _ ≤ _; exact Nat.le_of_eq rfl) (hb hby at_140) (fun _ _ => ⟨rfl, eh7, (by show c6 + 0 ≤ 16; omega), (by show s6 + 0 ≤ 640; omega)⟩)
  dsimp only [Pt.U, Pt.locs, Pt.cells, Pt.slots] at X8 l8 y8 z8 st8 hQ8
  rw [y8, z8] at X8
  obtain ⟨rfl, N8q, eh8⟩ := hQ8
  have N8 : Fr n0 L8 := by rw [l8]; exact Fr.app N7 N8q
  clear l8
  obtain ⟨_, _, ⟨T9, L9, k9, n9⟩, -, X9, ⟨Lc9, hQ9, l9, y9, z9⟩, st9⟩ := Jvm.LawKit.callS X8 hx (y := (⟨"com/example/wadjet/wadjet/storage/IntegerChunkIsNullPinLaw", "expected", "(IIIIII)Z"⟩ : MethodName)) hown (mvT hZ (hw _ (List.mem_of_getElem? (i := 32) rfl))) (mvT hZ (hw _ (List.mem_of_getElem? (i := 33) rfl))) (mvT hZ (hw _ (List.mem_of_getElem? (i := 34) rfl))) (mvT hZ (hw _ (List.mem_of_getElem? (i := 35) rfl))) (by decide) (backOf (W := 1) (rm6 l Z A0 hw [] sd sa sb sc se p5  h6 n0 Z6 ) hZ (hw _ (List.mem_of_getElem? (i := 35) rfl)) (hw _ (List.mem_of_getElem? (i := 34) rfl)) (by decide) (by decide)) (g := (mkF m 159 #[.val (.int p0), .val (.int p1), .val (.int p2), .val (.int p3), .val (.int p4), .val (.int p5), .val (.int sa), .val (.int sb), .val (.int sc), .val (.int sd), .val (.int se), .val (.int cap), .val (.ref ck), .val (.int (own_isn (if (p5 &&& (16 : Int32)) = (0 : Int32) then if (p5 &&& (4 : Int32)) = (0 : Int32) then if (p5 &&& (2 : Int32)) = (0 : Int32) then if (p5 &&& (1 : Int32)) = (0 : Int32) then none else own_wn (none) sa else own_wn (if (p5 &&& (1 : Int32)) = (0 : Int32) then none else own_wn (none) sa) sb else own_cl (if (p5 &&& (2 : Int32)) = (0 : Int32) then if (p5 &&& (1 : Int32)) = (0 : Int32) then none else own_wn (none) sa else own_wn (if (p5 &&& (1 : Int32)) = (0 : Int32) then none else own_wn (none) sa) sb) sc else own_cl (if (p5 &&& (4 : Int32)) = (0 : Int32) then if (p5 &&& (2 : Int32)) = (0 : Int32) then if (p5 &&& (1 : Int32)) = (0 : Int32) then none else own_wn (none) sa else own_wn (if (p5 &&& (1 : Int32)) = (0 : Int32) then none else own_wn (none) sa) sb else own_cl (if (p5 &&& (2 : Int32)) = (0 : Int32) then if (p5 &&& (1 : Int32)) = (0 : Int32) then none else own_wn (none) sa else own_wn (if (p5 &&& (1 : Int32)) = (0 : Int32) then none else own_wn (none) sa) sb) sc) se) sd)), .val (.int (own_isn (if (p5 &&& (16 : Int32)) = (0 : Int32) then if (p5 &&& (4 : Int32)) = (0 : Int32) then if (p5 &&& (2 : Int32)) = (0 : Int32) then if (p5 &&& (1 : Int32)) = (0 : Int32) then none else own_wn (none) sa else own_wn (if (p5 &&& (1 : Int32)) = (0 : Int32) then none else own_wn (none) sa) sb else own_cl (if (p5 &&& (2 : Int32)) = (0 : Int32) then if (p5 &&& (1 : Int32)) = (0 : Int32) then none else own_wn (none) sa else own_wn (if (p5 &&& (1 : Int32)) = (0 : Int32) then none else own_wn (none) sa) sb) sc else own_cl (if (p5 &&& (4 : Int32)) = (0 : Int32) then if (p5 &&& (2 : Int32)) = (0 : Int32) then if (p5 &&& (1 : Int32)) = (0 : Int32) then none else own_wn (none) sa else own_wn (if (p5 &&& (1 : Int32)) = (0 : Int32) then none else own_wn (none) sa) sb else own_cl (if (p5 &&& (2 : Int32)) = (0 : Int32) then if (p5 &&& (1 : Int32)) = (0 : Int32) then none else own_wn (none) sa else own_wn (if (p5 &&& (1 : Int32)) = (0 : Int32) then none else own_wn (none) sa) sb) sc) se) sa))] [(.int p5), (.int se), (.int sc), (.int sb), (.int sa), (.int sd), (.int (own_isn (if (p5 &&& (16 : Int32)) = (0 : Int32) then if (p5 &&& (4 : Int32)) = (0 : Int32) then if (p5 &&& (2 : Int32)) = (0 : Int32) then if (p5 &&& (1 : Int32)) = (0 : Int32) then none else own_wn (none) sa else own_wn (if (p5 &&& (1 : Int32)) = (0 : Int32) then none else own_wn (none) sa) sb else own_cl (if (p5 &&& (2 : Int32)) = (0 : Int32) then if (p5 &&& (1 : Int32)) = (0 : Int32) then none else own_wn (none) sa else own_wn (if (p5 &&& (1 : Int32)) = (0 : Int32) then none else own_wn (none) sa) sb) sc else own_cl (if (p5 &&& (4 : Int32)) = (0 : Int32) then if (p5 &&& (2 : Int32)) = (0 : Int32) then if (p5 &&& (1 : Int32)) = (0 : Int32) then none else own_wn (none) sa else own_wn (if (p5 &&& (1 : Int32)) = (0 : Int32) then none else own_wn (none) sa) sb else own_cl (if (p5 &&& (2 : Int32)) = (0 : Int32) then if (p5 &&& (1 : Int32)) = (0 : Int32) then none else own_wn (none) sa else own_wn (if (p5 &&& (1 : Int32)) = (0 : Int32) then none else own_wn (none) sa) sb) sc) se) sd))])) rfl (by rw [hml]; rfl) (argsL := [(.int sd), (.int sa), (.int sb), (.int sc), (.int se), (.int p5)]) (rest := [(.int (own_isn (if (p5 &&& (16 : Int32)) = (0 : Int32) then if (p5 &&& (4 : Int32)) = (0 : Int32) then if (p5 &&& (2 : Int32)) = (0 : Int32) then if (p5 &&& (1 : Int32)) = (0 : Int32) then none else own_wn (none) sa else own_wn (if (p5 &&& (1 : Int32)) = (0 : Int32) then none else own_wn (none) sa) sb else own_cl (if (p5 &&& (2 : Int32)) = (0 : Int32) then if (p5 &&& (1 : Int32)) = (0 : Int32) then none else own_wn (none) sa else own_wn (if (p5 &&& (1 : Int32)) = (0 : Int32) then none else own_wn (none) sa) sb) sc else own_cl (if (p5 &&& (4 : Int32)) = (0 : Int32) then if (p5 &&& (2 : Int32)) = (0 : Int32) then if (p5 &&& (1 : Int32)) = (0 : Int32) then none else own_wn (none) sa else own_wn (if (p5 &&& (1 : Int32)) = (0 : Int32) then none else own_wn (none) sa) sb else own_cl (if (p5 &&& (2 : Int32)) = (0 : Int32) then if (p5 &&& (1 : Int32)) = (0 : Int32) then none else own_wn (none) sa else own_wn (if (p5 &&& (1 : Int32)) = (0 : Int32) then none else own_wn (none) sa) sb) sc) se) sd))]) (lenOf pd_9 rfl) rfl (by show 2 * 0 + _ ≤ _; exact Nat.le_of_eq rfl) (hb hby at_159) (fun _ _ => ⟨rfl, eh8, (by show c6 + 0 ≤ 16; omega), (by show s6 + 0 ≤ 640; omega)⟩)
  dsimp only [Pt.U, Pt.locs, Pt.cells, Pt.slots] at X9 l9 y9 z9 st9 hQ9
  rw [y9, z9] at X9
  obtain ⟨rfl, N9q, eh9⟩ := hQ9
  have N9 : Fr n0 L9 := by rw [l9]; exact Fr.app N8 N9q
  clear l9
  obtain ⟨_, _, ⟨T10, L10, k10, n10⟩, -, X10, ⟨Lc10, hQ10, l10, y10, z10⟩, st10⟩ := Jvm.LawKit.callS X9 hx (y := (⟨"com/example/wadjet/wadjet/storage/IntegerChunkIsNullPinLaw", "expected", "(IIIIII)Z"⟩ : MethodName)) hown (mvT hZ (hw _ (List.mem_of_getElem? (i := 32) rfl))) (mvT hZ (hw _ (List.mem_of_getElem? (i := 33) rfl))) (mvT hZ (hw _ (List.mem_of_getElem? (i := 34) rfl))) (mvT hZ (hw _ (List.mem_of_getElem? (i := 35) rfl))) (by decide) (backOf (W := 1) (rm6 l Z A0 hw [] sa sa sb sc se p5  h6 n0 Z6 ) hZ (hw _ (List.mem_of_getElem? (i := 35) rfl)) (hw _ (List.mem_of_getElem? (i := 34) rfl)) (by decide) (by decide)) (g := (mkF m 179 #[.val (.int p0), .val (.int p1), .val (.int p2), .val (.int p3), .val (.int p4), .val (.int p5), .val (.int sa), .val (.int sb), .val (.int sc), .val (.int sd), .val (.int se), .val (.int cap), .val (.ref ck), .val (.int (own_isn (if (p5 &&& (16 : Int32)) = (0 : Int32) then if (p5 &&& (4 : Int32)) = (0 : Int32) then if (p5 &&& (2 : Int32)) = (0 : Int32) then if (p5 &&& (1 : Int32)) = (0 : Int32) then none else own_wn (none) sa else own_wn (if (p5 &&& (1 : Int32)) = (0 : Int32) then none else own_wn (none) sa) sb else own_cl (if (p5 &&& (2 : Int32)) = (0 : Int32) then if (p5 &&& (1 : Int32)) = (0 : Int32) then none else own_wn (none) sa else own_wn (if (p5 &&& (1 : Int32)) = (0 : Int32) then none else own_wn (none) sa) sb) sc else own_cl (if (p5 &&& (4 : Int32)) = (0 : Int32) then if (p5 &&& (2 : Int32)) = (0 : Int32) then if (p5 &&& (1 : Int32)) = (0 : Int32) then none else own_wn (none) sa else own_wn (if (p5 &&& (1 : Int32)) = (0 : Int32) then none else own_wn (none) sa) sb else own_cl (if (p5 &&& (2 : Int32)) = (0 : Int32) then if (p5 &&& (1 : Int32)) = (0 : Int32) then none else own_wn (none) sa else own_wn (if (p5 &&& (1 : Int32)) = (0 : Int32) then none else own_wn (none) sa) sb) sc) se) sd)), .val (.int (own_isn (if (p5 &&& (16 : Int32)) = (0 : Int32) then if (p5 &&& (4 : Int32)) = (0 : Int32) then if (p5 &&& (2 : Int32)) = (0 : Int32) then if (p5 &&& (1 : Int32)) = (0 : Int32) then none else own_wn (none) sa else own_wn (if (p5 &&& (1 : Int32)) = (0 : Int32) then none else own_wn (none) sa) sb else own_cl (if (p5 &&& (2 : Int32)) = (0 : Int32) then if (p5 &&& (1 : Int32)) = (0 : Int32) then none else own_wn (none) sa else own_wn (if (p5 &&& (1 : Int32)) = (0 : Int32) then none else own_wn (none) sa) sb) sc else own_cl (if (p5 &&& (4 : Int32)) = (0 : Int32) then if (p5 &&& (2 : Int32)) = (0 : Int32) then if (p5 &&& (1 : Int32)) = (0 : Int32) then none else own_wn (none) sa else own_wn (if (p5 &&& (1 : Int32)) = (0 : Int32) then none else own_wn (none) sa) sb else own_cl (if (p5 &&& (2 : Int32)) = (0 : Int32) then if (p5 &&& (1 : Int32)) = (0 : Int32) then none else own_wn (none) sa else own_wn (if (p5 &&& (1 : Int32)) = (0 : Int32) then none else own_wn (none) sa) sb) sc) se) sa))] [(.int p5), (.int se), (.int sc), (.int sb), (.int sa), (.int sa), (.int (own_isn (if (p5 &&& (16 : Int32)) = (0 : Int32) then if (p5 &&& (4 : Int32)) = (0 : Int32) then if (p5 &&& (2 : Int32)) = (0 : Int32) then if (p5 &&& (1 : Int32)) = (0 : Int32) then none else own_wn (none) sa else own_wn (if (p5 &&& (1 : Int32)) = (0 : Int32) then none else own_wn (none) sa) sb else own_cl (if (p5 &&& (2 : Int32)) = (0 : Int32) then if (p5 &&& (1 : Int32)) = (0 : Int32) then none else own_wn (none) sa else own_wn (if (p5 &&& (1 : Int32)) = (0 : Int32) then none else own_wn (none) sa) sb) sc else own_cl (if (p5 &&& (4 : Int32)) = (0 : Int32) then if (p5 &&& (2 : Int32)) = (0 : Int32) then if (p5 &&& (1 : Int32)) = (0 : Int32) then none else own_wn (none) sa else own_wn (if (p5 &&& (1 : Int32)) = (0 : Int32) then none else own_wn (none) sa) sb else own_cl (if (p5 &&& (2 : Int32)) = (0 : Int32) then if (p5 &&& (1 : Int32)) = (0 : Int32) then none else own_wn (none) sa else own_wn (if (p5 &&& (1 : Int32)) = (0 : Int32) then none else own_wn (none) sa) sb) sc) se) sa))])) rfl (by rw [hml]; rfl) (argsL := [(.int sa), (.int sa), (.int sb), (.int sc), (.int se), (.int p5)]) (rest := [(.int (own_isn (if (p5 &&& (16 : Int32)) = (0 : Int32) then if (p5 &&& (4 : Int32)) = (0 : Int32) then if (p5 &&& (2 : Int32)) = (0 : Int32) then if (p5 &&& (1 : Int32)) = (0 : Int32) then none else own_wn (none) sa else own_wn (if (p5 &&& (1 : Int32)) = (0 : Int32) then none else own_wn (none) sa) sb else own_cl (if (p5 &&& (2 : Int32)) = (0 : Int32) then if (p5 &&& (1 : Int32)) = (0 : Int32) then none else own_wn (none) sa else own_wn (if (p5 &&& (1 : Int32)) = (0 : Int32) then none else own_wn (none) sa) sb) sc else own_cl (if (p5 &&& (4 : Int32)) = (0 : Int32) then if (p5 &&& (2 : Int32)) = (0 : Int32) then if (p5 &&& (1 : Int32)) = (0 : Int32) then none else own_wn (none) sa else own_wn (if (p5 &&& (1 : Int32)) = (0 : Int32) then none else own_wn (none) sa) sb else own_cl (if (p5 &&& (2 : Int32)) = (0 : Int32) then if (p5 &&& (1 : Int32)) = (0 : Int32) then none else own_wn (none) sa else own_wn (if (p5 &&& (1 : Int32)) = (0 : Int32) then none else own_wn (none) sa) sb) sc) se) sa))]) (lenOf pd_9 rfl) rfl (by show 2 * 0 + _ ≤ _; exact Nat.le_of_eq rfl) (hb hby at_179) (fun _ _ => ⟨rfl, eh9, (by show c6 + 0 ≤ 16; omega), (by show s6 + 0 ≤ 640; omega)⟩)
  dsimp only [Pt.U, Pt.locs, Pt.cells, Pt.slots] at X10 l10 y10 z10 st10 hQ10
  rw [y10, z10] at X10
  obtain ⟨rfl, N10q, eh10⟩ := hQ10
  have N10 : Fr n0 L10 := by rw [l10]; exact Fr.app N9 N10q
  clear l10
  obtain ⟨fs, hr, hrun, hended, hW, hsame⟩ := X10.leave (v := some (.int (1 : Int32))) (fun h => by rw [Bd.returns] at h; cases h)
  refine ⟨_, _, pre0 _ ?_, hrun, hended, _, _, rfl, ?_, ⟨_, rfl⟩, hW, hsame.mono (by show c6 ≤ 16; omega) (by show s6 ≤ 640; omega)⟩
  · show Steps p.tables e below (s₁.setTop (mkF m 0 #[.val (.int p0), .val (.int p1), .val (.int p2), .val (.int p3), .val (.int p4), .val (.int p5), .unset, .unset, .unset, .unset, .unset, .unset, .unset, .unset, .unset] [])) _
    refine XS.iloadN X0.here hx rfl (hb hby at_0) rfl ?_
    show Steps p.tables e below (s₁.setTop (mkF m 1 #[.val (.int p0), .val (.int p1), .val (.int p2), .val (.int p3), .val (.int p4), .val (.int p5), .unset, .unset, .unset, .unset, .unset, .unset, .unset, .unset, .unset] [(.int p0)])) _
    refine XS.sipush X0.here hx rfl (hb hby at_1) ?_
    show Steps p.tables e below (s₁.setTop (mkF m 4 #[.val (.int p0), .val (.int p1), .val (.int p2), .val (.int p3), .val (.int p4), .val (.int p5), .unset, .unset, .unset, .unset, .unset, .unset, .unset, .unset, .unset] [(.int (255 : Int32)), (.int p0)])) _
    refine XS.iand X0.here hx rfl (hb hby at_4) rfl ?_
    show Steps p.tables e below (s₁.setTop (mkF m 5 #[.val (.int p0), .val (.int p1), .val (.int p2), .val (.int p3), .val (.int p4), .val (.int p5), .unset, .unset, .unset, .unset, .unset, .unset, .unset, .unset, .unset] [(.int (p0 &&& (255 : Int32)))])) _
    rw [← h_sa]
    show Steps p.tables e below (s₁.setTop (mkF m 5 #[.val (.int p0), .val (.int p1), .val (.int p2), .val (.int p3), .val (.int p4), .val (.int p5), .unset, .unset, .unset, .unset, .unset, .unset, .unset, .unset, .unset] [(.int sa)])) _
    refine XS.istore X0.here hx rfl (hb hby at_5) rfl (l' := #[.val (.int p0), .val (.int p1), .val (.int p2), .val (.int p3), .val (.int p4), .val (.int p5), .val (.int sa), .unset, .unset, .unset, .unset, .unset, .unset, .unset, .unset]) rfl ?_
    show Steps p.tables e below (s₁.setTop (mkF m 7 #[.val (.int p0), .val (.int p1), .val (.int p2), .val (.int p3), .val (.int p4), .val (.int p5), .val (.int sa), .unset, .unset, .unset, .unset, .unset, .unset, .unset, .unset] [])) _
    refine XS.iloadN X0.here hx rfl (hb hby at_7) rfl ?_
    show Steps p.tables e below (s₁.setTop (mkF m 8 #[.val (.int p0), .val (.int p1), .val (.int p2), .val (.int p3), .val (.int p4), .val (.int p5), .val (.int sa), .unset, .unset, .unset, .unset, .unset, .unset, .unset, .unset] [(.int p1)])) _
    refine XS.sipush X0.here hx rfl (hb hby at_8) ?_
    show Steps p.tables e below (s₁.setTop (mkF m 11 #[.val (.int p0), .val (.int p1), .val (.int p2), .val (.int p3), .val (.int p4), .val (.int p5), .val (.int sa), .unset, .unset, .unset, .unset, .unset, .unset, .unset, .unset] [(.int (255 : Int32)), (.int p1)])) _
    refine XS.iand X0.here hx rfl (hb hby at_11) rfl ?_
    show Steps p.tables e below (s₁.setTop (mkF m 12 #[.val (.int p0), .val (.int p1), .val (.int p2), .val (.int p3), .val (.int p4), .val (.int p5), .val (.int sa), .unset, .unset, .unset, .unset, .unset, .unset, .unset, .unset] [(.int (p1 &&& (255 : Int32)))])) _
    rw [← h_sb]
    show Steps p.tables e below (s₁.setTop (mkF m 12 #[.val (.int p0), .val (.int p1), .val (.int p2), .val (.int p3), .val (.int p4), .val (.int p5), .val (.int sa), .unset, .unset, .unset, .unset, .unset, .unset, .unset, .unset] [(.int sb)])) _
    refine XS.istore X0.here hx rfl (hb hby at_12) rfl (l' := #[.val (.int p0), .val (.int p1), .val (.int p2), .val (.int p3), .val (.int p4), .val (.int p5), .val (.int sa), .val (.int sb), .unset, .unset, .unset, .unset, .unset, .unset, .unset]) rfl ?_
    show Steps p.tables e below (s₁.setTop (mkF m 14 #[.val (.int p0), .val (.int p1), .val (.int p2), .val (.int p3), .val (.int p4), .val (.int p5), .val (.int sa), .val (.int sb), .unset, .unset, .unset, .unset, .unset, .unset, .unset] [])) _
    refine XS.iloadN X0.here hx rfl (hb hby at_14) rfl ?_
    show Steps p.tables e below (s₁.setTop (mkF m 15 #[.val (.int p0), .val (.int p1), .val (.int p2), .val (.int p3), .val (.int p4), .val (.int p5), .val (.int sa), .val (.int sb), .unset, .unset, .unset, .unset, .unset, .unset, .unset] [(.int p2)])) _
    refine XS.sipush X0.here hx rfl (hb hby at_15) ?_
    show Steps p.tables e below (s₁.setTop (mkF m 18 #[.val (.int p0), .val (.int p1), .val (.int p2), .val (.int p3), .val (.int p4), .val (.int p5), .val (.int sa), .val (.int sb), .unset, .unset, .unset, .unset, .unset, .unset, .unset] [(.int (255 : Int32)), (.int p2)])) _
    refine XS.iand X0.here hx rfl (hb hby at_18) rfl ?_
    show Steps p.tables e below (s₁.setTop (mkF m 19 #[.val (.int p0), .val (.int p1), .val (.int p2), .val (.int p3), .val (.int p4), .val (.int p5), .val (.int sa), .val (.int sb), .unset, .unset, .unset, .unset, .unset, .unset, .unset] [(.int (p2 &&& (255 : Int32)))])) _
    rw [← h_sc]
    show Steps p.tables e below (s₁.setTop (mkF m 19 #[.val (.int p0), .val (.int p1), .val (.int p2), .val (.int p3), .val (.int p4), .val (.int p5), .val (.int sa), .val (.int sb), .unset, .unset, .unset, .unset, .unset, .unset, .unset] [(.int sc)])) _
    refine XS.istore X0.here hx rfl (hb hby at_19) rfl (l' := #[.val (.int p0), .val (.int p1), .val (.int p2), .val (.int p3), .val (.int p4), .val (.int p5), .val (.int sa), .val (.int sb), .val (.int sc), .unset, .unset, .unset, .unset, .unset, .unset]) rfl ?_
    show Steps p.tables e below (s₁.setTop (mkF m 21 #[.val (.int p0), .val (.int p1), .val (.int p2), .val (.int p3), .val (.int p4), .val (.int p5), .val (.int sa), .val (.int sb), .val (.int sc), .unset, .unset, .unset, .unset, .unset, .unset] [])) _
    refine XS.iloadN X0.here hx rfl (hb hby at_21) rfl ?_
    show Steps p.tables e below (s₁.setTop (mkF m 22 #[.val (.int p0), .val (.int p1), .val (.int p2), .val (.int p3), .val (.int p4), .val (.int p5), .val (.int sa), .val (.int sb), .val (.int sc), .unset, .unset, .unset, .unset, .unset, .unset] [(.int p3)])) _
    refine XS.sipush X0.here hx rfl (hb hby at_22) ?_
    show Steps p.tables e below (s₁.setTop (mkF m 25 #[.val (.int p0), .val (.int p1), .val (.int p2), .val (.int p3), .val (.int p4), .val (.int p5), .val (.int sa), .val (.int sb), .val (.int sc), .unset, .unset, .unset, .unset, .unset, .unset] [(.int (255 : Int32)), (.int p3)])) _
    refine XS.iand X0.here hx rfl (hb hby at_25) rfl ?_
    show Steps p.tables e below (s₁.setTop (mkF m 26 #[.val (.int p0), .val (.int p1), .val (.int p2), .val (.int p3), .val (.int p4), .val (.int p5), .val (.int sa), .val (.int sb), .val (.int sc), .unset, .unset, .unset, .unset, .unset, .unset] [(.int (p3 &&& (255 : Int32)))])) _
    rw [← h_sd]
    show Steps p.tables e below (s₁.setTop (mkF m 26 #[.val (.int p0), .val (.int p1), .val (.int p2), .val (.int p3), .val (.int p4), .val (.int p5), .val (.int sa), .val (.int sb), .val (.int sc), .unset, .unset, .unset, .unset, .unset, .unset] [(.int sd)])) _
    refine XS.istore X0.here hx rfl (hb hby at_26) rfl (l' := #[.val (.int p0), .val (.int p1), .val (.int p2), .val (.int p3), .val (.int p4), .val (.int p5), .val (.int sa), .val (.int sb), .val (.int sc), .val (.int sd), .unset, .unset, .unset, .unset, .unset]) rfl ?_
    show Steps p.tables e below (s₁.setTop (mkF m 28 #[.val (.int p0), .val (.int p1), .val (.int p2), .val (.int p3), .val (.int p4), .val (.int p5), .val (.int sa), .val (.int sb), .val (.int sc), .val (.int sd), .unset, .unset, .unset, .unset, .unset] [])) _
    refine XS.iload X0.here hx rfl (hb hby at_28) rfl ?_
    show Steps p.tables e below (s₁.setTop (mkF m 30 #[.val (.int p0), .val (.int p1), .val (.int p2), .val (.int p3), .val (.int p4), .val (.int p5), .val (.int sa), .val (.int sb), .val (.int sc), .val (.int sd), .unset, .unset, .unset, .unset, .unset] [(.int p5)])) _
    refine XS.bipush X0.here hx rfl (hb hby at_30) ?_
    show Steps p.tables e below (s₁.setTop (mkF m 32 #[.val (.int p0), .val (.int p1), .val (.int p2), .val (.int p3), .val (.int p4), .val (.int p5), .val (.int sa), .val (.int sb), .val (.int sc), .val (.int sd), .unset, .unset, .unset, .unset, .unset] [(.int (8 : Int32)), (.int p5)])) _
    refine XS.iushr X0.here hx rfl (hb hby at_32) rfl ?_
    show Steps p.tables e below (s₁.setTop (mkF m 33 #[.val (.int p0), .val (.int p1), .val (.int p2), .val (.int p3), .val (.int p4), .val (.int p5), .val (.int sa), .val (.int sb), .val (.int sc), .val (.int sd), .unset, .unset, .unset, .unset, .unset] [(.int ((p5.toUInt32 >>> ((8 : Int32) &&& 31).toUInt32).toInt32))])) _
    refine XS.sipush X0.here hx rfl (hb hby at_33) ?_
    show Steps p.tables e below (s₁.setTop (mkF m 36 #[.val (.int p0), .val (.int p1), .val (.int p2), .val (.int p3), .val (.int p4), .val (.int p5), .val (.int sa), .val (.int sb), .val (.int sc), .val (.int sd), .unset, .unset, .unset, .unset, .unset] [(.int (255 : Int32)), (.int ((p5.toUInt32 >>> ((8 : Int32) &&& 31).toUInt32).toInt32))])) _
    refine XS.iand X0.here hx rfl (hb hby at_36) rfl ?_
    show Steps p.tables e below (s₁.setTop (mkF m 37 #[.val (.int p0), .val (.int p1), .val (.int p2), .val (.int p3), .val (.int p4), .val (.int p5), .val (.int sa), .val (.int sb), .val (.int sc), .val (.int sd), .unset, .unset, .unset, .unset, .unset] [(.int (((p5.toUInt32 >>> ((8 : Int32) &&& 31).toUInt32).toInt32) &&& (255 : Int32)))])) _
    rw [← h_se]
    show Steps p.tables e below (s₁.setTop (mkF m 37 #[.val (.int p0), .val (.int p1), .val (.int p2), .val (.int p3), .val (.int p4), .val (.int p5), .val (.int sa), .val (.int sb), .val (.int sc), .val (.int sd), .unset, .unset, .unset, .unset, .unset] [(.int se)])) _
    refine XS.istore X0.here hx rfl (hb hby at_37) rfl (l' := #[.val (.int p0), .val (.int p1), .val (.int p2), .val (.int p3), .val (.int p4), .val (.int p5), .val (.int sa), .val (.int sb), .val (.int sc), .val (.int sd), .val (.int se), .unset, .unset, .unset, .unset]) rfl ?_
    show Steps p.tables e below (s₁.setTop (mkF m 39 #[.val (.int p0), .val (.int p1), .val (.int p2), .val (.int p3), .val (.int p4), .val (.int p5), .val (.int sa), .val (.int sb), .val (.int sc), .val (.int sd), .val (.int se), .unset, .unset, .unset, .unset] [])) _
    refine XS.iload X0.here hx rfl (hb hby at_39) rfl ?_
    show Steps p.tables e below (s₁.setTop (mkF m 41 #[.val (.int p0), .val (.int p1), .val (.int p2), .val (.int p3), .val (.int p4), .val (.int p5), .val (.int sa), .val (.int sb), .val (.int sc), .val (.int sd), .val (.int se), .unset, .unset, .unset, .unset] [(.int p5)])) _
    refine XS.bipush X0.here hx rfl (hb hby at_41) ?_
    show Steps p.tables e below (s₁.setTop (mkF m 43 #[.val (.int p0), .val (.int p1), .val (.int p2), .val (.int p3), .val (.int p4), .val (.int p5), .val (.int sa), .val (.int sb), .val (.int sc), .val (.int sd), .val (.int se), .unset, .unset, .unset, .unset] [(.int (8 : Int32)), (.int p5)])) _
    refine XS.iand X0.here hx rfl (hb hby at_43) rfl ?_
    refine own_via (s₁.setTop (mkF m 54 #[.val (.int p0), .val (.int p1), .val (.int p2), .val (.int p3), .val (.int p4), .val (.int p5), .val (.int sa), .val (.int sb), .val (.int sc), .val (.int sd), .val (.int se), .unset, .unset, .unset, .unset] [(.int (if (p5 &&& (8 : Int32)) = (0 : Int32) then (4 : Int32) else (256 : Int32)))])) (fun k => ?_) ?_
    · by_cases hc44 : (p5 &&& (8 : Int32)) = (0 : Int32)
      · show Steps p.tables e below (s₁.setTop (mkF m 44 #[.val (.int p0), .val (.int p1), .val (.int p2), .val (.int p3), .val (.int p4), .val (.int p5), .val (.int sa), .val (.int sb), .val (.int sc), .val (.int sd), .val (.int se), .unset, .unset, .unset, .unset] [(.int (p5 &&& (8 : Int32)))])) _
        refine XS.ifYes X0.here hx rfl (pc0 := 44) (pc' := 53) rfl (hb hby at_44) rfl ((if0 _ _).trans (teq hc44).1) (by decide) (by decide) ?_
        show Steps p.tables e below (s₁.setTop (mkF m 53 #[.val (.int p0), .val (.int p1), .val (.int p2), .val (.int p3), .val (.int p4), .val (.int p5), .val (.int sa), .val (.int sb), .val (.int sc), .val (.int sd), .val (.int se), .unset, .unset, .unset, .unset] [])) _
        refine XS.iconst X0.here hx rfl (hb hby at_53) ?_
        try simp only [if_pos hc44] at k
        exact k
      · show Steps p.tables e below (s₁.setTop (mkF m 44 #[.val (.int p0), .val (.int p1), .val (.int p2), .val (.int p3), .val (.int p4), .val (.int p5), .val (.int sa), .val (.int sb), .val (.int sc), .val (.int sd), .val (.int se), .unset, .unset, .unset, .unset] [(.int (p5 &&& (8 : Int32)))])) _
        refine XS.ifNo X0.here hx rfl (hb hby at_44) rfl ((if0 _ _).trans (feq hc44).1) ?_
        show Steps p.tables e below (s₁.setTop (mkF m 47 #[.val (.int p0), .val (.int p1), .val (.int p2), .val (.int p3), .val (.int p4), .val (.int p5), .val (.int sa), .val (.int sb), .val (.int sc), .val (.int sd), .val (.int se), .unset, .unset, .unset, .unset] [])) _
        refine XS.sipush X0.here hx rfl (hb hby at_47) ?_
        show Steps p.tables e below (s₁.setTop (mkF m 50 #[.val (.int p0), .val (.int p1), .val (.int p2), .val (.int p3), .val (.int p4), .val (.int p5), .val (.int sa), .val (.int sb), .val (.int sc), .val (.int sd), .val (.int se), .unset, .unset, .unset, .unset] [(.int (256 : Int32))])) _
        refine XS.goto X0.here hx rfl (pc0 := 50) (pc' := 54) rfl (hb hby at_50) (by decide) (by decide) ?_
        try simp only [if_neg hc44] at k
        exact k
    show Steps p.tables e below (s₁.setTop (mkF m 54 #[.val (.int p0), .val (.int p1), .val (.int p2), .val (.int p3), .val (.int p4), .val (.int p5), .val (.int sa), .val (.int sb), .val (.int sc), .val (.int sd), .val (.int se), .unset, .unset, .unset, .unset] [(.int (if (p5 &&& (8 : Int32)) = (0 : Int32) then (4 : Int32) else (256 : Int32)))])) _
    rw [← h_cap]
    show Steps p.tables e below (s₁.setTop (mkF m 54 #[.val (.int p0), .val (.int p1), .val (.int p2), .val (.int p3), .val (.int p4), .val (.int p5), .val (.int sa), .val (.int sb), .val (.int sc), .val (.int sd), .val (.int se), .unset, .unset, .unset, .unset] [(.int cap)])) _
    refine XS.istore X0.here hx rfl (hb hby at_54) rfl (l' := #[.val (.int p0), .val (.int p1), .val (.int p2), .val (.int p3), .val (.int p4), .val (.int p5), .val (.int sa), .val (.int sb), .val (.int sc), .val (.int sd), .val (.int se), .val (.int cap), .unset, .unset, .unset]) rfl ?_
    show Steps p.tables e below (s₁.setTop (mkF m 56 #[.val (.int p0), .val (.int p1), .val (.int p2), .val (.int p3), .val (.int p4), .val (.int p5), .val (.int sa), .val (.int sb), .val (.int sc), .val (.int sd), .val (.int se), .val (.int cap), .unset, .unset, .unset] [])) _
    refine st1 _ ?_
    show Steps p.tables e below (T1.setTop (mkF m 59 #[.val (.int p0), .val (.int p1), .val (.int p2), .val (.int p3), .val (.int p4), .val (.int p5), .val (.int sa), .val (.int sb), .val (.int sc), .val (.int sd), .val (.int se), .val (.int cap), .unset, .unset, .unset] [(.ref ck)])) _
    refine XS.dup X1.here hx rfl (hb hby at_59) rfl rfl ?_
    show Steps p.tables e below (T1.setTop (mkF m 60 #[.val (.int p0), .val (.int p1), .val (.int p2), .val (.int p3), .val (.int p4), .val (.int p5), .val (.int sa), .val (.int sb), .val (.int sc), .val (.int sd), .val (.int se), .val (.int cap), .unset, .unset, .unset] [(.ref ck), (.ref ck)])) _
    refine XS.iload X1.here hx rfl (hb hby at_60) rfl ?_
    show Steps p.tables e below (T1.setTop (mkF m 62 #[.val (.int p0), .val (.int p1), .val (.int p2), .val (.int p3), .val (.int p4), .val (.int p5), .val (.int sa), .val (.int sb), .val (.int sc), .val (.int sd), .val (.int se), .val (.int cap), .unset, .unset, .unset] [(.int cap), (.ref ck), (.ref ck)])) _
    refine st2.trans ?_
    show Steps p.tables e below (T2.setTop (mkF m 65 #[.val (.int p0), .val (.int p1), .val (.int p2), .val (.int p3), .val (.int p4), .val (.int p5), .val (.int sa), .val (.int sb), .val (.int sc), .val (.int sd), .val (.int se), .val (.int cap), .unset, .unset, .unset] [(.ref ck)])) _
    refine XS.astore X2.here hx rfl (hb hby at_65) rfl rfl (l' := #[.val (.int p0), .val (.int p1), .val (.int p2), .val (.int p3), .val (.int p4), .val (.int p5), .val (.int sa), .val (.int sb), .val (.int sc), .val (.int sd), .val (.int se), .val (.int cap), .val (.ref ck), .unset, .unset]) rfl ?_
    show Steps p.tables e below (T2.setTop (mkF m 67 #[.val (.int p0), .val (.int p1), .val (.int p2), .val (.int p3), .val (.int p4), .val (.int p5), .val (.int sa), .val (.int sb), .val (.int sc), .val (.int sd), .val (.int se), .val (.int cap), .val (.ref ck), .unset, .unset] [])) _
    refine st3 _ ?_
    show Steps p.tables e below (T3.setTop (mkF m 81 #[.val (.int p0), .val (.int p1), .val (.int p2), .val (.int p3), .val (.int p4), .val (.int p5), .val (.int sa), .val (.int sb), .val (.int sc), .val (.int sd), .val (.int se), .val (.int cap), .val (.ref ck), .unset, .unset] [])) _
    refine st4 _ ?_
    show Steps p.tables e below (T4.setTop (mkF m 95 #[.val (.int p0), .val (.int p1), .val (.int p2), .val (.int p3), .val (.int p4), .val (.int p5), .val (.int sa), .val (.int sb), .val (.int sc), .val (.int sd), .val (.int se), .val (.int cap), .val (.ref ck), .unset, .unset] [])) _
    refine st5 _ ?_
    show Steps p.tables e below (T5.setTop (mkF m 112 #[.val (.int p0), .val (.int p1), .val (.int p2), .val (.int p3), .val (.int p4), .val (.int p5), .val (.int sa), .val (.int sb), .val (.int sc), .val (.int sd), .val (.int se), .val (.int cap), .val (.ref ck), .unset, .unset] [])) _
    refine st6 _ ?_
    show Steps p.tables e below (T6.setTop (mkF m 127 #[.val (.int p0), .val (.int p1), .val (.int p2), .val (.int p3), .val (.int p4), .val (.int p5), .val (.int sa), .val (.int sb), .val (.int sc), .val (.int sd), .val (.int se), .val (.int cap), .val (.ref ck), .unset, .unset] [])) _
    refine XS.aload X6.here hx rfl (hb hby at_127) rfl rfl ?_
    show Steps p.tables e below (T6.setTop (mkF m 129 #[.val (.int p0), .val (.int p1), .val (.int p2), .val (.int p3), .val (.int p4), .val (.int p5), .val (.int sa), .val (.int sb), .val (.int sc), .val (.int sd), .val (.int se), .val (.int cap), .val (.ref ck), .unset, .unset] [(.ref ck)])) _
    refine XS.iload X6.here hx rfl (hb hby at_129) rfl ?_
    show Steps p.tables e below (T6.setTop (mkF m 131 #[.val (.int p0), .val (.int p1), .val (.int p2), .val (.int p3), .val (.int p4), .val (.int p5), .val (.int sa), .val (.int sb), .val (.int sc), .val (.int sd), .val (.int se), .val (.int cap), .val (.ref ck), .unset, .unset] [(.int sd), (.ref ck)])) _
    refine st7.trans ?_
    show Steps p.tables e below (T7.setTop (mkF m 134 #[.val (.int p0), .val (.int p1), .val (.int p2), .val (.int p3), .val (.int p4), .val (.int p5), .val (.int sa), .val (.int sb), .val (.int sc), .val (.int sd), .val (.int se), .val (.int cap), .val (.ref ck), .unset, .unset] [(.int (own_isn (if (p5 &&& (16 : Int32)) = (0 : Int32) then if (p5 &&& (4 : Int32)) = (0 : Int32) then if (p5 &&& (2 : Int32)) = (0 : Int32) then if (p5 &&& (1 : Int32)) = (0 : Int32) then none else own_wn (none) sa else own_wn (if (p5 &&& (1 : Int32)) = (0 : Int32) then none else own_wn (none) sa) sb else own_cl (if (p5 &&& (2 : Int32)) = (0 : Int32) then if (p5 &&& (1 : Int32)) = (0 : Int32) then none else own_wn (none) sa else own_wn (if (p5 &&& (1 : Int32)) = (0 : Int32) then none else own_wn (none) sa) sb) sc else own_cl (if (p5 &&& (4 : Int32)) = (0 : Int32) then if (p5 &&& (2 : Int32)) = (0 : Int32) then if (p5 &&& (1 : Int32)) = (0 : Int32) then none else own_wn (none) sa else own_wn (if (p5 &&& (1 : Int32)) = (0 : Int32) then none else own_wn (none) sa) sb else own_cl (if (p5 &&& (2 : Int32)) = (0 : Int32) then if (p5 &&& (1 : Int32)) = (0 : Int32) then none else own_wn (none) sa else own_wn (if (p5 &&& (1 : Int32)) = (0 : Int32) then none else own_wn (none) sa) sb) sc) se) sd))])) _
    refine XS.istore X7.here hx rfl (hb hby at_134) rfl (l' := #[.val (.int p0), .val (.int p1), .val (.int p2), .val (.int p3), .val (.int p4), .val (.int p5), .val (.int sa), .val (.int sb), .val (.int sc), .val (.int sd), .val (.int se), .val (.int cap), .val (.ref ck), .val (.int (own_isn (if (p5 &&& (16 : Int32)) = (0 : Int32) then if (p5 &&& (4 : Int32)) = (0 : Int32) then if (p5 &&& (2 : Int32)) = (0 : Int32) then if (p5 &&& (1 : Int32)) = (0 : Int32) then none else own_wn (none) sa else own_wn (if (p5 &&& (1 : Int32)) = (0 : Int32) then none else own_wn (none) sa) sb else own_cl (if (p5 &&& (2 : Int32)) = (0 : Int32) then if (p5 &&& (1 : Int32)) = (0 : Int32) then none else own_wn (none) sa else own_wn (if (p5 &&& (1 : Int32)) = (0 : Int32) then none else own_wn (none) sa) sb) sc else own_cl (if (p5 &&& (4 : Int32)) = (0 : Int32) then if (p5 &&& (2 : Int32)) = (0 : Int32) then if (p5 &&& (1 : Int32)) = (0 : Int32) then none else own_wn (none) sa else own_wn (if (p5 &&& (1 : Int32)) = (0 : Int32) then none else own_wn (none) sa) sb else own_cl (if (p5 &&& (2 : Int32)) = (0 : Int32) then if (p5 &&& (1 : Int32)) = (0 : Int32) then none else own_wn (none) sa else own_wn (if (p5 &&& (1 : Int32)) = (0 : Int32) then none else own_wn (none) sa) sb) sc) se) sd)), .unset]) rfl ?_
    show Steps p.tables e below (T7.setTop (mkF m 136 #[.val (.int p0), .val (.int p1), .val (.int p2), .val (.int p3), .val (.int p4), .val (.int p5), .val (.int sa), .val (.int sb), .val (.int sc), .val (.int sd), .val (.int se), .val (.int cap), .val (.ref ck), .val (.int (own_isn (if (p5 &&& (16 : Int32)) = (0 : Int32) then if (p5 &&& (4 : Int32)) = (0 : Int32) then if (p5 &&& (2 : Int32)) = (0 : Int32) then if (p5 &&& (1 : Int32)) = (0 : Int32) then none else own_wn (none) sa else own_wn (if (p5 &&& (1 : Int32)) = (0 : Int32) then none else own_wn (none) sa) sb else own_cl (if (p5 &&& (2 : Int32)) = (0 : Int32) then if (p5 &&& (1 : Int32)) = (0 : Int32) then none else own_wn (none) sa else own_wn (if (p5 &&& (1 : Int32)) = (0 : Int32) then none else own_wn (none) sa) sb) sc else own_cl (if (p5 &&& (4 : Int32)) = (0 : Int32) then if (p5 &&& (2 : Int32)) = (0 : Int32) then if (p5 &&& (1 : Int32)) = (0 : Int32) then none else own_wn (none) sa else own_wn (if (p5 &&& (1 : Int32)) = (0 : Int32) then none else own_wn (none) sa) sb else own_cl (if (p5 &&& (2 : Int32)) = (0 : Int32) then if (p5 &&& (1 : Int32)) = (0 : Int32) then none else own_wn (none) sa else own_wn (if (p5 &&& (1 : Int32)) = (0 : Int32) then none else own_wn (none) sa) sb) sc) se) sd)), .unset] [])) _
    refine XS.aload X7.here hx rfl (hb hby at_136) rfl rfl ?_
    show Steps p.tables e below (T7.setTop (mkF m 138 #[.val (.int p0), .val (.int p1), .val (.int p2), .val (.int p3), .val (.int p4), .val (.int p5), .val (.int sa), .val (.int sb), .val (.int sc), .val (.int sd), .val (.int se), .val (.int cap), .val (.ref ck), .val (.int (own_isn (if (p5 &&& (16 : Int32)) = (0 : Int32) then if (p5 &&& (4 : Int32)) = (0 : Int32) then if (p5 &&& (2 : Int32)) = (0 : Int32) then if (p5 &&& (1 : Int32)) = (0 : Int32) then none else own_wn (none) sa else own_wn (if (p5 &&& (1 : Int32)) = (0 : Int32) then none else own_wn (none) sa) sb else own_cl (if (p5 &&& (2 : Int32)) = (0 : Int32) then if (p5 &&& (1 : Int32)) = (0 : Int32) then none else own_wn (none) sa else own_wn (if (p5 &&& (1 : Int32)) = (0 : Int32) then none else own_wn (none) sa) sb) sc else own_cl (if (p5 &&& (4 : Int32)) = (0 : Int32) then if (p5 &&& (2 : Int32)) = (0 : Int32) then if (p5 &&& (1 : Int32)) = (0 : Int32) then none else own_wn (none) sa else own_wn (if (p5 &&& (1 : Int32)) = (0 : Int32) then none else own_wn (none) sa) sb else own_cl (if (p5 &&& (2 : Int32)) = (0 : Int32) then if (p5 &&& (1 : Int32)) = (0 : Int32) then none else own_wn (none) sa else own_wn (if (p5 &&& (1 : Int32)) = (0 : Int32) then none else own_wn (none) sa) sb) sc) se) sd)), .unset] [(.ref ck)])) _
    refine XS.iload X7.here hx rfl (hb hby at_138) rfl ?_
    show Steps p.tables e below (T7.setTop (mkF m 140 #[.val (.int p0), .val (.int p1), .val (.int p2), .val (.int p3), .val (.int p4), .val (.int p5), .val (.int sa), .val (.int sb), .val (.int sc), .val (.int sd), .val (.int se), .val (.int cap), .val (.ref ck), .val (.int (own_isn (if (p5 &&& (16 : Int32)) = (0 : Int32) then if (p5 &&& (4 : Int32)) = (0 : Int32) then if (p5 &&& (2 : Int32)) = (0 : Int32) then if (p5 &&& (1 : Int32)) = (0 : Int32) then none else own_wn (none) sa else own_wn (if (p5 &&& (1 : Int32)) = (0 : Int32) then none else own_wn (none) sa) sb else own_cl (if (p5 &&& (2 : Int32)) = (0 : Int32) then if (p5 &&& (1 : Int32)) = (0 : Int32) then none else own_wn (none) sa else own_wn (if (p5 &&& (1 : Int32)) = (0 : Int32) then none else own_wn (none) sa) sb) sc else own_cl (if (p5 &&& (4 : Int32)) = (0 : Int32) then if (p5 &&& (2 : Int32)) = (0 : Int32) then if (p5 &&& (1 : Int32)) = (0 : Int32) then none else own_wn (none) sa else own_wn (if (p5 &&& (1 : Int32)) = (0 : Int32) then none else own_wn (none) sa) sb else own_cl (if (p5 &&& (2 : Int32)) = (0 : Int32) then if (p5 &&& (1 : Int32)) = (0 : Int32) then none else own_wn (none) sa else own_wn (if (p5 &&& (1 : Int32)) = (0 : Int32) then none else own_wn (none) sa) sb) sc) se) sd)), .unset] [(.int sa), (.ref ck)])) _
    refine st8.trans ?_
    show Steps p.tables e below (T8.setTop (mkF m 143 #[.val (.int p0), .val (.int p1), .val (.int p2), .val (.int p3), .val (.int p4), .val (.int p5), .val (.int sa), .val (.int sb), .val (.int sc), .val (.int sd), .val (.int se), .val (.int cap), .val (.ref ck), .val (.int (own_isn (if (p5 &&& (16 : Int32)) = (0 : Int32) then if (p5 &&& (4 : Int32)) = (0 : Int32) then if (p5 &&& (2 : Int32)) = (0 : Int32) then if (p5 &&& (1 : Int32)) = (0 : Int32) then none else own_wn (none) sa else own_wn (if (p5 &&& (1 : Int32)) = (0 : Int32) then none else own_wn (none) sa) sb else own_cl (if (p5 &&& (2 : Int32)) = (0 : Int32) then if (p5 &&& (1 : Int32)) = (0 : Int32) then none else own_wn (none) sa else own_wn (if (p5 &&& (1 : Int32)) = (0 : Int32) then none else own_wn (none) sa) sb) sc else own_cl (if (p5 &&& (4 : Int32)) = (0 : Int32) then if (p5 &&& (2 : Int32)) = (0 : Int32) then if (p5 &&& (1 : Int32)) = (0 : Int32) then none else own_wn (none) sa else own_wn (if (p5 &&& (1 : Int32)) = (0 : Int32) then none else own_wn (none) sa) sb else own_cl (if (p5 &&& (2 : Int32)) = (0 : Int32) then if (p5 &&& (1 : Int32)) = (0 : Int32) then none else own_wn (none) sa else own_wn (if (p5 &&& (1 : Int32)) = (0 : Int32) then none else own_wn (none) sa) sb) sc) se) sd)), .unset] [(.int (own_isn (if (p5 &&& (16 : Int32)) = (0 : Int32) then if (p5 &&& (4 : Int32)) = (0 : Int32) then if (p5 &&& (2 : Int32)) = (0 : Int32) then if (p5 &&& (1 : Int32)) = (0 : Int32) then none else own_wn (none) sa else own_wn (if (p5 &&& (1 : Int32)) = (0 : Int32) then none else own_wn (none) sa) sb else own_cl (if (p5 &&& (2 : Int32)) = (0 : Int32) then if (p5 &&& (1 : Int32)) = (0 : Int32) then none else own_wn (none) sa else own_wn (if (p5 &&& (1 : Int32)) = (0 : Int32) then none else own_wn (none) sa) sb) sc else own_cl (if (p5 &&& (4 : Int32)) = (0 : Int32) then if (p5 &&& (2 : Int32)) = (0 : Int32) then if (p5 &&& (1 : Int32)) = (0 : Int32) then none else own_wn (none) sa else own_wn (if (p5 &&& (1 : Int32)) = (0 : Int32) then none else own_wn (none) sa) sb else own_cl (if (p5 &&& (2 : Int32)) = (0 : Int32) then if (p5 &&& (1 : Int32)) = (0 : Int32) then none else own_wn (none) sa else own_wn (if (p5 &&& (1 : Int32)) = (0 : Int32) then none else own_wn (none) sa) sb) sc) se) sa))])) _
    refine XS.istore X8.here hx rfl (hb hby at_143) rfl (l' := #[.val (.int p0), .val (.int p1), .val (.int p2), .val (.int p3), .val (.int p4), .val (.int p5), .val (.int sa), .val (.int sb), .val (.int sc), .val (.int sd), .val (.int se), .val (.int cap), .val (.ref ck), .val (.int (own_isn (if (p5 &&& (16 : Int32)) = (0 : Int32) then if (p5 &&& (4 : Int32)) = (0 : Int32) then if (p5 &&& (2 : Int32)) = (0 : Int32) then if (p5 &&& (1 : Int32)) = (0 : Int32) then none else own_wn (none) sa else own_wn (if (p5 &&& (1 : Int32)) = (0 : Int32) then none else own_wn (none) sa) sb else own_cl (if (p5 &&& (2 : Int32)) = (0 : Int32) then if (p5 &&& (1 : Int32)) = (0 : Int32) then none else own_wn (none) sa else own_wn (if (p5 &&& (1 : Int32)) = (0 : Int32) then none else own_wn (none) sa) sb) sc else own_cl (if (p5 &&& (4 : Int32)) = (0 : Int32) then if (p5 &&& (2 : Int32)) = (0 : Int32) then if (p5 &&& (1 : Int32)) = (0 : Int32) then none else own_wn (none) sa else own_wn (if (p5 &&& (1 : Int32)) = (0 : Int32) then none else own_wn (none) sa) sb else own_cl (if (p5 &&& (2 : Int32)) = (0 : Int32) then if (p5 &&& (1 : Int32)) = (0 : Int32) then none else own_wn (none) sa else own_wn (if (p5 &&& (1 : Int32)) = (0 : Int32) then none else own_wn (none) sa) sb) sc) se) sd)), .val (.int (own_isn (if (p5 &&& (16 : Int32)) = (0 : Int32) then if (p5 &&& (4 : Int32)) = (0 : Int32) then if (p5 &&& (2 : Int32)) = (0 : Int32) then if (p5 &&& (1 : Int32)) = (0 : Int32) then none else own_wn (none) sa else own_wn (if (p5 &&& (1 : Int32)) = (0 : Int32) then none else own_wn (none) sa) sb else own_cl (if (p5 &&& (2 : Int32)) = (0 : Int32) then if (p5 &&& (1 : Int32)) = (0 : Int32) then none else own_wn (none) sa else own_wn (if (p5 &&& (1 : Int32)) = (0 : Int32) then none else own_wn (none) sa) sb) sc else own_cl (if (p5 &&& (4 : Int32)) = (0 : Int32) then if (p5 &&& (2 : Int32)) = (0 : Int32) then if (p5 &&& (1 : Int32)) = (0 : Int32) then none else own_wn (none) sa else own_wn (if (p5 &&& (1 : Int32)) = (0 : Int32) then none else own_wn (none) sa) sb else own_cl (if (p5 &&& (2 : Int32)) = (0 : Int32) then if (p5 &&& (1 : Int32)) = (0 : Int32) then none else own_wn (none) sa else own_wn (if (p5 &&& (1 : Int32)) = (0 : Int32) then none else own_wn (none) sa) sb) sc) se) sa))]) rfl ?_
    show Steps p.tables e below (T8.setTop (mkF m 145 #[.val (.int p0), .val (.int p1), .val (.int p2), .val (.int p3), .val (.int p4), .val (.int p5), .val (.int sa), .val (.int sb), .val (.int sc), .val (.int sd), .val (.int se), .val (.int cap), .val (.ref ck), .val (.int (own_isn (if (p5 &&& (16 : Int32)) = (0 : Int32) then if (p5 &&& (4 : Int32)) = (0 : Int32) then if (p5 &&& (2 : Int32)) = (0 : Int32) then if (p5 &&& (1 : Int32)) = (0 : Int32) then none else own_wn (none) sa else own_wn (if (p5 &&& (1 : Int32)) = (0 : Int32) then none else own_wn (none) sa) sb else own_cl (if (p5 &&& (2 : Int32)) = (0 : Int32) then if (p5 &&& (1 : Int32)) = (0 : Int32) then none else own_wn (none) sa else own_wn (if (p5 &&& (1 : Int32)) = (0 : Int32) then none else own_wn (none) sa) sb) sc else own_cl (if (p5 &&& (4 : Int32)) = (0 : Int32) then if (p5 &&& (2 : Int32)) = (0 : Int32) then if (p5 &&& (1 : Int32)) = (0 : Int32) then none else own_wn (none) sa else own_wn (if (p5 &&& (1 : Int32)) = (0 : Int32) then none else own_wn (none) sa) sb else own_cl (if (p5 &&& (2 : Int32)) = (0 : Int32) then if (p5 &&& (1 : Int32)) = (0 : Int32) then none else own_wn (none) sa else own_wn (if (p5 &&& (1 : Int32)) = (0 : Int32) then none else own_wn (none) sa) sb) sc) se) sd)), .val (.int (own_isn (if (p5 &&& (16 : Int32)) = (0 : Int32) then if (p5 &&& (4 : Int32)) = (0 : Int32) then if (p5 &&& (2 : Int32)) = (0 : Int32) then if (p5 &&& (1 : Int32)) = (0 : Int32) then none else own_wn (none) sa else own_wn (if (p5 &&& (1 : Int32)) = (0 : Int32) then none else own_wn (none) sa) sb else own_cl (if (p5 &&& (2 : Int32)) = (0 : Int32) then if (p5 &&& (1 : Int32)) = (0 : Int32) then none else own_wn (none) sa else own_wn (if (p5 &&& (1 : Int32)) = (0 : Int32) then none else own_wn (none) sa) sb) sc else own_cl (if (p5 &&& (4 : Int32)) = (0 : Int32) then if (p5 &&& (2 : Int32)) = (0 : Int32) then if (p5 &&& (1 : Int32)) = (0 : Int32) then none else own_wn (none) sa else own_wn (if (p5 &&& (1 : Int32)) = (0 : Int32) then none else own_wn (none) sa) sb else own_cl (if (p5 &&& (2 : Int32)) = (0 : Int32) then if (p5 &&& (1 : Int32)) = (0 : Int32) then none else own_wn (none) sa else own_wn (if (p5 &&& (1 : Int32)) = (0 : Int32) then none else own_wn (none) sa) sb) sc) se) sa))] [])) _
    refine XS.iload X8.here hx rfl (hb hby at_145) rfl ?_
    show Steps p.tables e below (T8.setTop (mkF m 147 #[.val (.int p0), .val (.int p1), .val (.int p2), .val (.int p3), .val (.int p4), .val (.int p5), .val (.int sa), .val (.int sb), .val (.int sc), .val (.int sd), .val (.int se), .val (.int cap), .val (.ref ck), .val (.int (own_isn (if (p5 &&& (16 : Int32)) = (0 : Int32) then if (p5 &&& (4 : Int32)) = (0 : Int32) then if (p5 &&& (2 : Int32)) = (0 : Int32) then if (p5 &&& (1 : Int32)) = (0 : Int32) then none else own_wn (none) sa else own_wn (if (p5 &&& (1 : Int32)) = (0 : Int32) then none else own_wn (none) sa) sb else own_cl (if (p5 &&& (2 : Int32)) = (0 : Int32) then if (p5 &&& (1 : Int32)) = (0 : Int32) then none else own_wn (none) sa else own_wn (if (p5 &&& (1 : Int32)) = (0 : Int32) then none else own_wn (none) sa) sb) sc else own_cl (if (p5 &&& (4 : Int32)) = (0 : Int32) then if (p5 &&& (2 : Int32)) = (0 : Int32) then if (p5 &&& (1 : Int32)) = (0 : Int32) then none else own_wn (none) sa else own_wn (if (p5 &&& (1 : Int32)) = (0 : Int32) then none else own_wn (none) sa) sb else own_cl (if (p5 &&& (2 : Int32)) = (0 : Int32) then if (p5 &&& (1 : Int32)) = (0 : Int32) then none else own_wn (none) sa else own_wn (if (p5 &&& (1 : Int32)) = (0 : Int32) then none else own_wn (none) sa) sb) sc) se) sd)), .val (.int (own_isn (if (p5 &&& (16 : Int32)) = (0 : Int32) then if (p5 &&& (4 : Int32)) = (0 : Int32) then if (p5 &&& (2 : Int32)) = (0 : Int32) then if (p5 &&& (1 : Int32)) = (0 : Int32) then none else own_wn (none) sa else own_wn (if (p5 &&& (1 : Int32)) = (0 : Int32) then none else own_wn (none) sa) sb else own_cl (if (p5 &&& (2 : Int32)) = (0 : Int32) then if (p5 &&& (1 : Int32)) = (0 : Int32) then none else own_wn (none) sa else own_wn (if (p5 &&& (1 : Int32)) = (0 : Int32) then none else own_wn (none) sa) sb) sc else own_cl (if (p5 &&& (4 : Int32)) = (0 : Int32) then if (p5 &&& (2 : Int32)) = (0 : Int32) then if (p5 &&& (1 : Int32)) = (0 : Int32) then none else own_wn (none) sa else own_wn (if (p5 &&& (1 : Int32)) = (0 : Int32) then none else own_wn (none) sa) sb else own_cl (if (p5 &&& (2 : Int32)) = (0 : Int32) then if (p5 &&& (1 : Int32)) = (0 : Int32) then none else own_wn (none) sa else own_wn (if (p5 &&& (1 : Int32)) = (0 : Int32) then none else own_wn (none) sa) sb) sc) se) sa))] [(.int (own_isn (if (p5 &&& (16 : Int32)) = (0 : Int32) then if (p5 &&& (4 : Int32)) = (0 : Int32) then if (p5 &&& (2 : Int32)) = (0 : Int32) then if (p5 &&& (1 : Int32)) = (0 : Int32) then none else own_wn (none) sa else own_wn (if (p5 &&& (1 : Int32)) = (0 : Int32) then none else own_wn (none) sa) sb else own_cl (if (p5 &&& (2 : Int32)) = (0 : Int32) then if (p5 &&& (1 : Int32)) = (0 : Int32) then none else own_wn (none) sa else own_wn (if (p5 &&& (1 : Int32)) = (0 : Int32) then none else own_wn (none) sa) sb) sc else own_cl (if (p5 &&& (4 : Int32)) = (0 : Int32) then if (p5 &&& (2 : Int32)) = (0 : Int32) then if (p5 &&& (1 : Int32)) = (0 : Int32) then none else own_wn (none) sa else own_wn (if (p5 &&& (1 : Int32)) = (0 : Int32) then none else own_wn (none) sa) sb else own_cl (if (p5 &&& (2 : Int32)) = (0 : Int32) then if (p5 &&& (1 : Int32)) = (0 : Int32) then none else own_wn (none) sa else own_wn (if (p5 &&& (1 : Int32)) = (0 : Int32) then none else own_wn (none) sa) sb) sc) se) sd))])) _
    refine XS.iload X8.here hx rfl (hb hby at_147) rfl ?_
    show Steps p.tables e below (T8.setTop (mkF m 149 #[.val (.int p0), .val (.int p1), .val (.int p2), .val (.int p3), .val (.int p4), .val (.int p5), .val (.int sa), .val (.int sb), .val (.int sc), .val (.int sd), .val (.int se), .val (.int cap), .val (.ref ck), .val (.int (own_isn (if (p5 &&& (16 : Int32)) = (0 : Int32) then if (p5 &&& (4 : Int32)) = (0 : Int32) then if (p5 &&& (2 : Int32)) = (0 : Int32) then if (p5 &&& (1 : Int32)) = (0 : Int32) then none else own_wn (none) sa else own_wn (if (p5 &&& (1 : Int32)) = (0 : Int32) then none else own_wn (none) sa) sb else own_cl (if (p5 &&& (2 : Int32)) = (0 : Int32) then if (p5 &&& (1 : Int32)) = (0 : Int32) then none else own_wn (none) sa else own_wn (if (p5 &&& (1 : Int32)) = (0 : Int32) then none else own_wn (none) sa) sb) sc else own_cl (if (p5 &&& (4 : Int32)) = (0 : Int32) then if (p5 &&& (2 : Int32)) = (0 : Int32) then if (p5 &&& (1 : Int32)) = (0 : Int32) then none else own_wn (none) sa else own_wn (if (p5 &&& (1 : Int32)) = (0 : Int32) then none else own_wn (none) sa) sb else own_cl (if (p5 &&& (2 : Int32)) = (0 : Int32) then if (p5 &&& (1 : Int32)) = (0 : Int32) then none else own_wn (none) sa else own_wn (if (p5 &&& (1 : Int32)) = (0 : Int32) then none else own_wn (none) sa) sb) sc) se) sd)), .val (.int (own_isn (if (p5 &&& (16 : Int32)) = (0 : Int32) then if (p5 &&& (4 : Int32)) = (0 : Int32) then if (p5 &&& (2 : Int32)) = (0 : Int32) then if (p5 &&& (1 : Int32)) = (0 : Int32) then none else own_wn (none) sa else own_wn (if (p5 &&& (1 : Int32)) = (0 : Int32) then none else own_wn (none) sa) sb else own_cl (if (p5 &&& (2 : Int32)) = (0 : Int32) then if (p5 &&& (1 : Int32)) = (0 : Int32) then none else own_wn (none) sa else own_wn (if (p5 &&& (1 : Int32)) = (0 : Int32) then none else own_wn (none) sa) sb) sc else own_cl (if (p5 &&& (4 : Int32)) = (0 : Int32) then if (p5 &&& (2 : Int32)) = (0 : Int32) then if (p5 &&& (1 : Int32)) = (0 : Int32) then none else own_wn (none) sa else own_wn (if (p5 &&& (1 : Int32)) = (0 : Int32) then none else own_wn (none) sa) sb else own_cl (if (p5 &&& (2 : Int32)) = (0 : Int32) then if (p5 &&& (1 : Int32)) = (0 : Int32) then none else own_wn (none) sa else own_wn (if (p5 &&& (1 : Int32)) = (0 : Int32) then none else own_wn (none) sa) sb) sc) se) sa))] [(.int sd), (.int (own_isn (if (p5 &&& (16 : Int32)) = (0 : Int32) then if (p5 &&& (4 : Int32)) = (0 : Int32) then if (p5 &&& (2 : Int32)) = (0 : Int32) then if (p5 &&& (1 : Int32)) = (0 : Int32) then none else own_wn (none) sa else own_wn (if (p5 &&& (1 : Int32)) = (0 : Int32) then none else own_wn (none) sa) sb else own_cl (if (p5 &&& (2 : Int32)) = (0 : Int32) then if (p5 &&& (1 : Int32)) = (0 : Int32) then none else own_wn (none) sa else own_wn (if (p5 &&& (1 : Int32)) = (0 : Int32) then none else own_wn (none) sa) sb) sc else own_cl (if (p5 &&& (4 : Int32)) = (0 : Int32) then if (p5 &&& (2 : Int32)) = (0 : Int32) then if (p5 &&& (1 : Int32)) = (0 : Int32) then none else own_wn (none) sa else own_wn (if (p5 &&& (1 : Int32)) = (0 : Int32) then none else own_wn (none) sa) sb else own_cl (if (p5 &&& (2 : Int32)) = (0 : Int32) then if (p5 &&& (1 : Int32)) = (0 : Int32) then none else own_wn (none) sa else own_wn (if (p5 &&& (1 : Int32)) = (0 : Int32) then none else own_wn (none) sa) sb) sc) se) sd))])) _
    refine XS.iload X8.here hx rfl (hb hby at_149) rfl ?_
    show Steps p.tables e below (T8.setTop (mkF m 151 #[.val (.int p0), .val (.int p1), .val (.int p2), .val (.int p3), .val (.int p4), .val (.int p5), .val (.int sa), .val (.int sb), .val (.int sc), .val (.int sd), .val (.int se), .val (.int cap), .val (.ref ck), .val (.int (own_isn (if (p5 &&& (16 : Int32)) = (0 : Int32) then if (p5 &&& (4 : Int32)) = (0 : Int32) then if (p5 &&& (2 : Int32)) = (0 : Int32) then if (p5 &&& (1 : Int32)) = (0 : Int32) then none else own_wn (none) sa else own_wn (if (p5 &&& (1 : Int32)) = (0 : Int32) then none else own_wn (none) sa) sb else own_cl (if (p5 &&& (2 : Int32)) = (0 : Int32) then if (p5 &&& (1 : Int32)) = (0 : Int32) then none else own_wn (none) sa else own_wn (if (p5 &&& (1 : Int32)) = (0 : Int32) then none else own_wn (none) sa) sb) sc else own_cl (if (p5 &&& (4 : Int32)) = (0 : Int32) then if (p5 &&& (2 : Int32)) = (0 : Int32) then if (p5 &&& (1 : Int32)) = (0 : Int32) then none else own_wn (none) sa else own_wn (if (p5 &&& (1 : Int32)) = (0 : Int32) then none else own_wn (none) sa) sb else own_cl (if (p5 &&& (2 : Int32)) = (0 : Int32) then if (p5 &&& (1 : Int32)) = (0 : Int32) then none else own_wn (none) sa else own_wn (if (p5 &&& (1 : Int32)) = (0 : Int32) then none else own_wn (none) sa) sb) sc) se) sd)), .val (.int (own_isn (if (p5 &&& (16 : Int32)) = (0 : Int32) then if (p5 &&& (4 : Int32)) = (0 : Int32) then if (p5 &&& (2 : Int32)) = (0 : Int32) then if (p5 &&& (1 : Int32)) = (0 : Int32) then none else own_wn (none) sa else own_wn (if (p5 &&& (1 : Int32)) = (0 : Int32) then none else own_wn (none) sa) sb else own_cl (if (p5 &&& (2 : Int32)) = (0 : Int32) then if (p5 &&& (1 : Int32)) = (0 : Int32) then none else own_wn (none) sa else own_wn (if (p5 &&& (1 : Int32)) = (0 : Int32) then none else own_wn (none) sa) sb) sc else own_cl (if (p5 &&& (4 : Int32)) = (0 : Int32) then if (p5 &&& (2 : Int32)) = (0 : Int32) then if (p5 &&& (1 : Int32)) = (0 : Int32) then none else own_wn (none) sa else own_wn (if (p5 &&& (1 : Int32)) = (0 : Int32) then none else own_wn (none) sa) sb else own_cl (if (p5 &&& (2 : Int32)) = (0 : Int32) then if (p5 &&& (1 : Int32)) = (0 : Int32) then none else own_wn (none) sa else own_wn (if (p5 &&& (1 : Int32)) = (0 : Int32) then none else own_wn (none) sa) sb) sc) se) sa))] [(.int sa), (.int sd), (.int (own_isn (if (p5 &&& (16 : Int32)) = (0 : Int32) then if (p5 &&& (4 : Int32)) = (0 : Int32) then if (p5 &&& (2 : Int32)) = (0 : Int32) then if (p5 &&& (1 : Int32)) = (0 : Int32) then none else own_wn (none) sa else own_wn (if (p5 &&& (1 : Int32)) = (0 : Int32) then none else own_wn (none) sa) sb else own_cl (if (p5 &&& (2 : Int32)) = (0 : Int32) then if (p5 &&& (1 : Int32)) = (0 : Int32) then none else own_wn (none) sa else own_wn (if (p5 &&& (1 : Int32)) = (0 : Int32) then none else own_wn (none) sa) sb) sc else own_cl (if (p5 &&& (4 : Int32)) = (0 : Int32) then if (p5 &&& (2 : Int32)) = (0 : Int32) then if (p5 &&& (1 : Int32)) = (0 : Int32) then none else own_wn (none) sa else own_wn (if (p5 &&& (1 : Int32)) = (0 : Int32) then none else own_wn (none) sa) sb else own_cl (if (p5 &&& (2 : Int32)) = (0 : Int32) then if (p5 &&& (1 : Int32)) = (0 : Int32) then none else own_wn (none) sa else own_wn (if (p5 &&& (1 : Int32)) = (0 : Int32) then none else own_wn (none) sa) sb) sc) se) sd))])) _
    refine XS.iload X8.here hx rfl (hb hby at_151) rfl ?_
    show Steps p.tables e below (T8.setTop (mkF m 153 #[.val (.int p0), .val (.int p1), .val (.int p2), .val (.int p3), .val (.int p4), .val (.int p5), .val (.int sa), .val (.int sb), .val (.int sc), .val (.int sd), .val (.int se), .val (.int cap), .val (.ref ck), .val (.int (own_isn (if (p5 &&& (16 : Int32)) = (0 : Int32) then if (p5 &&& (4 : Int32)) = (0 : Int32) then if (p5 &&& (2 : Int32)) = (0 : Int32) then if (p5 &&& (1 : Int32)) = (0 : Int32) then none else own_wn (none) sa else own_wn (if (p5 &&& (1 : Int32)) = (0 : Int32) then none else own_wn (none) sa) sb else own_cl (if (p5 &&& (2 : Int32)) = (0 : Int32) then if (p5 &&& (1 : Int32)) = (0 : Int32) then none else own_wn (none) sa else own_wn (if (p5 &&& (1 : Int32)) = (0 : Int32) then none else own_wn (none) sa) sb) sc else own_cl (if (p5 &&& (4 : Int32)) = (0 : Int32) then if (p5 &&& (2 : Int32)) = (0 : Int32) then if (p5 &&& (1 : Int32)) = (0 : Int32) then none else own_wn (none) sa else own_wn (if (p5 &&& (1 : Int32)) = (0 : Int32) then none else own_wn (none) sa) sb else own_cl (if (p5 &&& (2 : Int32)) = (0 : Int32) then if (p5 &&& (1 : Int32)) = (0 : Int32) then none else own_wn (none) sa else own_wn (if (p5 &&& (1 : Int32)) = (0 : Int32) then none else own_wn (none) sa) sb) sc) se) sd)), .val (.int (own_isn (if (p5 &&& (16 : Int32)) = (0 : Int32) then if (p5 &&& (4 : Int32)) = (0 : Int32) then if (p5 &&& (2 : Int32)) = (0 : Int32) then if (p5 &&& (1 : Int32)) = (0 : Int32) then none else own_wn (none) sa else own_wn (if (p5 &&& (1 : Int32)) = (0 : Int32) then none else own_wn (none) sa) sb else own_cl (if (p5 &&& (2 : Int32)) = (0 : Int32) then if (p5 &&& (1 : Int32)) = (0 : Int32) then none else own_wn (none) sa else own_wn (if (p5 &&& (1 : Int32)) = (0 : Int32) then none else own_wn (none) sa) sb) sc else own_cl (if (p5 &&& (4 : Int32)) = (0 : Int32) then if (p5 &&& (2 : Int32)) = (0 : Int32) then if (p5 &&& (1 : Int32)) = (0 : Int32) then none else own_wn (none) sa else own_wn (if (p5 &&& (1 : Int32)) = (0 : Int32) then none else own_wn (none) sa) sb else own_cl (if (p5 &&& (2 : Int32)) = (0 : Int32) then if (p5 &&& (1 : Int32)) = (0 : Int32) then none else own_wn (none) sa else own_wn (if (p5 &&& (1 : Int32)) = (0 : Int32) then none else own_wn (none) sa) sb) sc) se) sa))] [(.int sb), (.int sa), (.int sd), (.int (own_isn (if (p5 &&& (16 : Int32)) = (0 : Int32) then if (p5 &&& (4 : Int32)) = (0 : Int32) then if (p5 &&& (2 : Int32)) = (0 : Int32) then if (p5 &&& (1 : Int32)) = (0 : Int32) then none else own_wn (none) sa else own_wn (if (p5 &&& (1 : Int32)) = (0 : Int32) then none else own_wn (none) sa) sb else own_cl (if (p5 &&& (2 : Int32)) = (0 : Int32) then if (p5 &&& (1 : Int32)) = (0 : Int32) then none else own_wn (none) sa else own_wn (if (p5 &&& (1 : Int32)) = (0 : Int32) then none else own_wn (none) sa) sb) sc else own_cl (if (p5 &&& (4 : Int32)) = (0 : Int32) then if (p5 &&& (2 : Int32)) = (0 : Int32) then if (p5 &&& (1 : Int32)) = (0 : Int32) then none else own_wn (none) sa else own_wn (if (p5 &&& (1 : Int32)) = (0 : Int32) then none else own_wn (none) sa) sb else own_cl (if (p5 &&& (2 : Int32)) = (0 : Int32) then if (p5 &&& (1 : Int32)) = (0 : Int32) then none else own_wn (none) sa else own_wn (if (p5 &&& (1 : Int32)) = (0 : Int32) then none else own_wn (none) sa) sb) sc) se) sd))])) _
    refine XS.iload X8.here hx rfl (hb hby at_153) rfl ?_
    show Steps p.tables e below (T8.setTop (mkF m 155 #[.val (.int p0), .val (.int p1), .val (.int p2), .val (.int p3), .val (.int p4), .val (.int p5), .val (.int sa), .val (.int sb), .val (.int sc), .val (.int sd), .val (.int se), .val (.int cap), .val (.ref ck), .val (.int (own_isn (if (p5 &&& (16 : Int32)) = (0 : Int32) then if (p5 &&& (4 : Int32)) = (0 : Int32) then if (p5 &&& (2 : Int32)) = (0 : Int32) then if (p5 &&& (1 : Int32)) = (0 : Int32) then none else own_wn (none) sa else own_wn (if (p5 &&& (1 : Int32)) = (0 : Int32) then none else own_wn (none) sa) sb else own_cl (if (p5 &&& (2 : Int32)) = (0 : Int32) then if (p5 &&& (1 : Int32)) = (0 : Int32) then none else own_wn (none) sa else own_wn (if (p5 &&& (1 : Int32)) = (0 : Int32) then none else own_wn (none) sa) sb) sc else own_cl (if (p5 &&& (4 : Int32)) = (0 : Int32) then if (p5 &&& (2 : Int32)) = (0 : Int32) then if (p5 &&& (1 : Int32)) = (0 : Int32) then none else own_wn (none) sa else own_wn (if (p5 &&& (1 : Int32)) = (0 : Int32) then none else own_wn (none) sa) sb else own_cl (if (p5 &&& (2 : Int32)) = (0 : Int32) then if (p5 &&& (1 : Int32)) = (0 : Int32) then none else own_wn (none) sa else own_wn (if (p5 &&& (1 : Int32)) = (0 : Int32) then none else own_wn (none) sa) sb) sc) se) sd)), .val (.int (own_isn (if (p5 &&& (16 : Int32)) = (0 : Int32) then if (p5 &&& (4 : Int32)) = (0 : Int32) then if (p5 &&& (2 : Int32)) = (0 : Int32) then if (p5 &&& (1 : Int32)) = (0 : Int32) then none else own_wn (none) sa else own_wn (if (p5 &&& (1 : Int32)) = (0 : Int32) then none else own_wn (none) sa) sb else own_cl (if (p5 &&& (2 : Int32)) = (0 : Int32) then if (p5 &&& (1 : Int32)) = (0 : Int32) then none else own_wn (none) sa else own_wn (if (p5 &&& (1 : Int32)) = (0 : Int32) then none else own_wn (none) sa) sb) sc else own_cl (if (p5 &&& (4 : Int32)) = (0 : Int32) then if (p5 &&& (2 : Int32)) = (0 : Int32) then if (p5 &&& (1 : Int32)) = (0 : Int32) then none else own_wn (none) sa else own_wn (if (p5 &&& (1 : Int32)) = (0 : Int32) then none else own_wn (none) sa) sb else own_cl (if (p5 &&& (2 : Int32)) = (0 : Int32) then if (p5 &&& (1 : Int32)) = (0 : Int32) then none else own_wn (none) sa else own_wn (if (p5 &&& (1 : Int32)) = (0 : Int32) then none else own_wn (none) sa) sb) sc) se) sa))] [(.int sc), (.int sb), (.int sa), (.int sd), (.int (own_isn (if (p5 &&& (16 : Int32)) = (0 : Int32) then if (p5 &&& (4 : Int32)) = (0 : Int32) then if (p5 &&& (2 : Int32)) = (0 : Int32) then if (p5 &&& (1 : Int32)) = (0 : Int32) then none else own_wn (none) sa else own_wn (if (p5 &&& (1 : Int32)) = (0 : Int32) then none else own_wn (none) sa) sb else own_cl (if (p5 &&& (2 : Int32)) = (0 : Int32) then if (p5 &&& (1 : Int32)) = (0 : Int32) then none else own_wn (none) sa else own_wn (if (p5 &&& (1 : Int32)) = (0 : Int32) then none else own_wn (none) sa) sb) sc else own_cl (if (p5 &&& (4 : Int32)) = (0 : Int32) then if (p5 &&& (2 : Int32)) = (0 : Int32) then if (p5 &&& (1 : Int32)) = (0 : Int32) then none else own_wn (none) sa else own_wn (if (p5 &&& (1 : Int32)) = (0 : Int32) then none else own_wn (none) sa) sb else own_cl (if (p5 &&& (2 : Int32)) = (0 : Int32) then if (p5 &&& (1 : Int32)) = (0 : Int32) then none else own_wn (none) sa else own_wn (if (p5 &&& (1 : Int32)) = (0 : Int32) then none else own_wn (none) sa) sb) sc) se) sd))])) _
    refine XS.iload X8.here hx rfl (hb hby at_155) rfl ?_
    show Steps p.tables e below (T8.setTop (mkF m 157 #[.val (.int p0), .val (.int p1), .val (.int p2), .val (.int p3), .val (.int p4), .val (.int p5), .val (.int sa), .val (.int sb), .val (.int sc), .val (.int sd), .val (.int se), .val (.int cap), .val (.ref ck), .val (.int (own_isn (if (p5 &&& (16 : Int32)) = (0 : Int32) then if (p5 &&& (4 : Int32)) = (0 : Int32) then if (p5 &&& (2 : Int32)) = (0 : Int32) then if (p5 &&& (1 : Int32)) = (0 : Int32) then none else own_wn (none) sa else own_wn (if (p5 &&& (1 : Int32)) = (0 : Int32) then none else own_wn (none) sa) sb else own_cl (if (p5 &&& (2 : Int32)) = (0 : Int32) then if (p5 &&& (1 : Int32)) = (0 : Int32) then none else own_wn (none) sa else own_wn (if (p5 &&& (1 : Int32)) = (0 : Int32) then none else own_wn (none) sa) sb) sc else own_cl (if (p5 &&& (4 : Int32)) = (0 : Int32) then if (p5 &&& (2 : Int32)) = (0 : Int32) then if (p5 &&& (1 : Int32)) = (0 : Int32) then none else own_wn (none) sa else own_wn (if (p5 &&& (1 : Int32)) = (0 : Int32) then none else own_wn (none) sa) sb else own_cl (if (p5 &&& (2 : Int32)) = (0 : Int32) then if (p5 &&& (1 : Int32)) = (0 : Int32) then none else own_wn (none) sa else own_wn (if (p5 &&& (1 : Int32)) = (0 : Int32) then none else own_wn (none) sa) sb) sc) se) sd)), .val (.int (own_isn (if (p5 &&& (16 : Int32)) = (0 : Int32) then if (p5 &&& (4 : Int32)) = (0 : Int32) then if (p5 &&& (2 : Int32)) = (0 : Int32) then if (p5 &&& (1 : Int32)) = (0 : Int32) then none else own_wn (none) sa else own_wn (if (p5 &&& (1 : Int32)) = (0 : Int32) then none else own_wn (none) sa) sb else own_cl (if (p5 &&& (2 : Int32)) = (0 : Int32) then if (p5 &&& (1 : Int32)) = (0 : Int32) then none else own_wn (none) sa else own_wn (if (p5 &&& (1 : Int32)) = (0 : Int32) then none else own_wn (none) sa) sb) sc else own_cl (if (p5 &&& (4 : Int32)) = (0 : Int32) then if (p5 &&& (2 : Int32)) = (0 : Int32) then if (p5 &&& (1 : Int32)) = (0 : Int32) then none else own_wn (none) sa else own_wn (if (p5 &&& (1 : Int32)) = (0 : Int32) then none else own_wn (none) sa) sb else own_cl (if (p5 &&& (2 : Int32)) = (0 : Int32) then if (p5 &&& (1 : Int32)) = (0 : Int32) then none else own_wn (none) sa else own_wn (if (p5 &&& (1 : Int32)) = (0 : Int32) then none else own_wn (none) sa) sb) sc) se) sa))] [(.int se), (.int sc), (.int sb), (.int sa), (.int sd), (.int (own_isn (if (p5 &&& (16 : Int32)) = (0 : Int32) then if (p5 &&& (4 : Int32)) = (0 : Int32) then if (p5 &&& (2 : Int32)) = (0 : Int32) then if (p5 &&& (1 : Int32)) = (0 : Int32) then none else own_wn (none) sa else own_wn (if (p5 &&& (1 : Int32)) = (0 : Int32) then none else own_wn (none) sa) sb else own_cl (if (p5 &&& (2 : Int32)) = (0 : Int32) then if (p5 &&& (1 : Int32)) = (0 : Int32) then none else own_wn (none) sa else own_wn (if (p5 &&& (1 : Int32)) = (0 : Int32) then none else own_wn (none) sa) sb) sc else own_cl (if (p5 &&& (4 : Int32)) = (0 : Int32) then if (p5 &&& (2 : Int32)) = (0 : Int32) then if (p5 &&& (1 : Int32)) = (0 : Int32) then none else own_wn (none) sa else own_wn (if (p5 &&& (1 : Int32)) = (0 : Int32) then none else own_wn (none) sa) sb else own_cl (if (p5 &&& (2 : Int32)) = (0 : Int32) then if (p5 &&& (1 : Int32)) = (0 : Int32) then none else own_wn (none) sa else own_wn (if (p5 &&& (1 : Int32)) = (0 : Int32) then none else own_wn (none) sa) sb) sc) se) sd))])) _
    refine XS.iload X8.here hx rfl (hb hby at_157) rfl ?_
    show Steps p.tables e below (T8.setTop (mkF m 159 #[.val (.int p0), .val (.int p1), .val (.int p2), .val (.int p3), .val (.int p4), .val (.int p5), .val (.int sa), .val (.int sb), .val (.int sc), .val (.int sd), .val (.int se), .val (.int cap), .val (.ref ck), .val (.int (own_isn (if (p5 &&& (16 : Int32)) = (0 : Int32) then if (p5 &&& (4 : Int32)) = (0 : Int32) then if (p5 &&& (2 : Int32)) = (0 : Int32) then if (p5 &&& (1 : Int32)) = (0 : Int32) then none else own_wn (none) sa else own_wn (if (p5 &&& (1 : Int32)) = (0 : Int32) then none else own_wn (none) sa) sb else own_cl (if (p5 &&& (2 : Int32)) = (0 : Int32) then if (p5 &&& (1 : Int32)) = (0 : Int32) then none else own_wn (none) sa else own_wn (if (p5 &&& (1 : Int32)) = (0 : Int32) then none else own_wn (none) sa) sb) sc else own_cl (if (p5 &&& (4 : Int32)) = (0 : Int32) then if (p5 &&& (2 : Int32)) = (0 : Int32) then if (p5 &&& (1 : Int32)) = (0 : Int32) then none else own_wn (none) sa else own_wn (if (p5 &&& (1 : Int32)) = (0 : Int32) then none else own_wn (none) sa) sb else own_cl (if (p5 &&& (2 : Int32)) = (0 : Int32) then if (p5 &&& (1 : Int32)) = (0 : Int32) then none else own_wn (none) sa else own_wn (if (p5 &&& (1 : Int32)) = (0 : Int32) then none else own_wn (none) sa) sb) sc) se) sd)), .val (.int (own_isn (if (p5 &&& (16 : Int32)) = (0 : Int32) then if (p5 &&& (4 : Int32)) = (0 : Int32) then if (p5 &&& (2 : Int32)) = (0 : Int32) then if (p5 &&& (1 : Int32)) = (0 : Int32) then none else own_wn (none) sa else own_wn (if (p5 &&& (1 : Int32)) = (0 : Int32) then none else own_wn (none) sa) sb else own_cl (if (p5 &&& (2 : Int32)) = (0 : Int32) then if (p5 &&& (1 : Int32)) = (0 : Int32) then none else own_wn (none) sa else own_wn (if (p5 &&& (1 : Int32)) = (0 : Int32) then none else own_wn (none) sa) sb) sc else own_cl (if (p5 &&& (4 : Int32)) = (0 : Int32) then if (p5 &&& (2 : Int32)) = (0 : Int32) then if (p5 &&& (1 : Int32)) = (0 : Int32) then none else own_wn (none) sa else own_wn (if (p5 &&& (1 : Int32)) = (0 : Int32) then none else own_wn (none) sa) sb else own_cl (if (p5 &&& (2 : Int32)) = (0 : Int32) then if (p5 &&& (1 : Int32)) = (0 : Int32) then none else own_wn (none) sa else own_wn (if (p5 &&& (1 : Int32)) = (0 : Int32) then none else own_wn (none) sa) sb) sc) se) sa))] [(.int p5), (.int se), (.int sc), (.int sb), (.int sa), (.int sd), (.int (own_isn (if (p5 &&& (16 : Int32)) = (0 : Int32) then if (p5 &&& (4 : Int32)) = (0 : Int32) then if (p5 &&& (2 : Int32)) = (0 : Int32) then if (p5 &&& (1 : Int32)) = (0 : Int32) then none else own_wn (none) sa else own_wn (if (p5 &&& (1 : Int32)) = (0 : Int32) then none else own_wn (none) sa) sb else own_cl (if (p5 &&& (2 : Int32)) = (0 : Int32) then if (p5 &&& (1 : Int32)) = (0 : Int32) then none else own_wn (none) sa else own_wn (if (p5 &&& (1 : Int32)) = (0 : Int32) then none else own_wn (none) sa) sb) sc else own_cl (if (p5 &&& (4 : Int32)) = (0 : Int32) then if (p5 &&& (2 : Int32)) = (0 : Int32) then if (p5 &&& (1 : Int32)) = (0 : Int32) then none else own_wn (none) sa else own_wn (if (p5 &&& (1 : Int32)) = (0 : Int32) then none else own_wn (none) sa) sb else own_cl (if (p5 &&& (2 : Int32)) = (0 : Int32) then if (p5 &&& (1 : Int32)) = (0 : Int32) then none else own_wn (none) sa else own_wn (if (p5 &&& (1 : Int32)) = (0 : Int32) then none else own_wn (none) sa) sb) sc) se) sd))])) _
    refine st9 _ ?_
    show Steps p.tables e below (T9.setTop (mkF m 162 #[.val (.int p0), .val (.int p1), .val (.int p2), .val (.int p3), .val (.int p4), .val (.int p5), .val (.int sa), .val (.int sb), .val (.int sc), .val (.int sd), .val (.int se), .val (.int cap), .val (.ref ck), .val (.int (own_isn (if (p5 &&& (16 : Int32)) = (0 : Int32) then if (p5 &&& (4 : Int32)) = (0 : Int32) then if (p5 &&& (2 : Int32)) = (0 : Int32) then if (p5 &&& (1 : Int32)) = (0 : Int32) then none else own_wn (none) sa else own_wn (if (p5 &&& (1 : Int32)) = (0 : Int32) then none else own_wn (none) sa) sb else own_cl (if (p5 &&& (2 : Int32)) = (0 : Int32) then if (p5 &&& (1 : Int32)) = (0 : Int32) then none else own_wn (none) sa else own_wn (if (p5 &&& (1 : Int32)) = (0 : Int32) then none else own_wn (none) sa) sb) sc else own_cl (if (p5 &&& (4 : Int32)) = (0 : Int32) then if (p5 &&& (2 : Int32)) = (0 : Int32) then if (p5 &&& (1 : Int32)) = (0 : Int32) then none else own_wn (none) sa else own_wn (if (p5 &&& (1 : Int32)) = (0 : Int32) then none else own_wn (none) sa) sb else own_cl (if (p5 &&& (2 : Int32)) = (0 : Int32) then if (p5 &&& (1 : Int32)) = (0 : Int32) then none else own_wn (none) sa else own_wn (if (p5 &&& (1 : Int32)) = (0 : Int32) then none else own_wn (none) sa) sb) sc) se) sd)), .val (.int (own_isn (if (p5 &&& (16 : Int32)) = (0 : Int32) then if (p5 &&& (4 : Int32)) = (0 : Int32) then if (p5 &&& (2 : Int32)) = (0 : Int32) then if (p5 &&& (1 : Int32)) = (0 : Int32) then none else own_wn (none) sa else own_wn (if (p5 &&& (1 : Int32)) = (0 : Int32) then none else own_wn (none) sa) sb else own_cl (if (p5 &&& (2 : Int32)) = (0 : Int32) then if (p5 &&& (1 : Int32)) = (0 : Int32) then none else own_wn (none) sa else own_wn (if (p5 &&& (1 : Int32)) = (0 : Int32) then none else own_wn (none) sa) sb) sc else own_cl (if (p5 &&& (4 : Int32)) = (0 : Int32) then if (p5 &&& (2 : Int32)) = (0 : Int32) then if (p5 &&& (1 : Int32)) = (0 : Int32) then none else own_wn (none) sa else own_wn (if (p5 &&& (1 : Int32)) = (0 : Int32) then none else own_wn (none) sa) sb else own_cl (if (p5 &&& (2 : Int32)) = (0 : Int32) then if (p5 &&& (1 : Int32)) = (0 : Int32) then none else own_wn (none) sa else own_wn (if (p5 &&& (1 : Int32)) = (0 : Int32) then none else own_wn (none) sa) sb) sc) se) sa))] [(.int (own_exp sd sa sb sc se p5)), (.int (own_isn (if (p5 &&& (16 : Int32)) = (0 : Int32) then if (p5 &&& (4 : Int32)) = (0 : Int32) then if (p5 &&& (2 : Int32)) = (0 : Int32) then if (p5 &&& (1 : Int32)) = (0 : Int32) then none else own_wn (none) sa else own_wn (if (p5 &&& (1 : Int32)) = (0 : Int32) then none else own_wn (none) sa) sb else own_cl (if (p5 &&& (2 : Int32)) = (0 : Int32) then if (p5 &&& (1 : Int32)) = (0 : Int32) then none else own_wn (none) sa else own_wn (if (p5 &&& (1 : Int32)) = (0 : Int32) then none else own_wn (none) sa) sb) sc else own_cl (if (p5 &&& (4 : Int32)) = (0 : Int32) then if (p5 &&& (2 : Int32)) = (0 : Int32) then if (p5 &&& (1 : Int32)) = (0 : Int32) then none else own_wn (none) sa else own_wn (if (p5 &&& (1 : Int32)) = (0 : Int32) then none else own_wn (none) sa) sb else own_cl (if (p5 &&& (2 : Int32)) = (0 : Int32) then if (p5 &&& (1 : Int32)) = (0 : Int32) then none else own_wn (none) sa else own_wn (if (p5 &&& (1 : Int32)) = (0 : Int32) then none else own_wn (none) sa) sb) sc) se) sd))])) _
    refine XS.icmpNo X9.here hx rfl (hb hby at_162) rfl (teq (own_fin p5 sd sa sb sc se hsd hsa hsb hsc hse : (own_isn (if (p5 &&& (16 : Int32)) = (0 : Int32) then if (p5 &&& (4 : Int32)) = (0 : Int32) then if (p5 &&& (2 : Int32)) = (0 : Int32) then if (p5 &&& (1 : Int32)) = (0 : Int32) then none else own_wn (none) sa else own_wn (if (p5 &&& (1 : Int32)) = (0 : Int32) then none else own_wn (none) sa) sb else own_cl (if (p5 &&& (2 : Int32)) = (0 : Int32) then if (p5 &&& (1 : Int32)) = (0 : Int32) then none else own_wn (none) sa else own_wn (if (p5 &&& (1 : Int32)) = (0 : Int32) then none else own_wn (none) sa) sb) sc else own_cl (if (p5 &&& (4 : Int32)) = (0 : Int32) then if (p5 &&& (2 : Int32)) = (0 : Int32) then if (p5 &&& (1 : Int32)) = (0 : Int32) then none else own_wn (none) sa else own_wn (if (p5 &&& (1 : Int32)) = (0 : Int32) then none else own_wn (none) sa) sb else own_cl (if (p5 &&& (2 : Int32)) = (0 : Int32) then if (p5 &&& (1 : Int32)) = (0 : Int32) then none else own_wn (none) sa else own_wn (if (p5 &&& (1 : Int32)) = (0 : Int32) then none else own_wn (none) sa) sb) sc) se) sd) = (own_exp sd sa sb sc se p5))).2 ?_
    show Steps p.tables e below (T9.setTop (mkF m 165 #[.val (.int p0), .val (.int p1), .val (.int p2), .val (.int p3), .val (.int p4), .val (.int p5), .val (.int sa), .val (.int sb), .val (.int sc), .val (.int sd), .val (.int se), .val (.int cap), .val (.ref ck), .val (.int (own_isn (if (p5 &&& (16 : Int32)) = (0 : Int32) then if (p5 &&& (4 : Int32)) = (0 : Int32) then if (p5 &&& (2 : Int32)) = (0 : Int32) then if (p5 &&& (1 : Int32)) = (0 : Int32) then none else own_wn (none) sa else own_wn (if (p5 &&& (1 : Int32)) = (0 : Int32) then none else own_wn (none) sa) sb else own_cl (if (p5 &&& (2 : Int32)) = (0 : Int32) then if (p5 &&& (1 : Int32)) = (0 : Int32) then none else own_wn (none) sa else own_wn (if (p5 &&& (1 : Int32)) = (0 : Int32) then none else own_wn (none) sa) sb) sc else own_cl (if (p5 &&& (4 : Int32)) = (0 : Int32) then if (p5 &&& (2 : Int32)) = (0 : Int32) then if (p5 &&& (1 : Int32)) = (0 : Int32) then none else own_wn (none) sa else own_wn (if (p5 &&& (1 : Int32)) = (0 : Int32) then none else own_wn (none) sa) sb else own_cl (if (p5 &&& (2 : Int32)) = (0 : Int32) then if (p5 &&& (1 : Int32)) = (0 : Int32) then none else own_wn (none) sa else own_wn (if (p5 &&& (1 : Int32)) = (0 : Int32) then none else own_wn (none) sa) sb) sc) se) sd)), .val (.int (own_isn (if (p5 &&& (16 : Int32)) = (0 : Int32) then if (p5 &&& (4 : Int32)) = (0 : Int32) then if (p5 &&& (2 : Int32)) = (0 : Int32) then if (p5 &&& (1 : Int32)) = (0 : Int32) then none else own_wn (none) sa else own_wn (if (p5 &&& (1 : Int32)) = (0 : Int32) then none else own_wn (none) sa) sb else own_cl (if (p5 &&& (2 : Int32)) = (0 : Int32) then if (p5 &&& (1 : Int32)) = (0 : Int32) then none else own_wn (none) sa else own_wn (if (p5 &&& (1 : Int32)) = (0 : Int32) then none else own_wn (none) sa) sb) sc else own_cl (if (p5 &&& (4 : Int32)) = (0 : Int32) then if (p5 &&& (2 : Int32)) = (0 : Int32) then if (p5 &&& (1 : Int32)) = (0 : Int32) then none else own_wn (none) sa else own_wn (if (p5 &&& (1 : Int32)) = (0 : Int32) then none else own_wn (none) sa) sb else own_cl (if (p5 &&& (2 : Int32)) = (0 : Int32) then if (p5 &&& (1 : Int32)) = (0 : Int32) then none else own_wn (none) sa else own_wn (if (p5 &&& (1 : Int32)) = (0 : Int32) then none else own_wn (none) sa) sb) sc) se) sa))] [])) _
    refine XS.iload X9.here hx rfl (hb hby at_165) rfl ?_
    show Steps p.tables e below (T9.setTop (mkF m 167 #[.val (.int p0), .val (.int p1), .val (.int p2), .val (.int p3), .val (.int p4), .val (.int p5), .val (.int sa), .val (.int sb), .val (.int sc), .val (.int sd), .val (.int se), .val (.int cap), .val (.ref ck), .val (.int (own_isn (if (p5 &&& (16 : Int32)) = (0 : Int32) then if (p5 &&& (4 : Int32)) = (0 : Int32) then if (p5 &&& (2 : Int32)) = (0 : Int32) then if (p5 &&& (1 : Int32)) = (0 : Int32) then none else own_wn (none) sa else own_wn (if (p5 &&& (1 : Int32)) = (0 : Int32) then none else own_wn (none) sa) sb else own_cl (if (p5 &&& (2 : Int32)) = (0 : Int32) then if (p5 &&& (1 : Int32)) = (0 : Int32) then none else own_wn (none) sa else own_wn (if (p5 &&& (1 : Int32)) = (0 : Int32) then none else own_wn (none) sa) sb) sc else own_cl (if (p5 &&& (4 : Int32)) = (0 : Int32) then if (p5 &&& (2 : Int32)) = (0 : Int32) then if (p5 &&& (1 : Int32)) = (0 : Int32) then none else own_wn (none) sa else own_wn (if (p5 &&& (1 : Int32)) = (0 : Int32) then none else own_wn (none) sa) sb else own_cl (if (p5 &&& (2 : Int32)) = (0 : Int32) then if (p5 &&& (1 : Int32)) = (0 : Int32) then none else own_wn (none) sa else own_wn (if (p5 &&& (1 : Int32)) = (0 : Int32) then none else own_wn (none) sa) sb) sc) se) sd)), .val (.int (own_isn (if (p5 &&& (16 : Int32)) = (0 : Int32) then if (p5 &&& (4 : Int32)) = (0 : Int32) then if (p5 &&& (2 : Int32)) = (0 : Int32) then if (p5 &&& (1 : Int32)) = (0 : Int32) then none else own_wn (none) sa else own_wn (if (p5 &&& (1 : Int32)) = (0 : Int32) then none else own_wn (none) sa) sb else own_cl (if (p5 &&& (2 : Int32)) = (0 : Int32) then if (p5 &&& (1 : Int32)) = (0 : Int32) then none else own_wn (none) sa else own_wn (if (p5 &&& (1 : Int32)) = (0 : Int32) then none else own_wn (none) sa) sb) sc else own_cl (if (p5 &&& (4 : Int32)) = (0 : Int32) then if (p5 &&& (2 : Int32)) = (0 : Int32) then if (p5 &&& (1 : Int32)) = (0 : Int32) then none else own_wn (none) sa else own_wn (if (p5 &&& (1 : Int32)) = (0 : Int32) then none else own_wn (none) sa) sb else own_cl (if (p5 &&& (2 : Int32)) = (0 : Int32) then if (p5 &&& (1 : Int32)) = (0 : Int32) then none else own_wn (none) sa else own_wn (if (p5 &&& (1 : Int32)) = (0 : Int32) then none else own_wn (none) sa) sb) sc) se) sa))] [(.int (own_isn (if (p5 &&& (16 : Int32)) = (0 : Int32) then if (p5 &&& (4 : Int32)) = (0 : Int32) then if (p5 &&& (2 : Int32)) = (0 : Int32) then if (p5 &&& (1 : Int32)) = (0 : Int32) then none else own_wn (none) sa else own_wn (if (p5 &&& (1 : Int32)) = (0 : Int32) then none else own_wn (none) sa) sb else own_cl (if (p5 &&& (2 : Int32)) = (0 : Int32) then if (p5 &&& (1 : Int32)) = (0 : Int32) then none else own_wn (none) sa else own_wn (if (p5 &&& (1 : Int32)) = (0 : Int32) then none else own_wn (none) sa) sb) sc else own_cl (if (p5 &&& (4 : Int32)) = (0 : Int32) then if (p5 &&& (2 : Int32)) = (0 : Int32) then if (p5 &&& (1 : Int32)) = (0 : Int32) then none else own_wn (none) sa else own_wn (if (p5 &&& (1 : Int32)) = (0 : Int32) then none else own_wn (none) sa) sb else own_cl (if (p5 &&& (2 : Int32)) = (0 : Int32) then if (p5 &&& (1 : Int32)) = (0 : Int32) then none else own_wn (none) sa else own_wn (if (p5 &&& (1 : Int32)) = (0 : Int32) then none else own_wn (none) sa) sb) sc) se) sa))])) _
    refine XS.iload X9.here hx rfl (hb hby at_167) rfl ?_
    show Steps p.tables e below (T9.setTop (mkF m 169 #[.val (.int p0), .val (.int p1), .val (.int p2), .val (.int p3), .val (.int p4), .val (.int p5), .val (.int sa), .val (.int sb), .val (.int sc), .val (.int sd), .val (.int se), .val (.int cap), .val (.ref ck), .val (.int (own_isn (if (p5 &&& (16 : Int32)) = (0 : Int32) then if (p5 &&& (4 : Int32)) = (0 : Int32) then if (p5 &&& (2 : Int32)) = (0 : Int32) then if (p5 &&& (1 : Int32)) = (0 : Int32) then none else own_wn (none) sa else own_wn (if (p5 &&& (1 : Int32)) = (0 : Int32) then none else own_wn (none) sa) sb else own_cl (if (p5 &&& (2 : Int32)) = (0 : Int32) then if (p5 &&& (1 : Int32)) = (0 : Int32) then none else own_wn (none) sa else own_wn (if (p5 &&& (1 : Int32)) = (0 : Int32) then none else own_wn (none) sa) sb) sc else own_cl (if (p5 &&& (4 : Int32)) = (0 : Int32) then if (p5 &&& (2 : Int32)) = (0 : Int32) then if (p5 &&& (1 : Int32)) = (0 : Int32) then none else own_wn (none) sa else own_wn (if (p5 &&& (1 : Int32)) = (0 : Int32) then none else own_wn (none) sa) sb else own_cl (if (p5 &&& (2 : Int32)) = (0 : Int32) then if (p5 &&& (1 : Int32)) = (0 : Int32) then none else own_wn (none) sa else own_wn (if (p5 &&& (1 : Int32)) = (0 : Int32) then none else own_wn (none) sa) sb) sc) se) sd)), .val (.int (own_isn (if (p5 &&& (16 : Int32)) = (0 : Int32) then if (p5 &&& (4 : Int32)) = (0 : Int32) then if (p5 &&& (2 : Int32)) = (0 : Int32) then if (p5 &&& (1 : Int32)) = (0 : Int32) then none else own_wn (none) sa else own_wn (if (p5 &&& (1 : Int32)) = (0 : Int32) then none else own_wn (none) sa) sb else own_cl (if (p5 &&& (2 : Int32)) = (0 : Int32) then if (p5 &&& (1 : Int32)) = (0 : Int32) then none else own_wn (none) sa else own_wn (if (p5 &&& (1 : Int32)) = (0 : Int32) then none else own_wn (none) sa) sb) sc else own_cl (if (p5 &&& (4 : Int32)) = (0 : Int32) then if (p5 &&& (2 : Int32)) = (0 : Int32) then if (p5 &&& (1 : Int32)) = (0 : Int32) then none else own_wn (none) sa else own_wn (if (p5 &&& (1 : Int32)) = (0 : Int32) then none else own_wn (none) sa) sb else own_cl (if (p5 &&& (2 : Int32)) = (0 : Int32) then if (p5 &&& (1 : Int32)) = (0 : Int32) then none else own_wn (none) sa else own_wn (if (p5 &&& (1 : Int32)) = (0 : Int32) then none else own_wn (none) sa) sb) sc) se) sa))] [(.int sa), (.int (own_isn (if (p5 &&& (16 : Int32)) = (0 : Int32) then if (p5 &&& (4 : Int32)) = (0 : Int32) then if (p5 &&& (2 : Int32)) = (0 : Int32) then if (p5 &&& (1 : Int32)) = (0 : Int32) then none else own_wn (none) sa else own_wn (if (p5 &&& (1 : Int32)) = (0 : Int32) then none else own_wn (none) sa) sb else own_cl (if (p5 &&& (2 : Int32)) = (0 : Int32) then if (p5 &&& (1 : Int32)) = (0 : Int32) then none else own_wn (none) sa else own_wn (if (p5 &&& (1 : Int32)) = (0 : Int32) then none else own_wn (none) sa) sb) sc else own_cl (if (p5 &&& (4 : Int32)) = (0 : Int32) then if (p5 &&& (2 : Int32)) = (0 : Int32) then if (p5 &&& (1 : Int32)) = (0 : Int32) then none else own_wn (none) sa else own_wn (if (p5 &&& (1 : Int32)) = (0 : Int32) then none else own_wn (none) sa) sb else own_cl (if (p5 &&& (2 : Int32)) = (0 : Int32) then if (p5 &&& (1 : Int32)) = (0 : Int32) then none else own_wn (none) sa else own_wn (if (p5 &&& (1 : Int32)) = (0 : Int32) then none else own_wn (none) sa) sb) sc) se) sa))])) _
    refine XS.iload X9.here hx rfl (hb hby at_169) rfl ?_
    show Steps p.tables e below (T9.setTop (mkF m 171 #[.val (.int p0), .val (.int p1), .val (.int p2), .val (.int p3), .val (.int p4), .val (.int p5), .val (.int sa), .val (.int sb), .val (.int sc), .val (.int sd), .val (.int se), .val (.int cap), .val (.ref ck), .val (.int (own_isn (if (p5 &&& (16 : Int32)) = (0 : Int32) then if (p5 &&& (4 : Int32)) = (0 : Int32) then if (p5 &&& (2 : Int32)) = (0 : Int32) then if (p5 &&& (1 : Int32)) = (0 : Int32) then none else own_wn (none) sa else own_wn (if (p5 &&& (1 : Int32)) = (0 : Int32) then none else own_wn (none) sa) sb else own_cl (if (p5 &&& (2 : Int32)) = (0 : Int32) then if (p5 &&& (1 : Int32)) = (0 : Int32) then none else own_wn (none) sa else own_wn (if (p5 &&& (1 : Int32)) = (0 : Int32) then none else own_wn (none) sa) sb) sc else own_cl (if (p5 &&& (4 : Int32)) = (0 : Int32) then if (p5 &&& (2 : Int32)) = (0 : Int32) then if (p5 &&& (1 : Int32)) = (0 : Int32) then none else own_wn (none) sa else own_wn (if (p5 &&& (1 : Int32)) = (0 : Int32) then none else own_wn (none) sa) sb else own_cl (if (p5 &&& (2 : Int32)) = (0 : Int32) then if (p5 &&& (1 : Int32)) = (0 : Int32) then none else own_wn (none) sa else own_wn (if (p5 &&& (1 : Int32)) = (0 : Int32) then none else own_wn (none) sa) sb) sc) se) sd)), .val (.int (own_isn (if (p5 &&& (16 : Int32)) = (0 : Int32) then if (p5 &&& (4 : Int32)) = (0 : Int32) then if (p5 &&& (2 : Int32)) = (0 : Int32) then if (p5 &&& (1 : Int32)) = (0 : Int32) then none else own_wn (none) sa else own_wn (if (p5 &&& (1 : Int32)) = (0 : Int32) then none else own_wn (none) sa) sb else own_cl (if (p5 &&& (2 : Int32)) = (0 : Int32) then if (p5 &&& (1 : Int32)) = (0 : Int32) then none else own_wn (none) sa else own_wn (if (p5 &&& (1 : Int32)) = (0 : Int32) then none else own_wn (none) sa) sb) sc else own_cl (if (p5 &&& (4 : Int32)) = (0 : Int32) then if (p5 &&& (2 : Int32)) = (0 : Int32) then if (p5 &&& (1 : Int32)) = (0 : Int32) then none else own_wn (none) sa else own_wn (if (p5 &&& (1 : Int32)) = (0 : Int32) then none else own_wn (none) sa) sb else own_cl (if (p5 &&& (2 : Int32)) = (0 : Int32) then if (p5 &&& (1 : Int32)) = (0 : Int32) then none else own_wn (none) sa else own_wn (if (p5 &&& (1 : Int32)) = (0 : Int32) then none else own_wn (none) sa) sb) sc) se) sa))] [(.int sa), (.int sa), (.int (own_isn (if (p5 &&& (16 : Int32)) = (0 : Int32) then if (p5 &&& (4 : Int32)) = (0 : Int32) then if (p5 &&& (2 : Int32)) = (0 : Int32) then if (p5 &&& (1 : Int32)) = (0 : Int32) then none else own_wn (none) sa else own_wn (if (p5 &&& (1 : Int32)) = (0 : Int32) then none else own_wn (none) sa) sb else own_cl (if (p5 &&& (2 : Int32)) = (0 : Int32) then if (p5 &&& (1 : Int32)) = (0 : Int32) then none else own_wn (none) sa else own_wn (if (p5 &&& (1 : Int32)) = (0 : Int32) then none else own_wn (none) sa) sb) sc else own_cl (if (p5 &&& (4 : Int32)) = (0 : Int32) then if (p5 &&& (2 : Int32)) = (0 : Int32) then if (p5 &&& (1 : Int32)) = (0 : Int32) then none else own_wn (none) sa else own_wn (if (p5 &&& (1 : Int32)) = (0 : Int32) then none else own_wn (none) sa) sb else own_cl (if (p5 &&& (2 : Int32)) = (0 : Int32) then if (p5 &&& (1 : Int32)) = (0 : Int32) then none else own_wn (none) sa else own_wn (if (p5 &&& (1 : Int32)) = (0 : Int32) then none else own_wn (none) sa) sb) sc) se) sa))])) _
    refine XS.iload X9.here hx rfl (hb hby at_171) rfl ?_
    show Steps p.tables e below (T9.setTop (mkF m 173 #[.val (.int p0), .val (.int p1), .val (.int p2), .val (.int p3), .val (.int p4), .val (.int p5), .val (.int sa), .val (.int sb), .val (.int sc), .val (.int sd), .val (.int se), .val (.int cap), .val (.ref ck), .val (.int (own_isn (if (p5 &&& (16 : Int32)) = (0 : Int32) then if (p5 &&& (4 : Int32)) = (0 : Int32) then if (p5 &&& (2 : Int32)) = (0 : Int32) then if (p5 &&& (1 : Int32)) = (0 : Int32) then none else own_wn (none) sa else own_wn (if (p5 &&& (1 : Int32)) = (0 : Int32) then none else own_wn (none) sa) sb else own_cl (if (p5 &&& (2 : Int32)) = (0 : Int32) then if (p5 &&& (1 : Int32)) = (0 : Int32) then none else own_wn (none) sa else own_wn (if (p5 &&& (1 : Int32)) = (0 : Int32) then none else own_wn (none) sa) sb) sc else own_cl (if (p5 &&& (4 : Int32)) = (0 : Int32) then if (p5 &&& (2 : Int32)) = (0 : Int32) then if (p5 &&& (1 : Int32)) = (0 : Int32) then none else own_wn (none) sa else own_wn (if (p5 &&& (1 : Int32)) = (0 : Int32) then none else own_wn (none) sa) sb else own_cl (if (p5 &&& (2 : Int32)) = (0 : Int32) then if (p5 &&& (1 : Int32)) = (0 : Int32) then none else own_wn (none) sa else own_wn (if (p5 &&& (1 : Int32)) = (0 : Int32) then none else own_wn (none) sa) sb) sc) se) sd)), .val (.int (own_isn (if (p5 &&& (16 : Int32)) = (0 : Int32) then if (p5 &&& (4 : Int32)) = (0 : Int32) then if (p5 &&& (2 : Int32)) = (0 : Int32) then if (p5 &&& (1 : Int32)) = (0 : Int32) then none else own_wn (none) sa else own_wn (if (p5 &&& (1 : Int32)) = (0 : Int32) then none else own_wn (none) sa) sb else own_cl (if (p5 &&& (2 : Int32)) = (0 : Int32) then if (p5 &&& (1 : Int32)) = (0 : Int32) then none else own_wn (none) sa else own_wn (if (p5 &&& (1 : Int32)) = (0 : Int32) then none else own_wn (none) sa) sb) sc else own_cl (if (p5 &&& (4 : Int32)) = (0 : Int32) then if (p5 &&& (2 : Int32)) = (0 : Int32) then if (p5 &&& (1 : Int32)) = (0 : Int32) then none else own_wn (none) sa else own_wn (if (p5 &&& (1 : Int32)) = (0 : Int32) then none else own_wn (none) sa) sb else own_cl (if (p5 &&& (2 : Int32)) = (0 : Int32) then if (p5 &&& (1 : Int32)) = (0 : Int32) then none else own_wn (none) sa else own_wn (if (p5 &&& (1 : Int32)) = (0 : Int32) then none else own_wn (none) sa) sb) sc) se) sa))] [(.int sb), (.int sa), (.int sa), (.int (own_isn (if (p5 &&& (16 : Int32)) = (0 : Int32) then if (p5 &&& (4 : Int32)) = (0 : Int32) then if (p5 &&& (2 : Int32)) = (0 : Int32) then if (p5 &&& (1 : Int32)) = (0 : Int32) then none else own_wn (none) sa else own_wn (if (p5 &&& (1 : Int32)) = (0 : Int32) then none else own_wn (none) sa) sb else own_cl (if (p5 &&& (2 : Int32)) = (0 : Int32) then if (p5 &&& (1 : Int32)) = (0 : Int32) then none else own_wn (none) sa else own_wn (if (p5 &&& (1 : Int32)) = (0 : Int32) then none else own_wn (none) sa) sb) sc else own_cl (if (p5 &&& (4 : Int32)) = (0 : Int32) then if (p5 &&& (2 : Int32)) = (0 : Int32) then if (p5 &&& (1 : Int32)) = (0 : Int32) then none else own_wn (none) sa else own_wn (if (p5 &&& (1 : Int32)) = (0 : Int32) then none else own_wn (none) sa) sb else own_cl (if (p5 &&& (2 : Int32)) = (0 : Int32) then if (p5 &&& (1 : Int32)) = (0 : Int32) then none else own_wn (none) sa else own_wn (if (p5 &&& (1 : Int32)) = (0 : Int32) then none else own_wn (none) sa) sb) sc) se) sa))])) _
    refine XS.iload X9.here hx rfl (hb hby at_173) rfl ?_
    show Steps p.tables e below (T9.setTop (mkF m 175 #[.val (.int p0), .val (.int p1), .val (.int p2), .val (.int p3), .val (.int p4), .val (.int p5), .val (.int sa), .val (.int sb), .val (.int sc), .val (.int sd), .val (.int se), .val (.int cap), .val (.ref ck), .val (.int (own_isn (if (p5 &&& (16 : Int32)) = (0 : Int32) then if (p5 &&& (4 : Int32)) = (0 : Int32) then if (p5 &&& (2 : Int32)) = (0 : Int32) then if (p5 &&& (1 : Int32)) = (0 : Int32) then none else own_wn (none) sa else own_wn (if (p5 &&& (1 : Int32)) = (0 : Int32) then none else own_wn (none) sa) sb else own_cl (if (p5 &&& (2 : Int32)) = (0 : Int32) then if (p5 &&& (1 : Int32)) = (0 : Int32) then none else own_wn (none) sa else own_wn (if (p5 &&& (1 : Int32)) = (0 : Int32) then none else own_wn (none) sa) sb) sc else own_cl (if (p5 &&& (4 : Int32)) = (0 : Int32) then if (p5 &&& (2 : Int32)) = (0 : Int32) then if (p5 &&& (1 : Int32)) = (0 : Int32) then none else own_wn (none) sa else own_wn (if (p5 &&& (1 : Int32)) = (0 : Int32) then none else own_wn (none) sa) sb else own_cl (if (p5 &&& (2 : Int32)) = (0 : Int32) then if (p5 &&& (1 : Int32)) = (0 : Int32) then none else own_wn (none) sa else own_wn (if (p5 &&& (1 : Int32)) = (0 : Int32) then none else own_wn (none) sa) sb) sc) se) sd)), .val (.int (own_isn (if (p5 &&& (16 : Int32)) = (0 : Int32) then if (p5 &&& (4 : Int32)) = (0 : Int32) then if (p5 &&& (2 : Int32)) = (0 : Int32) then if (p5 &&& (1 : Int32)) = (0 : Int32) then none else own_wn (none) sa else own_wn (if (p5 &&& (1 : Int32)) = (0 : Int32) then none else own_wn (none) sa) sb else own_cl (if (p5 &&& (2 : Int32)) = (0 : Int32) then if (p5 &&& (1 : Int32)) = (0 : Int32) then none else own_wn (none) sa else own_wn (if (p5 &&& (1 : Int32)) = (0 : Int32) then none else own_wn (none) sa) sb) sc else own_cl (if (p5 &&& (4 : Int32)) = (0 : Int32) then if (p5 &&& (2 : Int32)) = (0 : Int32) then if (p5 &&& (1 : Int32)) = (0 : Int32) then none else own_wn (none) sa else own_wn (if (p5 &&& (1 : Int32)) = (0 : Int32) then none else own_wn (none) sa) sb else own_cl (if (p5 &&& (2 : Int32)) = (0 : Int32) then if (p5 &&& (1 : Int32)) = (0 : Int32) then none else own_wn (none) sa else own_wn (if (p5 &&& (1 : Int32)) = (0 : Int32) then none else own_wn (none) sa) sb) sc) se) sa))] [(.int sc), (.int sb), (.int sa), (.int sa), (.int (own_isn (if (p5 &&& (16 : Int32)) = (0 : Int32) then if (p5 &&& (4 : Int32)) = (0 : Int32) then if (p5 &&& (2 : Int32)) = (0 : Int32) then if (p5 &&& (1 : Int32)) = (0 : Int32) then none else own_wn (none) sa else own_wn (if (p5 &&& (1 : Int32)) = (0 : Int32) then none else own_wn (none) sa) sb else own_cl (if (p5 &&& (2 : Int32)) = (0 : Int32) then if (p5 &&& (1 : Int32)) = (0 : Int32) then none else own_wn (none) sa else own_wn (if (p5 &&& (1 : Int32)) = (0 : Int32) then none else own_wn (none) sa) sb) sc else own_cl (if (p5 &&& (4 : Int32)) = (0 : Int32) then if (p5 &&& (2 : Int32)) = (0 : Int32) then if (p5 &&& (1 : Int32)) = (0 : Int32) then none else own_wn (none) sa else own_wn (if (p5 &&& (1 : Int32)) = (0 : Int32) then none else own_wn (none) sa) sb else own_cl (if (p5 &&& (2 : Int32)) = (0 : Int32) then if (p5 &&& (1 : Int32)) = (0 : Int32) then none else own_wn (none) sa else own_wn (if (p5 &&& (1 : Int32)) = (0 : Int32) then none else own_wn (none) sa) sb) sc) se) sa))])) _
    refine XS.iload X9.here hx rfl (hb hby at_175) rfl ?_
    show Steps p.tables e below (T9.setTop (mkF m 177 #[.val (.int p0), .val (.int p1), .val (.int p2), .val (.int p3), .val (.int p4), .val (.int p5), .val (.int sa), .val (.int sb), .val (.int sc), .val (.int sd), .val (.int se), .val (.int cap), .val (.ref ck), .val (.int (own_isn (if (p5 &&& (16 : Int32)) = (0 : Int32) then if (p5 &&& (4 : Int32)) = (0 : Int32) then if (p5 &&& (2 : Int32)) = (0 : Int32) then if (p5 &&& (1 : Int32)) = (0 : Int32) then none else own_wn (none) sa else own_wn (if (p5 &&& (1 : Int32)) = (0 : Int32) then none else own_wn (none) sa) sb else own_cl (if (p5 &&& (2 : Int32)) = (0 : Int32) then if (p5 &&& (1 : Int32)) = (0 : Int32) then none else own_wn (none) sa else own_wn (if (p5 &&& (1 : Int32)) = (0 : Int32) then none else own_wn (none) sa) sb) sc else own_cl (if (p5 &&& (4 : Int32)) = (0 : Int32) then if (p5 &&& (2 : Int32)) = (0 : Int32) then if (p5 &&& (1 : Int32)) = (0 : Int32) then none else own_wn (none) sa else own_wn (if (p5 &&& (1 : Int32)) = (0 : Int32) then none else own_wn (none) sa) sb else own_cl (if (p5 &&& (2 : Int32)) = (0 : Int32) then if (p5 &&& (1 : Int32)) = (0 : Int32) then none else own_wn (none) sa else own_wn (if (p5 &&& (1 : Int32)) = (0 : Int32) then none else own_wn (none) sa) sb) sc) se) sd)), .val (.int (own_isn (if (p5 &&& (16 : Int32)) = (0 : Int32) then if (p5 &&& (4 : Int32)) = (0 : Int32) then if (p5 &&& (2 : Int32)) = (0 : Int32) then if (p5 &&& (1 : Int32)) = (0 : Int32) then none else own_wn (none) sa else own_wn (if (p5 &&& (1 : Int32)) = (0 : Int32) then none else own_wn (none) sa) sb else own_cl (if (p5 &&& (2 : Int32)) = (0 : Int32) then if (p5 &&& (1 : Int32)) = (0 : Int32) then none else own_wn (none) sa else own_wn (if (p5 &&& (1 : Int32)) = (0 : Int32) then none else own_wn (none) sa) sb) sc else own_cl (if (p5 &&& (4 : Int32)) = (0 : Int32) then if (p5 &&& (2 : Int32)) = (0 : Int32) then if (p5 &&& (1 : Int32)) = (0 : Int32) then none else own_wn (none) sa else own_wn (if (p5 &&& (1 : Int32)) = (0 : Int32) then none else own_wn (none) sa) sb else own_cl (if (p5 &&& (2 : Int32)) = (0 : Int32) then if (p5 &&& (1 : Int32)) = (0 : Int32) then none else own_wn (none) sa else own_wn (if (p5 &&& (1 : Int32)) = (0 : Int32) then none else own_wn (none) sa) sb) sc) se) sa))] [(.int se), (.int sc), (.int sb), (.int sa), (.int sa), (.int (own_isn (if (p5 &&& (16 : Int32)) = (0 : Int32) then if (p5 &&& (4 : Int32)) = (0 : Int32) then if (p5 &&& (2 : Int32)) = (0 : Int32) then if (p5 &&& (1 : Int32)) = (0 : Int32) then none else own_wn (none) sa else own_wn (if (p5 &&& (1 : Int32)) = (0 : Int32) then none else own_wn (none) sa) sb else own_cl (if (p5 &&& (2 : Int32)) = (0 : Int32) then if (p5 &&& (1 : Int32)) = (0 : Int32) then none else own_wn (none) sa else own_wn (if (p5 &&& (1 : Int32)) = (0 : Int32) then none else own_wn (none) sa) sb) sc else own_cl (if (p5 &&& (4 : Int32)) = (0 : Int32) then if (p5 &&& (2 : Int32)) = (0 : Int32) then if (p5 &&& (1 : Int32)) = (0 : Int32) then none else own_wn (none) sa else own_wn (if (p5 &&& (1 : Int32)) = (0 : Int32) then none else own_wn (none) sa) sb else own_cl (if (p5 &&& (2 : Int32)) = (0 : Int32) then if (p5 &&& (1 : Int32)) = (0 : Int32) then none else own_wn (none) sa else own_wn (if (p5 &&& (1 : Int32)) = (0 : Int32) then none else own_wn (none) sa) sb) sc) se) sa))])) _
    refine XS.iload X9.here hx rfl (hb hby at_177) rfl ?_
    show Steps p.tables e below (T9.setTop (mkF m 179 #[.val (.int p0), .val (.int p1), .val (.int p2), .val (.int p3), .val (.int p4), .val (.int p5), .val (.int sa), .val (.int sb), .val (.int sc), .val (.int sd), .val (.int se), .val (.int cap), .val (.ref ck), .val (.int (own_isn (if (p5 &&& (16 : Int32)) = (0 : Int32) then if (p5 &&& (4 : Int32)) = (0 : Int32) then if (p5 &&& (2 : Int32)) = (0 : Int32) then if (p5 &&& (1 : Int32)) = (0 : Int32) then none else own_wn (none) sa else own_wn (if (p5 &&& (1 : Int32)) = (0 : Int32) then none else own_wn (none) sa) sb else own_cl (if (p5 &&& (2 : Int32)) = (0 : Int32) then if (p5 &&& (1 : Int32)) = (0 : Int32) then none else own_wn (none) sa else own_wn (if (p5 &&& (1 : Int32)) = (0 : Int32) then none else own_wn (none) sa) sb) sc else own_cl (if (p5 &&& (4 : Int32)) = (0 : Int32) then if (p5 &&& (2 : Int32)) = (0 : Int32) then if (p5 &&& (1 : Int32)) = (0 : Int32) then none else own_wn (none) sa else own_wn (if (p5 &&& (1 : Int32)) = (0 : Int32) then none else own_wn (none) sa) sb else own_cl (if (p5 &&& (2 : Int32)) = (0 : Int32) then if (p5 &&& (1 : Int32)) = (0 : Int32) then none else own_wn (none) sa else own_wn (if (p5 &&& (1 : Int32)) = (0 : Int32) then none else own_wn (none) sa) sb) sc) se) sd)), .val (.int (own_isn (if (p5 &&& (16 : Int32)) = (0 : Int32) then if (p5 &&& (4 : Int32)) = (0 : Int32) then if (p5 &&& (2 : Int32)) = (0 : Int32) then if (p5 &&& (1 : Int32)) = (0 : Int32) then none else own_wn (none) sa else own_wn (if (p5 &&& (1 : Int32)) = (0 : Int32) then none else own_wn (none) sa) sb else own_cl (if (p5 &&& (2 : Int32)) = (0 : Int32) then if (p5 &&& (1 : Int32)) = (0 : Int32) then none else own_wn (none) sa else own_wn (if (p5 &&& (1 : Int32)) = (0 : Int32) then none else own_wn (none) sa) sb) sc else own_cl (if (p5 &&& (4 : Int32)) = (0 : Int32) then if (p5 &&& (2 : Int32)) = (0 : Int32) then if (p5 &&& (1 : Int32)) = (0 : Int32) then none else own_wn (none) sa else own_wn (if (p5 &&& (1 : Int32)) = (0 : Int32) then none else own_wn (none) sa) sb else own_cl (if (p5 &&& (2 : Int32)) = (0 : Int32) then if (p5 &&& (1 : Int32)) = (0 : Int32) then none else own_wn (none) sa else own_wn (if (p5 &&& (1 : Int32)) = (0 : Int32) then none else own_wn (none) sa) sb) sc) se) sa))] [(.int p5), (.int se), (.int sc), (.int sb), (.int sa), (.int sa), (.int (own_isn (if (p5 &&& (16 : Int32)) = (0 : Int32) then if (p5 &&& (4 : Int32)) = (0 : Int32) then if (p5 &&& (2 : Int32)) = (0 : Int32) then if (p5 &&& (1 : Int32)) = (0 : Int32) then none else own_wn (none) sa else own_wn (if (p5 &&& (1 : Int32)) = (0 : Int32) then none else own_wn (none) sa) sb else own_cl (if (p5 &&& (2 : Int32)) = (0 : Int32) then if (p5 &&& (1 : Int32)) = (0 : Int32) then none else own_wn (none) sa else own_wn (if (p5 &&& (1 : Int32)) = (0 : Int32) then none else own_wn (none) sa) sb) sc else own_cl (if (p5 &&& (4 : Int32)) = (0 : Int32) then if (p5 &&& (2 : Int32)) = (0 : Int32) then if (p5 &&& (1 : Int32)) = (0 : Int32) then none else own_wn (none) sa else own_wn (if (p5 &&& (1 : Int32)) = (0 : Int32) then none else own_wn (none) sa) sb else own_cl (if (p5 &&& (2 : Int32)) = (0 : Int32) then if (p5 &&& (1 : Int32)) = (0 : Int32) then none else own_wn (none) sa else own_wn (if (p5 &&& (1 : Int32)) = (0 : Int32) then none else own_wn (none) sa) sb) sc) se) sa))])) _
    refine st10 _ ?_
    show Steps p.tables e below (T10.setTop (mkF m 182 #[.val (.int p0), .val (.int p1), .val (.int p2), .val (.int p3), .val (.int p4), .val (.int p5), .val (.int sa), .val (.int sb), .val (.int sc), .val (.int sd), .val (.int se), .val (.int cap), .val (.ref ck), .val (.int (own_isn (if (p5 &&& (16 : Int32)) = (0 : Int32) then if (p5 &&& (4 : Int32)) = (0 : Int32) then if (p5 &&& (2 : Int32)) = (0 : Int32) then if (p5 &&& (1 : Int32)) = (0 : Int32) then none else own_wn (none) sa else own_wn (if (p5 &&& (1 : Int32)) = (0 : Int32) then none else own_wn (none) sa) sb else own_cl (if (p5 &&& (2 : Int32)) = (0 : Int32) then if (p5 &&& (1 : Int32)) = (0 : Int32) then none else own_wn (none) sa else own_wn (if (p5 &&& (1 : Int32)) = (0 : Int32) then none else own_wn (none) sa) sb) sc else own_cl (if (p5 &&& (4 : Int32)) = (0 : Int32) then if (p5 &&& (2 : Int32)) = (0 : Int32) then if (p5 &&& (1 : Int32)) = (0 : Int32) then none else own_wn (none) sa else own_wn (if (p5 &&& (1 : Int32)) = (0 : Int32) then none else own_wn (none) sa) sb else own_cl (if (p5 &&& (2 : Int32)) = (0 : Int32) then if (p5 &&& (1 : Int32)) = (0 : Int32) then none else own_wn (none) sa else own_wn (if (p5 &&& (1 : Int32)) = (0 : Int32) then none else own_wn (none) sa) sb) sc) se) sd)), .val (.int (own_isn (if (p5 &&& (16 : Int32)) = (0 : Int32) then if (p5 &&& (4 : Int32)) = (0 : Int32) then if (p5 &&& (2 : Int32)) = (0 : Int32) then if (p5 &&& (1 : Int32)) = (0 : Int32) then none else own_wn (none) sa else own_wn (if (p5 &&& (1 : Int32)) = (0 : Int32) then none else own_wn (none) sa) sb else own_cl (if (p5 &&& (2 : Int32)) = (0 : Int32) then if (p5 &&& (1 : Int32)) = (0 : Int32) then none else own_wn (none) sa else own_wn (if (p5 &&& (1 : Int32)) = (0 : Int32) then none else own_wn (none) sa) sb) sc else own_cl (if (p5 &&& (4 : Int32)) = (0 : Int32) then if (p5 &&& (2 : Int32)) = (0 : Int32) then if (p5 &&& (1 : Int32)) = (0 : Int32) then none else own_wn (none) sa else own_wn (if (p5 &&& (1 : Int32)) = (0 : Int32) then none else own_wn (none) sa) sb else own_cl (if (p5 &&& (2 : Int32)) = (0 : Int32) then if (p5 &&& (1 : Int32)) = (0 : Int32) then none else own_wn (none) sa else own_wn (if (p5 &&& (1 : Int32)) = (0 : Int32) then none else own_wn (none) sa) sb) sc) se) sa))] [(.int (own_exp sa sa sb sc se p5)), (.int (own_isn (if (p5 &&& (16 : Int32)) = (0 : Int32) then if (p5 &&& (4 : Int32)) = (0 : Int32) then if (p5 &&& (2 : Int32)) = (0 : Int32) then if (p5 &&& (1 : Int32)) = (0 : Int32) then none else own_wn (none) sa else own_wn (if (p5 &&& (1 : Int32)) = (0 : Int32) then none else own_wn (none) sa) sb else own_cl (if (p5 &&& (2 : Int32)) = (0 : Int32) then if (p5 &&& (1 : Int32)) = (0 : Int32) then none else own_wn (none) sa else own_wn (if (p5 &&& (1 : Int32)) = (0 : Int32) then none else own_wn (none) sa) sb) sc else own_cl (if (p5 &&& (4 : Int32)) = (0 : Int32) then if (p5 &&& (2 : Int32)) = (0 : Int32) then if (p5 &&& (1 : Int32)) = (0 : Int32) then none else own_wn (none) sa else own_wn (if (p5 &&& (1 : Int32)) = (0 : Int32) then none else own_wn (none) sa) sb else own_cl (if (p5 &&& (2 : Int32)) = (0 : Int32) then if (p5 &&& (1 : Int32)) = (0 : Int32) then none else own_wn (none) sa else own_wn (if (p5 &&& (1 : Int32)) = (0 : Int32) then none else own_wn (none) sa) sb) sc) se) sa))])) _
    refine XS.icmpNo X10.here hx rfl (hb hby at_182) rfl (teq (own_fin p5 sa sa sb sc se hsa hsa hsb hsc hse : (own_isn (if (p5 &&& (16 : Int32)) = (0 : Int32) then if (p5 &&& (4 : Int32)) = (0 : Int32) then if (p5 &&& (2 : Int32)) = (0 : Int32) then if (p5 &&& (1 : Int32)) = (0 : Int32) then none else own_wn (none) sa else own_wn (if (p5 &&& (1 : Int32)) = (0 : Int32) then none else own_wn (none) sa) sb else own_cl (if (p5 &&& (2 : Int32)) = (0 : Int32) then if (p5 &&& (1 : Int32)) = (0 : Int32) then none else own_wn (none) sa else own_wn (if (p5 &&& (1 : Int32)) = (0 : Int32) then none else own_wn (none) sa) sb) sc else own_cl (if (p5 &&& (4 : Int32)) = (0 : Int32) then if (p5 &&& (2 : Int32)) = (0 : Int32) then if (p5 &&& (1 : Int32)) = (0 : Int32) then none else own_wn (none) sa else own_wn (if (p5 &&& (1 : Int32)) = (0 : Int32) then none else own_wn (none) sa) sb else own_cl (if (p5 &&& (2 : Int32)) = (0 : Int32) then if (p5 &&& (1 : Int32)) = (0 : Int32) then none else own_wn (none) sa else own_wn (if (p5 &&& (1 : Int32)) = (0 : Int32) then none else own_wn (none) sa) sb) sc) se) sa) = (own_exp sa sa sb sc se p5))).2 ?_
    show Steps p.tables e below (T10.setTop (mkF m 185 #[.val (.int p0), .val (.int p1), .val (.int p2), .val (.int p3), .val (.int p4), .val (.int p5), .val (.int sa), .val (.int sb), .val (.int sc), .val (.int sd), .val (.int se), .val (.int cap), .val (.ref ck), .val (.int (own_isn (if (p5 &&& (16 : Int32)) = (0 : Int32) then if (p5 &&& (4 : Int32)) = (0 : Int32) then if (p5 &&& (2 : Int32)) = (0 : Int32) then if (p5 &&& (1 : Int32)) = (0 : Int32) then none else own_wn (none) sa else own_wn (if (p5 &&& (1 : Int32)) = (0 : Int32) then none else own_wn (none) sa) sb else own_cl (if (p5 &&& (2 : Int32)) = (0 : Int32) then if (p5 &&& (1 : Int32)) = (0 : Int32) then none else own_wn (none) sa else own_wn (if (p5 &&& (1 : Int32)) = (0 : Int32) then none else own_wn (none) sa) sb) sc else own_cl (if (p5 &&& (4 : Int32)) = (0 : Int32) then if (p5 &&& (2 : Int32)) = (0 : Int32) then if (p5 &&& (1 : Int32)) = (0 : Int32) then none else own_wn (none) sa else own_wn (if (p5 &&& (1 : Int32)) = (0 : Int32) then none else own_wn (none) sa) sb else own_cl (if (p5 &&& (2 : Int32)) = (0 : Int32) then if (p5 &&& (1 : Int32)) = (0 : Int32) then none else own_wn (none) sa else own_wn (if (p5 &&& (1 : Int32)) = (0 : Int32) then none else own_wn (none) sa) sb) sc) se) sd)), .val (.int (own_isn (if (p5 &&& (16 : Int32)) = (0 : Int32) then if (p5 &&& (4 : Int32)) = (0 : Int32) then if (p5 &&& (2 : Int32)) = (0 : Int32) then if (p5 &&& (1 : Int32)) = (0 : Int32) then none else own_wn (none) sa else own_wn (if (p5 &&& (1 : Int32)) = (0 : Int32) then none else own_wn (none) sa) sb else own_cl (if (p5 &&& (2 : Int32)) = (0 : Int32) then if (p5 &&& (1 : Int32)) = (0 : Int32) then none else own_wn (none) sa else own_wn (if (p5 &&& (1 : Int32)) = (0 : Int32) then none else own_wn (none) sa) sb) sc else own_cl (if (p5 &&& (4 : Int32)) = (0 : Int32) then if (p5 &&& (2 : Int32)) = (0 : Int32) then if (p5 &&& (1 : Int32)) = (0 : Int32) then none else own_wn (none) sa else own_wn (if (p5 &&& (1 : Int32)) = (0 : Int32) then none else own_wn (none) sa) sb else own_cl (if (p5 &&& (2 : Int32)) = (0 : Int32) then if (p5 &&& (1 : Int32)) = (0 : Int32) then none else own_wn (none) sa else own_wn (if (p5 &&& (1 : Int32)) = (0 : Int32) then none else own_wn (none) sa) sb) sc) se) sa))] [])) _
    refine XS.iconst X10.here hx rfl (hb hby at_185) ?_
    show Steps p.tables e below (T10.setTop (mkF m 186 #[.val (.int p0), .val (.int p1), .val (.int p2), .val (.int p3), .val (.int p4), .val (.int p5), .val (.int sa), .val (.int sb), .val (.int sc), .val (.int sd), .val (.int se), .val (.int cap), .val (.ref ck), .val (.int (own_isn (if (p5 &&& (16 : Int32)) = (0 : Int32) then if (p5 &&& (4 : Int32)) = (0 : Int32) then if (p5 &&& (2 : Int32)) = (0 : Int32) then if (p5 &&& (1 : Int32)) = (0 : Int32) then none else own_wn (none) sa else own_wn (if (p5 &&& (1 : Int32)) = (0 : Int32) then none else own_wn (none) sa) sb else own_cl (if (p5 &&& (2 : Int32)) = (0 : Int32) then if (p5 &&& (1 : Int32)) = (0 : Int32) then none else own_wn (none) sa else own_wn (if (p5 &&& (1 : Int32)) = (0 : Int32) then none else own_wn (none) sa) sb) sc else own_cl (if (p5 &&& (4 : Int32)) = (0 : Int32) then if (p5 &&& (2 : Int32)) = (0 : Int32) then if (p5 &&& (1 : Int32)) = (0 : Int32) then none else own_wn (none) sa else own_wn (if (p5 &&& (1 : Int32)) = (0 : Int32) then none else own_wn (none) sa) sb else own_cl (if (p5 &&& (2 : Int32)) = (0 : Int32) then if (p5 &&& (1 : Int32)) = (0 : Int32) then none else own_wn (none) sa else own_wn (if (p5 &&& (1 : Int32)) = (0 : Int32) then none else own_wn (none) sa) sb) sc) se) sd)), .val (.int (own_isn (if (p5 &&& (16 : Int32)) = (0 : Int32) then if (p5 &&& (4 : Int32)) = (0 : Int32) then if (p5 &&& (2 : Int32)) = (0 : Int32) then if (p5 &&& (1 : Int32)) = (0 : Int32) then none else own_wn (none) sa else own_wn (if (p5 &&& (1 : Int32)) = (0 : Int32) then none else own_wn (none) sa) sb else own_cl (if (p5 &&& (2 : Int32)) = (0 : Int32) then if (p5 &&& (1 : Int32)) = (0 : Int32) then none else own_wn (none) sa else own_wn (if (p5 &&& (1 : Int32)) = (0 : Int32) then none else own_wn (none) sa) sb) sc else own_cl (if (p5 &&& (4 : Int32)) = (0 : Int32) then if (p5 &&& (2 : Int32)) = (0 : Int32) then if (p5 &&& (1 : Int32)) = (0 : Int32) then none else own_wn (none) sa else own_wn (if (p5 &&& (1 : Int32)) = (0 : Int32) then none else own_wn (none) sa) sb else own_cl (if (p5 &&& (2 : Int32)) = (0 : Int32) then if (p5 &&& (1 : Int32)) = (0 : Int32) then none else own_wn (none) sa else own_wn (if (p5 &&& (1 : Int32)) = (0 : Int32) then none else own_wn (none) sa) sb) sc) se) sa))] [(.int (1 : Int32))])) _
    refine XS.goto X10.here hx rfl (pc0 := 186) (pc' := 190) rfl (hb hby at_186) (by decide) (by decide) ?_
    show Steps p.tables e below (T10.setTop (mkF m 190 #[.val (.int p0), .val (.int p1), .val (.int p2), .val (.int p3), .val (.int p4), .val (.int p5), .val (.int sa), .val (.int sb), .val (.int sc), .val (.int sd), .val (.int se), .val (.int cap), .val (.ref ck), .val (.int (own_isn (if (p5 &&& (16 : Int32)) = (0 : Int32) then if (p5 &&& (4 : Int32)) = (0 : Int32) then if (p5 &&& (2 : Int32)) = (0 : Int32) then if (p5 &&& (1 : Int32)) = (0 : Int32) then none else own_wn (none) sa else own_wn (if (p5 &&& (1 : Int32)) = (0 : Int32) then none else own_wn (none) sa) sb else own_cl (if (p5 &&& (2 : Int32)) = (0 : Int32) then if (p5 &&& (1 : Int32)) = (0 : Int32) then none else own_wn (none) sa else own_wn (if (p5 &&& (1 : Int32)) = (0 : Int32) then none else own_wn (none) sa) sb) sc else own_cl (if (p5 &&& (4 : Int32)) = (0 : Int32) then if (p5 &&& (2 : Int32)) = (0 : Int32) then if (p5 &&& (1 : Int32)) = (0 : Int32) then none else own_wn (none) sa else own_wn (if (p5 &&& (1 : Int32)) = (0 : Int32) then none else own_wn (none) sa) sb else own_cl (if (p5 &&& (2 : Int32)) = (0 : Int32) then if (p5 &&& (1 : Int32)) = (0 : Int32) then none else own_wn (none) sa else own_wn (if (p5 &&& (1 : Int32)) = (0 : Int32) then none else own_wn (none) sa) sb) sc) se) sd)), .val (.int (own_isn (if (p5 &&& (16 : Int32)) = (0 : Int32) then if (p5 &&& (4 : Int32)) = (0 : Int32) then if (p5 &&& (2 : Int32)) = (0 : Int32) then if (p5 &&& (1 : Int32)) = (0 : Int32) then none else own_wn (none) sa else own_wn (if (p5 &&& (1 : Int32)) = (0 : Int32) then none else own_wn (none) sa) sb else own_cl (if (p5 &&& (2 : Int32)) = (0 : Int32) then if (p5 &&& (1 : Int32)) = (0 : Int32) then none else own_wn (none) sa else own_wn (if (p5 &&& (1 : Int32)) = (0 : Int32) then none else own_wn (none) sa) sb) sc else own_cl (if (p5 &&& (4 : Int32)) = (0 : Int32) then if (p5 &&& (2 : Int32)) = (0 : Int32) then if (p5 &&& (1 : Int32)) = (0 : Int32) then none else own_wn (none) sa else own_wn (if (p5 &&& (1 : Int32)) = (0 : Int32) then none else own_wn (none) sa) sb else own_cl (if (p5 &&& (2 : Int32)) = (0 : Int32) then if (p5 &&& (1 : Int32)) = (0 : Int32) then none else own_wn (none) sa else own_wn (if (p5 &&& (1 : Int32)) = (0 : Int32) then none else own_wn (none) sa) sb) sc) se) sa))] [(.int (1 : Int32))])) _
    exact retN X10 hx (t := .boolean) Bd.returns (by simp) (hb hby at_190) hr
  · show Qrm0 Z p0 p1 p2 p3 p4 p5 h0 n0 _ T10.heap _
    rw [eh10]
    exact ⟨rfl, N10⟩
set_option maxRecDepth 65536 in
set_option maxHeartbeats 40000000 in
theorem comes_1 {Post : Tables → Env → Array Value → State → Outcome → State → Prop} (hpost : ∀ tb e args s v u, (limb_1_1.after args s (.returned v) u = true ∧ limb_1_2.after args s (.returned v) u = true ∧ True) → FrameEnd s (.returned v) u (Jvm.fieldLocs frame_1_writes args s ++ Jvm.arrayLocs frame_1_arrays args s ++ Jvm.staticLocs frame_1_statics s) 16 640 → Post tb e args s (.returned v) u) :
    ArmFor flags0 classFile x code maxLocals ret World_1 tables_1 room_1 Calls_1 rest_1 Pre_1 Post := by
  intro l hfl _ _ p e ha hc hk s m args below hf hA hF happ hP
  obtain ⟨hcalls, hrest, hpre⟩ := hP
  obtain ⟨-, -, -, hnamed, -, -, -, hat⟩ := (Spec.applies_iff hf).mp happ
  obtain ⟨hg, hn⟩ := and_e (Cond.before_iff.mp (show (Jvm.Cond.and given_1 narrow_1).before args s = true from hpre))
  obtain ⟨g1, g2⟩ := and_e hg
  obtain ⟨g3, g4⟩ := and_e g2
  obtain ⟨g5, g6⟩ := and_e g4
  obtain ⟨g7, g8⟩ := and_e g6
  obtain ⟨g9, g10⟩ := and_e g8
  obtain ⟨g11, g12⟩ := and_e g10
  obtain ⟨w0, w1, w2, w3, w4, w5, rfl⟩ : ∃ w0 w1 w2 w3 w4 w5 : Value, args = #[w0, w1, w2, w3, w4, w5] := by
    have hs : args.size = 6 := by simpa [Cond.value, given_1] using g1
    obtain ⟨L⟩ := args
    match L, hs with
    | [w0, w1, w2, w3, w4, w5], _ => exact ⟨w0, w1, w2, w3, w4, w5, rfl⟩
  have hw := fun d (hd : d ∈ tables_1) => atoms_spec (ws := Jvm.Cond.code x code maxLocals ret :: tables_1) hat d (List.mem_cons_of_mem _ hd)
  obtain ⟨i0, ei0⟩ := is_v g3
  obtain rfl : w0 = (.int i0) := Option.some.inj ei0
  obtain ⟨i1, ei1⟩ := is_v g5
  obtain rfl : w1 = (.int i1) := Option.some.inj ei1
  obtain ⟨i2, ei2⟩ := is_v g7
  obtain rfl : w2 = (.int i2) := Option.some.inj ei2
  obtain ⟨i3, ei3⟩ := is_v g9
  obtain rfl : w3 = (.int i3) := Option.some.inj ei3
  obtain ⟨i4, ei4⟩ := is_v g11
  obtain rfl : w4 = (.int i4) := Option.some.inj ei4
  obtain ⟨i5, ei5⟩ := is_v g12
  obtain rfl : w5 = (.int i5) := Option.some.inj ei5
  obtain ⟨n, o, h1, h2, h3, _, L, rfl, ⟨rfl, N⟩, hq⟩ := rm0 l s _ hw tables_1 i0 i1 i2 i3 i4 i5  s.heap s.heap.size (Nat.le_refl _) p e ha hc hk s m _ below hf ((Spec.applies_iff_loose hf).mp happ).1 ⟨rfl, State.Warmed39.refl s, rfl⟩ trivial
  refine ⟨n, _, h1, h2, h3, hpost _ _ _ _ _ _ ⟨Cond.after_iff.mpr rfl, Cond.after_iff.mpr (eq_i res_at (Term.int_eval (1)) rfl), trivial⟩ ⟨hq.1, hq.2.1, (hq.2.2.sift fun y hy => Or.inr (N y hy)).mono (by decide) (by decide)⟩⟩
theorem main_1_1 : Claimed_1_1 := comes_1 fun _ _ _ _ _ _ h hF => ⟨h.1, hF⟩
theorem main_1_2 : Claimed_1_2 := comes_1 fun _ _ _ _ _ _ h hF => ⟨h.2.1, hF⟩
end Jvm.Pilot.@@N@@
namespace Jvm.Pilot.@@N@@
open Jvm Jvm.ClassFile Sem Op Lib Jvm.Free Jvm.Stand Jvm.Pilot.@@N@@.Jvm.D
/-! MADE BY PROGRAM (witnessworld.py) out of the Statement's table words and the real class files: 20 classes; the members and pool entries that the words name. The judged class is class 1, her method 2. -/
namespace start1
open Jvm.ClassFile
def u (s : String) : CpInfo := .utf8 (stringToUtf16 s)
/-- a pool by its gaps: so many unusable entries, then the entry; so many at the end -/
def gap : Nat → List CpInfo → List CpInfo
  | 0, r => r
  | n + 1, r => .unusable :: gap n r
def poolList (es : List (Nat × CpInfo)) (last : Nat) : List CpInfo := es.foldr (fun e r => gap e.1 (e.2 :: r)) (gap last [])
def pool (es : List (Nat × CpInfo)) (last : Nat) : Array CpInfo := ⟨poolList es last⟩
def fileOf (pool : Array CpInfo) (this : Nat) (attrs : Array Attribute := #[]) (ms : Array MethodInfo := #[]) (fl : Nat := 33) (sup : Nat := 0) (ifs : Array Nat := #[]) (fds : Array FieldInfo := #[]) : ClassFile where
  minorVersion := 0
  majorVersion := 65
  constantPool := pool
  accessFlags := fl
  thisClass := this
  superClass := sup
  interfaces := ifs
  fields := fds
  methods := ms
  attributes := attrs
def plain (name : String) (sup : Option ClassId) : Class where
  name := name
  kind := .ordinary
  loader := none
  accessFlags := 33
  super := sup
  interfaces := #[]
  cf := none
  fields := #[]
  methods := #[]
  instanceTypes := #[]
  staticTypes := #[]
  resolved := #[]
  callSites := []
  init := .initialized
  statics := none
  mirror := none

def pool0 : Array CpInfo := pool [(5, u "<init>"), (0, u "()V"), (1, .class_ 10), (1, u "java/lang/Object")] 113

def k0c0 : Code := { maxStack := 0, maxLocals := 1, code := object_method_1_code, exceptionTable := #[], attributes := #[] }
def k0m0 : Method := { name := "<init>", desc := "()V", sig := { parameters := [], returnType := none }, accessFlags := 1, code := some k0c0 }
/-- java/lang/Object -/
def k0 : Class := { plain "java/lang/Object" none with
  accessFlags := 33
  interfaces := #[]
  cf := some (fileOf pool0 8 #[] #[{ accessFlags := 1, nameIndex := 5, descriptorIndex := 6, attributes := #[] }] 33 0 #[] #[])
  fields := #[]
  methods := #[k0m0]
  instanceTypes := #[]
  staticTypes := #[]
  resolved := Array.replicate 124 none
  statics := none }

def pool1 : Array CpInfo := pool [(2, .class_ 4), (1, u "java/lang/Object"), (0, u "<init>"), (0, u "()V"), (0, .class_ 8), (0, u "com/example/wadjet/wadjet/storage/IntegerChunk"), (0, .methodref 7 10), (0, .nameAndType 5 11), (0, u "(I)V"), (0, .methodref 7 13), (0, .nameAndType 14 11), (0, u "writeNull"), (0, .methodref 7 16), (0, .nameAndType 17 18), (0, u "writeInteger"), (0, u "(IJ)V"), (0, .methodref 7 20), (0, .nameAndType 21 11), (0, u "clear"), (0, .methodref 7 23), (0, .nameAndType 24 25), (0, u "isNull"), (0, u "(I)Z"), (0, .methodref 27 28), (0, .class_ 29), (0, .nameAndType 30 31), (0, u "com/example/wadjet/wadjet/storage/IntegerChunkIsNullPinLaw"), (0, u "expected"), (0, u "(IIIIII)Z"), (3, u "law")] 2

def k1m0 : Method := { name := "<init>", desc := "()V", sig := { parameters := [], returnType := none }, accessFlags := 2, code := none }
def k1c1 : Code := { maxStack := 2, maxLocals := 7, code := method_2_code, exceptionTable := #[], attributes := #[] }
def k1m1 : Method := { name := "expected", desc := "(IIIIII)Z", sig := { parameters := [.int, .int, .int, .int, .int, .int], returnType := some .boolean }, accessFlags := 10, code := some k1c1 }
def k1c2 : Code := { maxStack := 7, maxLocals := 15, code := code, exceptionTable := #[], attributes := #[] }
def k1m2 : Method := { name := "law", desc := "(IIIIII)Z", sig := { parameters := [.int, .int, .int, .int, .int, .int], returnType := some .boolean }, accessFlags := 9, code := some k1c2 }
/-- com/example/wadjet/wadjet/storage/IntegerChunkIsNullPinLaw -/
def k1 : Class := { plain "com/example/wadjet/wadjet/storage/IntegerChunkIsNullPinLaw" (some 0) with
  accessFlags := 49
  interfaces := #[]
  cf := some (fileOf pool1 27 #[] #[{ accessFlags := 2, nameIndex := 5, descriptorIndex := 6, attributes := #[] }, { accessFlags := 10, nameIndex := 30, descriptorIndex := 31, attributes := #[] }, { accessFlags := 9, nameIndex := 35, descriptorIndex := 31, attributes := #[] }] 49 2 #[] #[])
  fields := #[]
  methods := #[k1m0, k1m1, k1m2]
  instanceTypes := #[]
  staticTypes := #[]
  resolved := Array.replicate 38 none
  statics := none }

def pool2 : Array CpInfo := pool [(1, .methodref 2 3), (0, .class_ 4), (0, .nameAndType 5 6), (0, u "java/lang/Object"), (0, u "<init>"), (0, u "()V"), (2, .class_ 10), (0, u "com/example/wadjet/wadjet/storage/ColumnChunk"), (29, .class_ 41), (0, u "java/lang/Integer"), (7, .methodref 40 50), (0, .nameAndType 51 52), (0, u "highestOneBit"), (0, u "(I)I"), (0, .methodref 54 55), (0, .class_ 56), (0, .nameAndType 57 58), (0, u "java/lang/Math"), (0, u "max"), (0, u "(II)I"), (0, .methodref 54 60), (0, .nameAndType 61 58), (0, u "min"), (0, u "FIRST_CAPACITY"), (0, u "I"), (9, u "grownCapacity")] 22

def k2c0 : Code := { maxStack := 1, maxLocals := 1, code := prog_251_method_1_code, exceptionTable := #[], attributes := #[] }
def k2m0 : Method := { name := "<init>", desc := "()V", sig := { parameters := [], returnType := none }, accessFlags := 0, code := some k2c0 }
def k2c1 : Code := { maxStack := 3, maxLocals := 2, code := prog_251_method_4_code, exceptionTable := #[], attributes := #[] }
def k2m1 : Method := { name := "grownCapacity", desc := "(II)I", sig := { parameters := [.int, .int], returnType := some .int }, accessFlags := 8, code := some k2c1 }
/-- com/example/wadjet/wadjet/storage/ColumnChunk -/
def k2 : Class := { plain "com/example/wadjet/wadjet/storage/ColumnChunk" (some 0) with
  accessFlags := 1056
  interfaces := #[]
  cf := some (fileOf pool2 9 #[] #[{ accessFlags := 0, nameIndex := 5, descriptorIndex := 6, attributes := #[] }, { accessFlags := 8, nameIndex := 73, descriptorIndex := 58, attributes := #[] }] 1056 2 #[] #[{ accessFlags := 26, nameIndex := 62, descriptorIndex := 63, attributes := #[] }])
  fields := #[{ name := "FIRST_CAPACITY", type := .int, accessFlags := 26, slot := 0, constantValue := 0 }]
  methods := #[k2m0, k2m1]
  instanceTypes := #[]
  staticTypes := #[.int]
  resolved := Array.replicate 96 none
  statics := none }

def pool3 : Array CpInfo := pool [(1, .methodref 2 3), (0, .class_ 4), (0, .nameAndType 5 6), (0, u "com/example/wadjet/wadjet/storage/ColumnChunk"), (0, u "<init>"), (0, u "()V"), (0, .fieldref 8 9), (0, .class_ 10), (0, .nameAndType 11 12), (0, u "com/example/wadjet/wadjet/storage/IntegerChunk"), (0, u "width"), (0, u "I"), (0, .fieldref 8 14), (0, .nameAndType 15 16), (0, u "narrow"), (0, u "[B"), (2, u "isNull"), (0, u "(I)Z"), (10, .fieldref 8 32), (0, .nameAndType 33 34), (0, u "nulls"), (0, u "[J"), (0, .fieldref 8 36), (0, .nameAndType 37 38), (0, u "base"), (0, u "J"), (0, .fieldref 8 40), (0, .nameAndType 41 42), (0, u "middle"), (0, u "[C"), (0, .fieldref 8 44), (0, .nameAndType 45 46), (0, u "wide"), (0, u "[I"), (7, u "writeNull"), (0, u "(I)V"), (2, u "writeInteger"), (0, u "(IJ)V"), (0, .methodref 61 62), (0, .class_ 63), (0, .nameAndType 64 65), (0, u "java/lang/Math"), (0, u "toIntExact"), (0, u "(J)I"), (0, .fieldref 8 67), (0, .nameAndType 68 69), (0, u "based"), (0, u "Z"), (0, .methodref 8 71), (0, .nameAndType 72 73), (0, u "capacity"), (0, u "()I"), (0, .methodref 8 75), (0, .nameAndType 76 77), (0, u "grownCapacity"), (0, u "(II)I"), (0, .methodref 8 79), (0, .nameAndType 80 55), (0, u "resize"), (3, .long 18446744073709551615), (15, .methodref 101 102), (0, .class_ 103), (0, .nameAndType 104 105), (0, u "java/util/Arrays"), (0, u "copyOf"), (0, u "([BI)[B"), (31, u "clear")] 6

def k3c0 : Code := { maxStack := 2, maxLocals := 2, code := prog_257_method_1_code, exceptionTable := #[], attributes := #[] }
def k3m0 : Method := { name := "<init>", desc := "(I)V", sig := { parameters := [.int], returnType := none }, accessFlags := 0, code := some k3c0 }
def k3c1 : Code := { maxStack := 5, maxLocals := 2, code := prog_257_method_3_code, exceptionTable := #[], attributes := #[] }
def k3m1 : Method := { name := "isNull", desc := "(I)Z", sig := { parameters := [.int], returnType := some .boolean }, accessFlags := 0, code := some k3c1 }
def k3c2 : Code := { maxStack := 8, maxLocals := 4, code := prog_257_method_8_code, exceptionTable := #[], attributes := #[] }
def k3m2 : Method := { name := "writeInteger", desc := "(IJ)V", sig := { parameters := [.int, .long], returnType := none }, accessFlags := 0, code := some k3c2 }
def k3c3 : Code := { maxStack := 7, maxLocals := 2, code := prog_257_method_11_code, exceptionTable := #[], attributes := #[] }
def k3m3 : Method := { name := "writeNull", desc := "(I)V", sig := { parameters := [.int], returnType := none }, accessFlags := 0, code := some k3c3 }
def k3c4 : Code := { maxStack := 8, maxLocals := 2, code := prog_257_method_12_code, exceptionTable := #[], attributes := #[] }
def k3m4 : Method := { name := "clear", desc := "(I)V", sig := { parameters := [.int], returnType := none }, accessFlags := 0, code := some k3c4 }
def k3c5 : Code := { maxStack := 2, maxLocals := 2, code := prog_257_method_13_code, exceptionTable := #[], attributes := #[] }
def k3m5 : Method := { name := "capacity", desc := "()I", sig := { parameters := [], returnType := some .int }, accessFlags := 2, code := some k3c5 }
def k3c6 : Code := { maxStack := 3, maxLocals := 2, code := prog_257_method_14_code, exceptionTable := #[], attributes := #[] }
def k3m6 : Method := { name := "resize", desc := "(I)V", sig := { parameters := [.int], returnType := none }, accessFlags := 2, code := some k3c6 }
/-- com/example/wadjet/wadjet/storage/IntegerChunk -/
def k3 : Class := { plain "com/example/wadjet/wadjet/storage/IntegerChunk" (some 2) with
  accessFlags := 48
  interfaces := #[]
  cf := some (fileOf pool3 8 #[] #[{ accessFlags := 0, nameIndex := 5, descriptorIndex := 55, attributes := #[] }, { accessFlags := 0, nameIndex := 19, descriptorIndex := 20, attributes := #[] }, { accessFlags := 0, nameIndex := 58, descriptorIndex := 59, attributes := #[] }, { accessFlags := 0, nameIndex := 54, descriptorIndex := 55, attributes := #[] }, { accessFlags := 0, nameIndex := 137, descriptorIndex := 55, attributes := #[] }, { accessFlags := 2, nameIndex := 72, descriptorIndex := 73, attributes := #[] }, { accessFlags := 2, nameIndex := 80, descriptorIndex := 55, attributes := #[] }] 48 2 #[] #[{ accessFlags := 2, nameIndex := 11, descriptorIndex := 12, attributes := #[] }, { accessFlags := 2, nameIndex := 37, descriptorIndex := 38, attributes := #[] }, { accessFlags := 2, nameIndex := 68, descriptorIndex := 69, attributes := #[] }, { accessFlags := 2, nameIndex := 15, descriptorIndex := 16, attributes := #[] }, { accessFlags := 2, nameIndex := 41, descriptorIndex := 42, attributes := #[] }, { accessFlags := 2, nameIndex := 45, descriptorIndex := 46, attributes := #[] }, { accessFlags := 2, nameIndex := 33, descriptorIndex := 34, attributes := #[] }])
  fields := #[{ name := "width", type := .int, accessFlags := 2, slot := 0, constantValue := 0 }, { name := "base", type := .long, accessFlags := 2, slot := 1, constantValue := 0 }, { name := "based", type := .boolean, accessFlags := 2, slot := 2, constantValue := 0 }, { name := "narrow", type := (.array .byte), accessFlags := 2, slot := 3, constantValue := 0 }, { name := "middle", type := (.array .char), accessFlags := 2, slot := 4, constantValue := 0 }, { name := "wide", type := (.array .int), accessFlags := 2, slot := 5, constantValue := 0 }, { name := "nulls", type := (.array .long), accessFlags := 2, slot := 6, constantValue := 0 }]
  methods := #[k3m0, k3m1, k3m2, k3m3, k3m4, k3m5, k3m6]
  instanceTypes := #[.int, .long, .boolean, (.array .byte), (.array .char), (.array .int), (.array .long)]
  staticTypes := #[]
  resolved := Array.replicate 144 none
  statics := none }

def pool4 : Array CpInfo := pool [(1, .class_ 2), (0, u "java/lang/Math"), (1, .class_ 6), (1, u "java/lang/Object"), (0, u "<init>"), (0, u "()V"), (89, .class_ 100), (1, u "java/lang/Math$RandomNumberGeneratorHolder"), (71, u "negativeZeroFloatBits"), (0, u "J"), (2, u "negativeZeroDoubleBits"), (21, u "max"), (2, u "min"), (43, u "$assertionsDisabled"), (0, u "Z"), (88, u "(II)I"), (2, u "twoToTheDoubleScaleDown"), (0, u "D"), (4, u "twoToTheDoubleScaleUp"), (9, u "E"), (3, u "PI"), (2, u "TAU"), (2, u "DEGREES_TO_RADIANS"), (0, u "RADIANS_TO_DEGREES"), (39, u "toIntExact"), (0, u "(J)I")] 53

def k4m0 : Method := { name := "<init>", desc := "()V", sig := { parameters := [], returnType := none }, accessFlags := 2, code := none }
def k4c1 : Code := { maxStack := 4, maxLocals := 2, code := jdk_29_method_43_code, exceptionTable := #[], attributes := #[] }
def k4m1 : Method := { name := "toIntExact", desc := "(J)I", sig := { parameters := [.long], returnType := some .int }, accessFlags := 9, code := some k4c1 }
def k4c2 : Code := { maxStack := 2, maxLocals := 2, code := jdk_29_method_65_code, exceptionTable := #[], attributes := #[] }
def k4m2 : Method := { name := "max", desc := "(II)I", sig := { parameters := [.int, .int], returnType := some .int }, accessFlags := 9, code := some k4c2 }
def k4c3 : Code := { maxStack := 2, maxLocals := 2, code := jdk_29_method_69_code, exceptionTable := #[], attributes := #[] }
def k4m3 : Method := { name := "min", desc := "(II)I", sig := { parameters := [.int, .int], returnType := some .int }, accessFlags := 9, code := some k4c3 }
/-- java/lang/Math -/
def k4 : Class := { plain "java/lang/Math" (some 0) with
  accessFlags := 49
  interfaces := #[]
  cf := some (fileOf pool4 1 #[.nestMembers #[98]] #[{ accessFlags := 2, nameIndex := 7, descriptorIndex := 8, attributes := #[] }, { accessFlags := 9, nameIndex := 405, descriptorIndex := 406, attributes := #[] }, { accessFlags := 9, nameIndex := 198, descriptorIndex := 335, attributes := #[] }, { accessFlags := 9, nameIndex := 201, descriptorIndex := 335, attributes := #[] }] 49 4 #[] #[{ accessFlags := 25, nameIndex := 354, descriptorIndex := 339, attributes := #[] }, { accessFlags := 25, nameIndex := 358, descriptorIndex := 339, attributes := #[] }, { accessFlags := 25, nameIndex := 361, descriptorIndex := 339, attributes := #[] }, { accessFlags := 26, nameIndex := 364, descriptorIndex := 339, attributes := #[] }, { accessFlags := 26, nameIndex := 365, descriptorIndex := 339, attributes := #[] }, { accessFlags := 26, nameIndex := 172, descriptorIndex := 173, attributes := #[] }, { accessFlags := 26, nameIndex := 176, descriptorIndex := 173, attributes := #[] }, { accessFlags := 8, nameIndex := 344, descriptorIndex := 339, attributes := #[] }, { accessFlags := 8, nameIndex := 338, descriptorIndex := 339, attributes := #[] }, { accessFlags := 4120, nameIndex := 245, descriptorIndex := 246, attributes := #[] }])
  fields := #[{ name := "E", type := .double, accessFlags := 25, slot := 0, constantValue := 0 }, { name := "PI", type := .double, accessFlags := 25, slot := 1, constantValue := 0 }, { name := "TAU", type := .double, accessFlags := 25, slot := 2, constantValue := 0 }, { name := "DEGREES_TO_RADIANS", type := .double, accessFlags := 26, slot := 3, constantValue := 0 }, { name := "RADIANS_TO_DEGREES", type := .double, accessFlags := 26, slot := 4, constantValue := 0 }, { name := "negativeZeroFloatBits", type := .long, accessFlags := 26, slot := 5, constantValue := 0 }, { name := "negativeZeroDoubleBits", type := .long, accessFlags := 26, slot := 6, constantValue := 0 }, { name := "twoToTheDoubleScaleUp", type := .double, accessFlags := 8, slot := 7, constantValue := 0 }, { name := "twoToTheDoubleScaleDown", type := .double, accessFlags := 8, slot := 8, constantValue := 0 }, { name := "$assertionsDisabled", type := .boolean, accessFlags := 4120, slot := 9, constantValue := 0 }]
  methods := #[k4m0, k4m1, k4m2, k4m3]
  instanceTypes := #[]
  staticTypes := #[.double, .double, .double, .double, .double, .long, .long, .double, .double, .boolean]
  resolved := Array.replicate 460 none
  statics := none }

def pool5 : Array CpInfo := pool [(1, .class_ 2), (0, u "java/io/Serializable"), (0, .class_ 4), (0, u "java/lang/Object")] 2

/-- java/io/Serializable -/
def k5 : Class := { plain "java/io/Serializable" (some 0) with
  accessFlags := 1537
  interfaces := #[]
  cf := some (fileOf pool5 1 #[] #[] 1537 3 #[] #[])
  fields := #[]
  methods := #[]
  instanceTypes := #[]
  staticTypes := #[]
  resolved := Array.replicate 7 none
  statics := none }

def pool6 : Array CpInfo := pool [(2, .class_ 4), (1, u "java/lang/Object"), (0, u "<init>"), (0, u "()V"), (1, .class_ 10), (1, u "java/lang/Number"), (2, .class_ 14), (0, u "java/io/Serializable"), (0, u "serialVersionUID"), (0, u "J")] 20

def k6m0 : Method := { name := "<init>", desc := "()V", sig := { parameters := [], returnType := none }, accessFlags := 1, code := none }
/-- java/lang/Number -/
def k6 : Class := { plain "java/lang/Number" (some 0) with
  accessFlags := 1057
  interfaces := #[5]
  cf := some (fileOf pool6 8 #[] #[{ accessFlags := 1, nameIndex := 5, descriptorIndex := 6, attributes := #[] }] 1057 2 #[13] #[{ accessFlags := 26, nameIndex := 15, descriptorIndex := 16, attributes := #[] }])
  fields := #[{ name := "serialVersionUID", type := .long, accessFlags := 26, slot := 0, constantValue := 0 }]
  methods := #[k6m0]
  instanceTypes := #[]
  staticTypes := #[.long]
  resolved := Array.replicate 37 none
  statics := none }

def pool7 : Array CpInfo := pool [(1, .class_ 2), (0, u "java/lang/Comparable"), (0, .class_ 4), (0, u "java/lang/Object")] 7

/-- java/lang/Comparable -/
def k7 : Class := { plain "java/lang/Comparable" (some 0) with
  accessFlags := 1537
  interfaces := #[]
  cf := some (fileOf pool7 1 #[] #[] 1537 3 #[] #[])
  fields := #[]
  methods := #[]
  instanceTypes := #[]
  staticTypes := #[]
  resolved := Array.replicate 12 none
  statics := none }

def pool8 : Array CpInfo := pool [(1, .class_ 2), (0, u "java/lang/constant/Constable"), (0, .class_ 4), (0, u "java/lang/Object")] 6

/-- java/lang/constant/Constable -/
def k8 : Class := { plain "java/lang/constant/Constable" (some 0) with
  accessFlags := 1537
  interfaces := #[]
  cf := some (fileOf pool8 1 #[] #[] 1537 3 #[] #[])
  fields := #[]
  methods := #[]
  instanceTypes := #[]
  staticTypes := #[]
  resolved := Array.replicate 11 none
  statics := none }

def pool9 : Array CpInfo := pool [(1, .class_ 2), (0, u "java/lang/constant/ConstantDesc"), (0, .class_ 4), (0, u "java/lang/Object")] 32

/-- java/lang/constant/ConstantDesc -/
def k9 : Class := { plain "java/lang/constant/ConstantDesc" (some 0) with
  accessFlags := 1537
  interfaces := #[]
  cf := some (fileOf pool9 1 #[] #[] 1537 3 #[] #[])
  fields := #[]
  methods := #[]
  instanceTypes := #[]
  staticTypes := #[]
  resolved := Array.replicate 37 none
  statics := none }

def pool10 : Array CpInfo := pool [(1, .class_ 2), (0, u "java/lang/Integer"), (16, u "digits"), (0, u "[C"), (30, .methodref 1 52), (0, .nameAndType 53 54), (0, u "numberOfLeadingZeros"), (0, u "(I)I"), (30, u "DigitOnes"), (0, u "[B"), (2, u "DigitTens"), (37, .integer 2147483648), (61, .class_ 190), (0, u "java/lang/Integer$IntegerCache"), (3, u "I"), (8, .class_ 204), (0, u "java/lang/Number"), (2, u "value"), (56, .integer 65536), (37, u "TYPE"), (0, u "Ljava/lang/Class;"), (0, .class_ 305), (0, u "java/lang/Comparable"), (0, .class_ 307), (0, u "java/lang/constant/Constable"), (0, .class_ 309), (0, u "java/lang/constant/ConstantDesc"), (0, u "MIN_VALUE"), (1, u "MAX_VALUE"), (3, u "SIZE"), (1, u "BYTES"), (1, u "serialVersionUID"), (0, u "J"), (81, u "highestOneBit")] 49

def k10c0 : Code := { maxStack := 3, maxLocals := 1, code := jdk_33_method_45_code, exceptionTable := #[], attributes := #[] }
def k10m0 : Method := { name := "highestOneBit", desc := "(I)I", sig := { parameters := [.int], returnType := some .int }, accessFlags := 9, code := some k10c0 }
def k10c1 : Code := { maxStack := 3, maxLocals := 2, code := jdk_33_method_47_code, exceptionTable := #[], attributes := #[] }
def k10m1 : Method := { name := "numberOfLeadingZeros", desc := "(I)I", sig := { parameters := [.int], returnType := some .int }, accessFlags := 9, code := some k10c1 }
/-- java/lang/Integer -/
def k10 : Class := { plain "java/lang/Integer" (some 6) with
  accessFlags := 49
  interfaces := #[7, 8, 9]
  cf := some (fileOf pool10 1 #[.nestMembers #[189]] #[{ accessFlags := 9, nameIndex := 403, descriptorIndex := 54, attributes := #[] }, { accessFlags := 9, nameIndex := 53, descriptorIndex := 54, attributes := #[] }] 49 203 #[304, 306, 308] #[{ accessFlags := 25, nameIndex := 310, descriptorIndex := 194, attributes := #[] }, { accessFlags := 25, nameIndex := 312, descriptorIndex := 194, attributes := #[] }, { accessFlags := 25, nameIndex := 302, descriptorIndex := 303, attributes := #[] }, { accessFlags := 24, nameIndex := 19, descriptorIndex := 20, attributes := #[] }, { accessFlags := 24, nameIndex := 89, descriptorIndex := 86, attributes := #[] }, { accessFlags := 24, nameIndex := 85, descriptorIndex := 86, attributes := #[] }, { accessFlags := 18, nameIndex := 207, descriptorIndex := 194, attributes := #[] }, { accessFlags := 25, nameIndex := 316, descriptorIndex := 194, attributes := #[] }, { accessFlags := 25, nameIndex := 318, descriptorIndex := 194, attributes := #[] }, { accessFlags := 26, nameIndex := 320, descriptorIndex := 321, attributes := #[] }])
  fields := #[{ name := "MIN_VALUE", type := .int, accessFlags := 25, slot := 0, constantValue := 0 }, { name := "MAX_VALUE", type := .int, accessFlags := 25, slot := 1, constantValue := 0 }, { name := "TYPE", type := (.object "java/lang/Class"), accessFlags := 25, slot := 2, constantValue := 0 }, { name := "digits", type := (.array .char), accessFlags := 24, slot := 3, constantValue := 0 }, { name := "DigitTens", type := (.array .byte), accessFlags := 24, slot := 4, constantValue := 0 }, { name := "DigitOnes", type := (.array .byte), accessFlags := 24, slot := 5, constantValue := 0 }, { name := "value", type := .int, accessFlags := 18, slot := 0, constantValue := 0 }, { name := "SIZE", type := .int, accessFlags := 25, slot := 6, constantValue := 0 }, { name := "BYTES", type := .int, accessFlags := 25, slot := 7, constantValue := 0 }, { name := "serialVersionUID", type := .long, accessFlags := 26, slot := 8, constantValue := 0 }]
  methods := #[k10m0, k10m1]
  instanceTypes := #[.int]
  staticTypes := #[.int, .int, (.object "java/lang/Class"), (.array .char), (.array .byte), (.array .byte), .int, .int, .long]
  resolved := Array.replicate 453 none
  statics := none }

def pool11 : Array CpInfo := pool [(2, .class_ 4), (1, u "java/lang/Object"), (0, u "<init>"), (0, u "()V"), (7, .class_ 16), (1, u "java/util/Arrays"), (57, .class_ 76), (1, u "java/util/Arrays$NaturalOrder"), (36, .class_ 115), (1, u "java/util/Arrays$LegacyMergeSort"), (1, u "Z"), (32, .methodref 151 152), (0, .class_ 153), (0, .nameAndType 154 155), (0, u "java/lang/System"), (0, u "arraycopy"), (0, u "(Ljava/lang/Object;ILjava/lang/Object;II)V"), (146, u "copyOf"), (1, .methodref 305 306), (0, .class_ 307), (0, .nameAndType 308 309), (0, u "java/lang/Math"), (0, u "min"), (0, u "(II)I"), (65, .class_ 376), (0, u "java/util/Arrays$ArrayList"), (68, u "$assertionsDisabled"), (269, u "MIN_ARRAY_SORT_GRAN"), (0, u "I"), (2, u "INSERTIONSORT_THRESHOLD"), (149, u "([BI)[B"), (105, .class_ 976), (0, u "java/util/Arrays$ArrayItr")] 52

def k11m0 : Method := { name := "<init>", desc := "()V", sig := { parameters := [], returnType := none }, accessFlags := 2, code := none }
def k11c1 : Code := { maxStack := 6, maxLocals := 3, code := jdk_65_method_121_code, exceptionTable := #[], attributes := #[] }
def k11m1 : Method := { name := "copyOf", desc := "([BI)[B", sig := { parameters := [(.array .byte), .int], returnType := some (.array .byte) }, accessFlags := 9, code := some k11c1 }
/-- java/util/Arrays -/
def k11 : Class := { plain "java/util/Arrays" (some 0) with
  accessFlags := 49
  interfaces := #[]
  cf := some (fileOf pool11 14 #[.nestMembers #[975, 375, 113, 74]] #[{ accessFlags := 2, nameIndex := 5, descriptorIndex := 6, attributes := #[] }, { accessFlags := 9, nameIndex := 302, descriptorIndex := 869, attributes := #[] }] 49 2 #[] #[{ accessFlags := 26, nameIndex := 715, descriptorIndex := 716, attributes := #[] }, { accessFlags := 26, nameIndex := 719, descriptorIndex := 716, attributes := #[] }, { accessFlags := 4120, nameIndex := 445, descriptorIndex := 117, attributes := #[] }])
  fields := #[{ name := "MIN_ARRAY_SORT_GRAN", type := .int, accessFlags := 26, slot := 0, constantValue := 0 }, { name := "INSERTIONSORT_THRESHOLD", type := .int, accessFlags := 26, slot := 1, constantValue := 0 }, { name := "$assertionsDisabled", type := .boolean, accessFlags := 4120, slot := 2, constantValue := 0 }]
  methods := #[k11m0, k11m1]
  instanceTypes := #[]
  staticTypes := #[.int, .int, .boolean]
  resolved := Array.replicate 1029 none
  statics := none }

def pool12 : Array CpInfo := pool [(2, .class_ 4), (1, u "java/lang/Object"), (0, u "<init>"), (0, u "()V"), (1, .class_ 10), (1, u "java/lang/System"), (0, u "allowSecurityManager"), (0, u "I"), (16, u "cons"), (0, u "Ljava/io/Console;"), (77, .class_ 110), (1, u "java/lang/System$CallersHolder"), (43, u "initialErrStream"), (0, u "Ljava/io/PrintStream;"), (19, u "security"), (0, u "Ljava/lang/SecurityManager;"), (31, .class_ 209), (0, u "java/lang/System$1"), (7, u "props"), (0, u "Ljava/util/Properties;"), (2, u "lineSeparator"), (0, u "Ljava/lang/String;"), (96, .class_ 321), (1, u "java/lang/System$LoggerFinder"), (5, .class_ 328), (0, u "java/lang/System$Logger"), (67, u "err"), (2, u "out"), (91, u "notSupportedJnuEncoding"), (15, u "in"), (17, u "initialIn"), (0, u "Ljava/io/InputStream;"), (35, u "bootLayer"), (0, u "Ljava/lang/ModuleLayer;"), (99, .class_ 664), (0, u "java/lang/System$2"), (9, u "NEVER"), (2, u "MAYBE"), (49, u "arraycopy"), (0, u "(Ljava/lang/Object;ILjava/lang/Object;II)V"), (72, .class_ 802), (0, u "java/lang/System$Logger$Level")] 31

def k12m0 : Method := { name := "<init>", desc := "()V", sig := { parameters := [], returnType := none }, accessFlags := 2, code := none }
def k12m1 : Method := { name := "arraycopy", desc := "(Ljava/lang/Object;ILjava/lang/Object;II)V", sig := { parameters := [(.object "java/lang/Object"), .int, (.object "java/lang/Object"), .int, .int], returnType := none }, accessFlags := 265, code := none }
/-- java/lang/System -/
def k12 : Class := { plain "java/lang/System" (some 0) with
  accessFlags := 49
  interfaces := #[]
  cf := some (fileOf pool12 8 #[.nestMembers #[319, 327, 801, 108, 663, 208]] #[{ accessFlags := 2, nameIndex := 5, descriptorIndex := 6, attributes := #[] }, { accessFlags := 265, nameIndex := 727, descriptorIndex := 728, attributes := #[] }] 49 2 #[] #[{ accessFlags := 25, nameIndex := 507, descriptorIndex := 526, attributes := #[] }, { accessFlags := 25, nameIndex := 399, descriptorIndex := 155, attributes := #[] }, { accessFlags := 25, nameIndex := 396, descriptorIndex := 155, attributes := #[] }, { accessFlags := 10, nameIndex := 525, descriptorIndex := 526, attributes := #[] }, { accessFlags := 26, nameIndex := 674, descriptorIndex := 12, attributes := #[] }, { accessFlags := 26, nameIndex := 677, descriptorIndex := 12, attributes := #[] }, { accessFlags := 10, nameIndex := 11, descriptorIndex := 12, attributes := #[] }, { accessFlags := 74, nameIndex := 175, descriptorIndex := 176, attributes := #[] }, { accessFlags := 10, nameIndex := 491, descriptorIndex := 222, attributes := #[] }, { accessFlags := 74, nameIndex := 29, descriptorIndex := 30, attributes := #[] }, { accessFlags := 74, nameIndex := 154, descriptorIndex := 155, attributes := #[] }, { accessFlags := 10, nameIndex := 217, descriptorIndex := 218, attributes := #[] }, { accessFlags := 10, nameIndex := 221, descriptorIndex := 222, attributes := #[] }, { accessFlags := 8, nameIndex := 562, descriptorIndex := 563, attributes := #[] }])
  fields := #[{ name := "in", type := (.object "java/io/InputStream"), accessFlags := 25, slot := 0, constantValue := 0 }, { name := "out", type := (.object "java/io/PrintStream"), accessFlags := 25, slot := 1, constantValue := 0 }, { name := "err", type := (.object "java/io/PrintStream"), accessFlags := 25, slot := 2, constantValue := 0 }, { name := "initialIn", type := (.object "java/io/InputStream"), accessFlags := 10, slot := 3, constantValue := 0 }, { name := "NEVER", type := .int, accessFlags := 26, slot := 4, constantValue := 0 }, { name := "MAYBE", type := .int, accessFlags := 26, slot := 5, constantValue := 0 }, { name := "allowSecurityManager", type := .int, accessFlags := 10, slot := 6, constantValue := 0 }, { name := "security", type := (.object "java/lang/SecurityManager"), accessFlags := 74, slot := 7, constantValue := 0 }, { name := "notSupportedJnuEncoding", type := (.object "java/lang/String"), accessFlags := 10, slot := 8, constantValue := 0 }, { name := "cons", type := (.object "java/io/Console"), accessFlags := 74, slot := 9, constantValue := 0 }, { name := "initialErrStream", type := (.object "java/io/PrintStream"), accessFlags := 74, slot := 10, constantValue := 0 }, { name := "props", type := (.object "java/util/Properties"), accessFlags := 10, slot := 11, constantValue := 0 }, { name := "lineSeparator", type := (.object "java/lang/String"), accessFlags := 10, slot := 12, constantValue := 0 }, { name := "bootLayer", type := (.object "java/lang/ModuleLayer"), accessFlags := 8, slot := 13, constantValue := 0 }]
  methods := #[k12m0, k12m1]
  instanceTypes := #[]
  staticTypes := #[(.object "java/io/InputStream"), (.object "java/io/PrintStream"), (.object "java/io/PrintStream"), (.object "java/io/InputStream"), .int, .int, .int, (.object "java/lang/SecurityManager"), (.object "java/lang/String"), (.object "java/io/Console"), (.object "java/io/PrintStream"), (.object "java/util/Properties"), (.object "java/lang/String"), (.object "java/lang/ModuleLayer")]
  resolved := Array.replicate 834 none
  statics := none }

def pool13 : Array CpInfo := pool [(1, u "java/lang/Cloneable"), (0, .class_ 1), (0, u "java/lang/Object"), (0, .class_ 3)] 3

/-- java/lang/Cloneable -/
def k13 : Class := { plain "java/lang/Cloneable" (some 0) with
  accessFlags := 1537
  interfaces := #[]
  cf := some (fileOf pool13 2 #[] #[] 1537 4 #[] #[])
  fields := #[]
  methods := #[]
  instanceTypes := #[]
  staticTypes := #[]
  resolved := Array.replicate 8 none
  statics := none }

/-- the primitive byte -/
def k14 : Class := { plain "byte" none with kind := .primitive 'B', accessFlags := 0x411 }
/-- [B -/
def k15 : Class := { plain "[B" (some 0) with kind := .array 14 .byte, interfaces := #[13, 5], accessFlags := 1041 }

/-- the primitive int -/
def k16 : Class := { plain "int" none with kind := .primitive 'I', accessFlags := 0x411 }
/-- [I -/
def k17 : Class := { plain "[I" (some 0) with kind := .array 16 .int, interfaces := #[13, 5], accessFlags := 1041 }

/-- the primitive long -/
def k18 : Class := { plain "long" none with kind := .primitive 'J', accessFlags := 0x411 }
/-- [J -/
def k19 : Class := { plain "[J" (some 0) with kind := .array 18 .long, interfaces := #[13, 5], accessFlags := 1041 }

def heap : Heap := #[]
def classes : Array Class := #[k0, k1, k2, k3, k4, k5, k6, k7, k8, k9, k10, k11, k12, k13, k14, k15, k16, k17, k18, k19]
def interned : List (Array UInt16 × Addr) := []
def slotsUsed : Nat := 0
def theMethod : MethodId := ⟨1, 2⟩
def args0 : Array Value := #[.int 5, .int 5, .int 5, .int 5, .int 5, .int 5]
def aboutOver (below : List Frame) : State where
  vm := { classes := classes, interned := interned.toArray }
  heap := heap
  slotsUsed := slotsUsed
  threads := #[{ frames := .invoking theMethod args0 :: below }]
def below0 : List Frame := [.native { method := ⟨0, 0⟩, args := #[] }]
def about1 : State := aboutOver below0
def p0 : Program := .bare "" "" ""
def e0 : Env := launch0.env 0 0 0
theorem w_frames : about1.frames = Frame.invoking theMethod args0 :: below0 := rfl
set_option maxRecDepth 65536 in
theorem w_args : argsFit about1.vm theMethod args0 = true := by decide +kernel
set_option maxRecDepth 65536 in
theorem w_heap : heapFits about1 = true := by decide +kernel
set_option maxRecDepth 65536 in
theorem w_runnable : about1.curStatus? = some .runnable := by decide +kernel
set_option maxRecDepth 65536 in
theorem w_alone : about1.alone = true := by decide +kernel
set_option maxRecDepth 65536 in
theorem w_named : about1.methodNamed? x = some theMethod := by decide +kernel
set_option maxRecDepth 65536 in
theorem w_hears : about1.hears theMethod below0 = true := by decide +kernel
set_option maxRecDepth 65536 in
theorem w_ripe : about1.ripe theMethod args0 below0 = true := by decide +kernel
theorem w_running : about1.status = .running := rfl
set_option maxRecDepth 65536 in
theorem w_room : about1.hasRoom e0.platform room_1 = true :=
  launch0.hasRoom_least _ room_1 (by decide +kernel) (by decide +kernel) (by decide +kernel) (by decide +kernel) (by decide +kernel) (by decide +kernel)
theorem allAtoms_all (ts : List Jvm.Cond) (a : Array Jvm.Value) (st : Jvm.State) : (allAtoms ts).before a st = ts.all (fun c => c.before a st) := by
  induction ts with
  | nil => rfl
  | cons c t ih =>
    show (Jvm.Cond.and c (allAtoms t)).before a st = _
    rw [Jvm.Cond.before_and, ih, List.all_cons]
def words1 : List Jvm.Cond := Jvm.Cond.code x code maxLocals ret :: tables_1
/-- a 'code' word, met by the world's own term for the bytes: nothing is compared byte by byte -/
theorem code_word {y : MethodName} {bytes : ByteArray} {mx : Nat} {rt : Option FieldType} {a : Array Value} {s : State} {m : MethodId} {meth : Method} {c : Code} (h1 : s.methodNamed? y = some m) (h2 : s.vm.method? m = some meth) (h3 : meth.code = some c) (h4 : c.code = bytes)
    (h5 : (c.maxLocals == mx && c.exceptionTable.isEmpty && decide (c.maxStack ≤ mostOperands) && decide (meth.sig.returnType = rt) && !meth.locks && decide (parseMethodDescriptor y.desc = some meth.sig)) = true) : (Jvm.Cond.code y bytes mx rt).before a s = true := by
  simp only [Bool.and_eq_true, beq_iff_eq, Bool.not_eq_true', decide_eq_true_eq] at h5
  obtain ⟨⟨⟨⟨⟨g1, g2⟩, g3⟩, g4⟩, g5⟩, g6⟩ := h5
  simp [Cond.before, Cond.holds, Cond.value, h1, h2, h3, h4, g1, g2, g3, g4, g5, g6]
def isCode : Jvm.Cond → Bool
  | .code _ _ _ _ => true
  | _ => false
theorem all_split {L : List Jvm.Cond} {P : Jvm.Cond → Bool} (h1 : L.all (fun c => isCode c || P c) = true) (h2 : ∀ c ∈ L.filter isCode, P c = true) : L.all P = true := by
  refine List.all_eq_true.mpr fun c hc => ?_
  have h := List.all_eq_true.mp h1 c hc
  rcases Bool.eq_false_or_eq_true (isCode c) with hi | hi
  · exact h2 c (List.mem_filter.mpr ⟨hc, hi⟩)
  · simpa [hi] using h
set_option maxRecDepth 65536 in
theorem w_c0 : (Jvm.Cond.code x code maxLocals ret).before args0 about1 = true := code_word (m := ⟨1, 2⟩) (meth := k1m2) (c := k1c2) (by decide +kernel) rfl rfl rfl (by decide +kernel)
set_option maxRecDepth 65536 in
theorem w_c1 : (Jvm.Cond.code ({ cls := "com/example/wadjet/wadjet/storage/IntegerChunk", name := "<init>", desc := "(I)V" } : Jvm.MethodName) prog_257_method_1_code (2 : Nat) (Option.none : Option Jvm.ClassFile.FieldType)).before args0 about1 = true := code_word (m := ⟨3, 0⟩) (meth := k3m0) (c := k3c0) (by decide +kernel) rfl rfl rfl (by decide +kernel)
set_option maxRecDepth 65536 in
theorem w_c2 : (Jvm.Cond.code ({ cls := "com/example/wadjet/wadjet/storage/ColumnChunk", name := "<init>", desc := "()V" } : Jvm.MethodName) prog_251_method_1_code (1 : Nat) (Option.none : Option Jvm.ClassFile.FieldType)).before args0 about1 = true := code_word (m := ⟨2, 0⟩) (meth := k2m0) (c := k2c0) (by decide +kernel) rfl rfl rfl (by decide +kernel)
set_option maxRecDepth 65536 in
theorem w_c3 : (Jvm.Cond.code ({ cls := "java/lang/Object", name := "<init>", desc := "()V" } : Jvm.MethodName) object_method_1_code (1 : Nat) (Option.none : Option Jvm.ClassFile.FieldType)).before args0 about1 = true := code_word (m := ⟨0, 0⟩) (meth := k0m0) (c := k0c0) (by decide +kernel) rfl rfl rfl (by decide +kernel)
set_option maxRecDepth 65536 in
theorem w_c4 : (Jvm.Cond.code ({ cls := "com/example/wadjet/wadjet/storage/IntegerChunk", name := "writeNull", desc := "(I)V" } : Jvm.MethodName) prog_257_method_11_code (2 : Nat) (Option.none : Option Jvm.ClassFile.FieldType)).before args0 about1 = true := code_word (m := ⟨3, 3⟩) (meth := k3m3) (c := k3c3) (by decide +kernel) rfl rfl rfl (by decide +kernel)
set_option maxRecDepth 65536 in
theorem w_c5 : (Jvm.Cond.code ({ cls := "com/example/wadjet/wadjet/storage/IntegerChunk", name := "isNull", desc := "(I)Z" } : Jvm.MethodName) prog_257_method_3_code (2 : Nat) (Option.some Jvm.ClassFile.FieldType.boolean)).before args0 about1 = true := code_word (m := ⟨3, 1⟩) (meth := k3m1) (c := k3c1) (by decide +kernel) rfl rfl rfl (by decide +kernel)
set_option maxRecDepth 65536 in
theorem w_c6 : (Jvm.Cond.code ({ cls := "com/example/wadjet/wadjet/storage/IntegerChunkIsNullPinLaw", name := "expected", desc := "(IIIIII)Z" } : Jvm.MethodName) method_2_code (7 : Nat) (Option.some Jvm.ClassFile.FieldType.boolean)).before args0 about1 = true := code_word (m := ⟨1, 1⟩) (meth := k1m1) (c := k1c1) (by decide +kernel) rfl rfl rfl (by decide +kernel)
set_option maxRecDepth 65536 in
theorem w_c7 : (Jvm.Cond.code ({ cls := "com/example/wadjet/wadjet/storage/IntegerChunk", name := "writeInteger", desc := "(IJ)V" } : Jvm.MethodName) prog_257_method_8_code (4 : Nat) (Option.none : Option Jvm.ClassFile.FieldType)).before args0 about1 = true := code_word (m := ⟨3, 2⟩) (meth := k3m2) (c := k3c2) (by decide +kernel) rfl rfl rfl (by decide +kernel)
set_option maxRecDepth 65536 in
theorem w_c8 : (Jvm.Cond.code ({ cls := "java/lang/Math", name := "toIntExact", desc := "(J)I" } : Jvm.MethodName) jdk_29_method_43_code (2 : Nat) (Option.some Jvm.ClassFile.FieldType.int)).before args0 about1 = true := code_word (m := ⟨4, 1⟩) (meth := k4m1) (c := k4c1) (by decide +kernel) rfl rfl rfl (by decide +kernel)
set_option maxRecDepth 65536 in
theorem w_c9 : (Jvm.Cond.code ({ cls := "com/example/wadjet/wadjet/storage/IntegerChunk", name := "capacity", desc := "()I" } : Jvm.MethodName) prog_257_method_13_code (2 : Nat) (Option.some Jvm.ClassFile.FieldType.int)).before args0 about1 = true := code_word (m := ⟨3, 5⟩) (meth := k3m5) (c := k3c5) (by decide +kernel) rfl rfl rfl (by decide +kernel)
set_option maxRecDepth 65536 in
theorem w_c10 : (Jvm.Cond.code ({ cls := "com/example/wadjet/wadjet/storage/IntegerChunk", name := "clear", desc := "(I)V" } : Jvm.MethodName) prog_257_method_12_code (2 : Nat) (Option.none : Option Jvm.ClassFile.FieldType)).before args0 about1 = true := code_word (m := ⟨3, 4⟩) (meth := k3m4) (c := k3c4) (by decide +kernel) rfl rfl rfl (by decide +kernel)
set_option maxRecDepth 65536 in
theorem w_c11 : (Jvm.Cond.code ({ cls := "com/example/wadjet/wadjet/storage/ColumnChunk", name := "grownCapacity", desc := "(II)I" } : Jvm.MethodName) prog_251_method_4_code (2 : Nat) (Option.some Jvm.ClassFile.FieldType.int)).before args0 about1 = true := code_word (m := ⟨2, 1⟩) (meth := k2m1) (c := k2c1) (by decide +kernel) rfl rfl rfl (by decide +kernel)
set_option maxRecDepth 65536 in
theorem w_c12 : (Jvm.Cond.code ({ cls := "java/lang/Integer", name := "highestOneBit", desc := "(I)I" } : Jvm.MethodName) jdk_33_method_45_code (1 : Nat) (Option.some Jvm.ClassFile.FieldType.int)).before args0 about1 = true := code_word (m := ⟨10, 0⟩) (meth := k10m0) (c := k10c0) (by decide +kernel) rfl rfl rfl (by decide +kernel)
set_option maxRecDepth 65536 in
theorem w_c13 : (Jvm.Cond.code ({ cls := "java/lang/Integer", name := "numberOfLeadingZeros", desc := "(I)I" } : Jvm.MethodName) jdk_33_method_47_code (2 : Nat) (Option.some Jvm.ClassFile.FieldType.int)).before args0 about1 = true := code_word (m := ⟨10, 1⟩) (meth := k10m1) (c := k10c1) (by decide +kernel) rfl rfl rfl (by decide +kernel)
set_option maxRecDepth 65536 in
theorem w_c14 : (Jvm.Cond.code ({ cls := "java/lang/Math", name := "max", desc := "(II)I" } : Jvm.MethodName) jdk_29_method_65_code (2 : Nat) (Option.some Jvm.ClassFile.FieldType.int)).before args0 about1 = true := code_word (m := ⟨4, 2⟩) (meth := k4m2) (c := k4c2) (by decide +kernel) rfl rfl rfl (by decide +kernel)
set_option maxRecDepth 65536 in
theorem w_c15 : (Jvm.Cond.code ({ cls := "java/lang/Math", name := "min", desc := "(II)I" } : Jvm.MethodName) jdk_29_method_69_code (2 : Nat) (Option.some Jvm.ClassFile.FieldType.int)).before args0 about1 = true := code_word (m := ⟨4, 3⟩) (meth := k4m3) (c := k4c3) (by decide +kernel) rfl rfl rfl (by decide +kernel)
set_option maxRecDepth 65536 in
theorem w_c16 : (Jvm.Cond.code ({ cls := "com/example/wadjet/wadjet/storage/IntegerChunk", name := "resize", desc := "(I)V" } : Jvm.MethodName) prog_257_method_14_code (2 : Nat) (Option.none : Option Jvm.ClassFile.FieldType)).before args0 about1 = true := code_word (m := ⟨3, 6⟩) (meth := k3m6) (c := k3c6) (by decide +kernel) rfl rfl rfl (by decide +kernel)
set_option maxRecDepth 65536 in
theorem w_c17 : (Jvm.Cond.code ({ cls := "java/util/Arrays", name := "copyOf", desc := "([BI)[B" } : Jvm.MethodName) jdk_65_method_121_code (3 : Nat) (Option.some (Jvm.ClassFile.FieldType.array Jvm.ClassFile.FieldType.byte))).before args0 about1 = true := code_word (m := ⟨11, 1⟩) (meth := k11m1) (c := k11c1) (by decide +kernel) rfl rfl rfl (by decide +kernel)
def codes1 : List Jvm.Cond := [Jvm.Cond.code x code maxLocals ret, Jvm.Cond.code ({ cls := "com/example/wadjet/wadjet/storage/IntegerChunk", name := "<init>", desc := "(I)V" } : Jvm.MethodName) prog_257_method_1_code (2 : Nat) (Option.none : Option Jvm.ClassFile.FieldType), Jvm.Cond.code ({ cls := "com/example/wadjet/wadjet/storage/ColumnChunk", name := "<init>", desc := "()V" } : Jvm.MethodName) prog_251_method_1_code (1 : Nat) (Option.none : Option Jvm.ClassFile.FieldType), Jvm.Cond.code ({ cls := "java/lang/Object", name := "<init>", desc := "()V" } : Jvm.MethodName) object_method_1_code (1 : Nat) (Option.none : Option Jvm.ClassFile.FieldType), Jvm.Cond.code ({ cls := "com/example/wadjet/wadjet/storage/IntegerChunk", name := "writeNull", desc := "(I)V" } : Jvm.MethodName) prog_257_method_11_code (2 : Nat) (Option.none : Option Jvm.ClassFile.FieldType), Jvm.Cond.code ({ cls := "com/example/wadjet/wadjet/storage/IntegerChunk", name := "isNull", desc := "(I)Z" } : Jvm.MethodName) prog_257_method_3_code (2 : Nat) (Option.some Jvm.ClassFile.FieldType.boolean), Jvm.Cond.code ({ cls := "com/example/wadjet/wadjet/storage/IntegerChunkIsNullPinLaw", name := "expected", desc := "(IIIIII)Z" } : Jvm.MethodName) method_2_code (7 : Nat) (Option.some Jvm.ClassFile.FieldType.boolean), Jvm.Cond.code ({ cls := "com/example/wadjet/wadjet/storage/IntegerChunk", name := "writeInteger", desc := "(IJ)V" } : Jvm.MethodName) prog_257_method_8_code (4 : Nat) (Option.none : Option Jvm.ClassFile.FieldType), Jvm.Cond.code ({ cls := "java/lang/Math", name := "toIntExact", desc := "(J)I" } : Jvm.MethodName) jdk_29_method_43_code (2 : Nat) (Option.some Jvm.ClassFile.FieldType.int), Jvm.Cond.code ({ cls := "com/example/wadjet/wadjet/storage/IntegerChunk", name := "capacity", desc := "()I" } : Jvm.MethodName) prog_257_method_13_code (2 : Nat) (Option.some Jvm.ClassFile.FieldType.int), Jvm.Cond.code ({ cls := "com/example/wadjet/wadjet/storage/IntegerChunk", name := "clear", desc := "(I)V" } : Jvm.MethodName) prog_257_method_12_code (2 : Nat) (Option.none : Option Jvm.ClassFile.FieldType), Jvm.Cond.code ({ cls := "com/example/wadjet/wadjet/storage/ColumnChunk", name := "grownCapacity", desc := "(II)I" } : Jvm.MethodName) prog_251_method_4_code (2 : Nat) (Option.some Jvm.ClassFile.FieldType.int), Jvm.Cond.code ({ cls := "java/lang/Integer", name := "highestOneBit", desc := "(I)I" } : Jvm.MethodName) jdk_33_method_45_code (1 : Nat) (Option.some Jvm.ClassFile.FieldType.int), Jvm.Cond.code ({ cls := "java/lang/Integer", name := "numberOfLeadingZeros", desc := "(I)I" } : Jvm.MethodName) jdk_33_method_47_code (2 : Nat) (Option.some Jvm.ClassFile.FieldType.int), Jvm.Cond.code ({ cls := "java/lang/Math", name := "max", desc := "(II)I" } : Jvm.MethodName) jdk_29_method_65_code (2 : Nat) (Option.some Jvm.ClassFile.FieldType.int), Jvm.Cond.code ({ cls := "java/lang/Math", name := "min", desc := "(II)I" } : Jvm.MethodName) jdk_29_method_69_code (2 : Nat) (Option.some Jvm.ClassFile.FieldType.int), Jvm.Cond.code ({ cls := "com/example/wadjet/wadjet/storage/IntegerChunk", name := "resize", desc := "(I)V" } : Jvm.MethodName) prog_257_method_14_code (2 : Nat) (Option.none : Option Jvm.ClassFile.FieldType), Jvm.Cond.code ({ cls := "java/util/Arrays", name := "copyOf", desc := "([BI)[B" } : Jvm.MethodName) jdk_65_method_121_code (3 : Nat) (Option.some (Jvm.ClassFile.FieldType.array Jvm.ClassFile.FieldType.byte))]
set_option maxRecDepth 65536 in
theorem codes_eq : words1.filter isCode = codes1 := rfl
theorem w_codes : ∀ c ∈ words1.filter isCode, c.before args0 about1 = true := by
  rw [codes_eq]
  intro c hc
  simp only [codes1, List.mem_cons, List.not_mem_nil, or_false] at hc
  rcases hc with rfl | rfl | rfl | rfl | rfl | rfl | rfl | rfl | rfl | rfl | rfl | rfl | rfl | rfl | rfl | rfl | rfl | rfl
  · exact w_c0
  · exact w_c1
  · exact w_c2
  · exact w_c3
  · exact w_c4
  · exact w_c5
  · exact w_c6
  · exact w_c7
  · exact w_c8
  · exact w_c9
  · exact w_c10
  · exact w_c11
  · exact w_c12
  · exact w_c13
  · exact w_c14
  · exact w_c15
  · exact w_c16
  · exact w_c17
set_option maxRecDepth 65536 in
theorem w_t1 : (words1.take 24).all (fun c => isCode c || c.before args0 about1) = true := by decide +kernel
set_option maxRecDepth 65536 in
theorem w_t2 : ((words1.drop 24).take 24).all (fun c => isCode c || c.before args0 about1) = true := by decide +kernel
set_option maxRecDepth 65536 in
theorem w_t3 : (((words1.drop 24).drop 24).take 24).all (fun c => isCode c || c.before args0 about1) = true := by decide +kernel
set_option maxRecDepth 65536 in
theorem w_t4 : (((words1.drop 24).drop 24).drop 24).all (fun c => isCode c || c.before args0 about1) = true := by decide +kernel
theorem w_tables : (allAtoms (Jvm.Cond.code x code maxLocals ret :: tables_1)).before args0 about1 = true := by
  rw [allAtoms_all]
  show words1.all (fun c => c.before args0 about1) = true
  refine all_split ?_ w_codes
  rw [← List.take_append_drop 24 words1, List.all_append, w_t1, ← List.take_append_drop 24 (words1.drop 24), List.all_append, w_t2, ← List.take_append_drop 24 ((words1.drop 24).drop 24), List.all_append, w_t3, w_t4]
  rfl
set_option maxRecDepth 65536 in
theorem w_case : (Jvm.Cond.and given_1 narrow_1).before args0 about1 = true := by decide +kernel
theorem w_applies : (headSpec (Jvm.Cond.code x code maxLocals ret :: tables_1) room_1).applies x e0.platform about1 = true :=
  (Spec.applies_iff w_frames).mpr ⟨w_running, w_runnable, w_alone, w_named, w_hears, w_ripe, w_room, w_tables⟩
theorem atStart : AtStart classFile x code maxLocals ret World_1 tables_1 room_1 Calls_1 rest_1 Pre_1 launch0 p0 e0 about1 theMethod args0 below0 :=
  ⟨lists_1, trivial, launch0.admits_env _ _ _, launch0.least_env, fairChoices_fair.cas, fairChoices_fair.clock, w_frames, w_args, w_heap, w_applies, trivial, trivial, w_case⟩
end start1
theorem witness_1 : WitnessClaimed_1 := ⟨start1.p0, start1.e0, start1.about1, start1.theMethod, start1.args0, start1.below0, start1.atStart⟩
end Jvm.Pilot.@@N@@
