import JvmDerived
import JvmDerived.Pilot.@@N@@Statement
import JvmDerived.Pilot.@@N@@Code
set_option linter.unusedVariables false
set_option linter.unusedSimpArgs false
namespace Jvm.RoadKit
open Sem ClassFile Op Lib Jvm.Stand Jvm.Free Jvm.LawKit
section New
variable {p : Program} {l : Launch} {e : Env} {R : Room} {s : State} {m : MethodId} {args : Array Value} {below : List Frame} {meth : Method} {c : Code} {T : State} {locs : List Loc} {cells slots : Nat}
theorem retI (X : Stand p l e R s m args below meth c T locs cells slots) (hx : p.tables.exec = Jvm.exec) {pc : Nat} {Ls : Array Slot} {z : Int32} {rest : List Value} (hret : meth.sig.returnType = some .int) (hd : decode c.code pc = .ok (.ireturn, 1)) {fs : List Frame}
    (hl : ∀ (f : JFrame) (acts : List Action), f.method = m → f.locked = none → f.entered = [] → (doReturn e (T.setTop f) acts (some (.int z))).1 = T.setFrames fs) : Steps p.tables e below (T.setTop (mkF m pc Ls (.int z :: rest))) (T.setFrames fs) := by
  have hm' : T.vm.method? m = some meth := X.method'
  have hn : narrow .int (.int z) = .int z := rfl
  show Steps p.tables e below (T.setTop { method := m, pc := pc, locals := Ls, stack := _ :: rest, locked := none }) _
  jvm_step X.here [X.here.top, hx, hd, hm', hret, hn]
  first | (intro acts; rw [hl _ acts rfl rfl rfl]) | rw [hl _ _ rfl rfl rfl]
  exact Steps.refl _
theorem own_lrem {target : State} (X : Stand p l e R s m args below meth c T locs cells slots) (hx : p.tables.exec = Jvm.exec) {g : JFrame} (hg : g.method = m) {x y : Int64} {rest : List Value} (hd : decode c.code g.pc = .ok (.lrem, 1)) (hs : g.stack = .long y :: .long x :: rest) (hy : y ≠ 0)
    (hr : Steps p.tables e below (T.setTop { g with pc := g.pc + 1, stack := .long (x % y) :: rest }) target) : Steps p.tables e below (T.setTop g) target :=
  XS.lrem X.here hx hg hd hs hy (by rw [lrem_mod]; exact hr)
theorem own_retJ (Y : Stand p l e R s m args below meth c T locs cells slots) (hexec : p.tables.exec = Jvm.exec) {pc : Nat} {Ls : Array Slot} {w : Int64} (hret : meth.sig.returnType = some .long)
    (hdg : decode c.code pc = .ok (.lreturn, 1)) {fs : List Frame} (hleave : ∀ (f : JFrame) (acts : List Action), f.method = m → f.locked = none → f.entered = [] → (doReturn e (T.setTop f) acts (some (.long w))).1 = T.setFrames fs) :
    Steps p.tables e below (T.setTop (mkF m pc Ls [.long w])) (T.setFrames fs) := Y.lreturnOut hexec hret hdg hleave
theorem own_retR (X : Stand p l e R s m args below meth c T locs cells slots) (hx : p.tables.exec = Jvm.exec) {pc : Nat} {Ls : Array Slot} {w : Value} {t : FieldType} {rest : List Value} (hret : meth.sig.returnType = some t) (hn : narrow t w = w) (ht : t.isReference = true) (hw : w.isRef = true)
    (hd : decode c.code pc = .ok (.areturn, 1)) {fs : List Frame} (hl : ∀ (f : JFrame) (acts : List Action), f.method = m → f.locked = none → f.entered = [] → (doReturn e (T.setTop f) acts (some w)).1 = T.setFrames fs) :
    Steps p.tables e below (T.setTop (mkF m pc Ls (w :: rest))) (T.setFrames fs) := retOut X hx hret hn (Or.inr (Or.inr (Or.inr (Or.inr ⟨rfl, ht, hw⟩)))) hd hl
theorem own_selP {Z : State} {A0 args' : Array Value} {y : MethodName} {k : Nat} (hZ : Z.Warmed39 s.vm) (wi : (Cond.instantiable y.cls k).before A0 Z = true) (wp : (Cond.privateMethod y).before A0 Z = true) (wn : (Cond.instanceMethod y).before A0 Z = true) (hy : y.cls ≠ "java/lang/invoke/MethodHandle" ∧ y.cls ≠ "java/lang/invoke/VarHandle") : (Cond.selects y.cls y y).before args' s = true := by
  obtain ⟨c, k', h1, h2, -, h4, -⟩ := Cond.instantiable_spec (mvT (args := args') hZ wi)
  exact selects_self_of_private h1 h2 (by simp only [Bool.or_eq_false_iff] at h4; exact h4.1) (Cond.privateMethod_at (mvP hZ wp (args := args'))) (mvT hZ wn) hy
theorem own_callSU (X : Stand p l e R s m args below meth c T locs cells slots) (hexec : p.tables.exec = Jvm.exec) {own owner : String} {index : Nat} {x : MethodName} {bytes : ByteArray} {maxL : Nat} {ret : Option FieldType}
    (hown : s.vm.findClass own = some m.cls) (hlink : (Cond.methodLink own index x).before args s = true) (hsame : (Cond.sameMethod x.cls owner x.name x.desc).before args s = true)
    (hstat : (Cond.static ⟨owner, x.name, x.desc⟩).before args s = true) (hinit : (Cond.initialized owner).before args s = true) (hcode : (Cond.code ⟨owner, x.name, x.desc⟩ bytes maxL ret).before args s = true)
    (howner : owner ≠ "java/lang/invoke/MethodHandle" ∧ owner ≠ "java/lang/invoke/VarHandle")
    {W : Nat} {Pre : Pt → Array Value → Prop} {Post : Pt → Array Value → Option Value → Pt → Prop} (hK : Back l R p e below s args ⟨owner, x.name, x.desc⟩ 3 W Pre Post)
    {g : JFrame} (hg : g.method = m) (hsize : g.locals.size = c.maxLocals) {argsL rest : List Value} (hlen : ∀ sig, parseMethodDescriptor x.desc = some sig → argsL.length = sig.parameters.length)
    (hstack : g.stack = argsL.reverse ++ rest) (hW : 2 * g.monitorRoom + (rest.map fun v => v.category).sum ≤ W) (hdg : decode c.code g.pc = .ok (.invokestatic index, 3))
    (hpre : ∀ vm₁, s.WarmedH vm₁ → Pre ⟨T.setVm vm₁, locs, cells, slots⟩ argsL.toArray) :
    ∃ (v : Option Value) (vm₁ : Vm) (B : Pt), s.WarmedH vm₁ ∧ Stand p l e R s m args below meth c B.U B.locs B.cells B.slots ∧ Post ⟨T.setVm vm₁, locs, cells, slots⟩ argsL.toArray v B ∧
      ∀ target, Steps p.tables e below (B.U.setTop { g with pc := g.pc + 3, stack := v.toList ++ rest }) target → Steps p.tables e below (T.setTop g) target := by
  obtain ⟨mk, hnamed⟩ := Cond.code_named hcode
  obtain ⟨methM, cM, hmethM, -, -, -, -, -, -, hsigM⟩ := Cond.code_spec hnamed hcode
  obtain ⟨v, vm₁, B, hW₁, X', hpost, st⟩ := X.staticBackUp hexec hown hlink hsame hstat hinit hnamed hmethM hsigM howner hK hg hsize (Steps.refl _) hlen hstack hW hdg hpre
  exact ⟨v, vm₁, B, hW₁, X', hpost, fun t k => st.trans k⟩
theorem own_via {tb : Tables} {s0 target : State} (s' : State) (h : Steps tb e below s' target → Steps tb e below s0 target) (k : Steps tb e below s' target) : Steps tb e below s0 target := h k
end New
end Jvm.RoadKit
namespace Jvm.Pilot.@@N@@
open Jvm Jvm.ClassFile Sem Op Lib Jvm.Free Jvm.Stand Jvm.LawKit Jvm.RoadKit Bundle Jvm.Pilot.@@N@@.Jvm.D
theorem own_z32 : (0 : Int32).toInt = 0 := by decide
theorem own_gt0 {z : Int32} (h : 0 < z.toInt ∧ z.toInt < 256) : (0 : Int32) < z := by rw [Int32.lt_iff_toInt_lt, own_z32]; exact h.1
theorem own_lt64 {z : Int32} (h : 0 < z.toInt ∧ z.toInt < 256) : z < (65536 : Int32) := by
  have e : (65536 : Int32).toInt = 65536 := by decide
  rw [Int32.lt_iff_toInt_lt, e]; omega
theorem own_lt256 {z : Int32} (h : 0 < z.toInt ∧ z.toInt < 256) : z < (256 : Int32) := by
  have e : (256 : Int32).toInt = 256 := by decide
  rw [Int32.lt_iff_toInt_lt, e]; exact h.2
theorem own_nneg {z : Int32} (h : 0 ≤ z.toInt) : ¬ (z < 0) := by rw [Int32.lt_iff_toInt_lt, own_z32]; omega
theorem own_tn (z : Int32) : z.toNatClampNeg = z.toInt.toNat := rfl
theorem own_min {a b cn : Int32} (h : a.toInt ≤ b.toInt) (hc : cn = (if b < a then b else a)) : cn = a := by
  rw [hc, if_neg (by rw [Int32.lt_iff_toInt_lt]; omega)]
def own_copy (vs : List Value) (n m : Nat) : List Value := (List.replicate m (.int (0 : Int32))).take 0 ++ ((List.range n).map fun i => vs.getD (0 + i) (.int (0 : Int32))) ++ (List.replicate m (.int (0 : Int32))).drop (0 + n)

theorem own_mgi (ys : List Int32) (i : Nat) : (ys.map Value.int).getD i (.int (0 : Int32)) = .int (ys.getD i 0) := by
  simp only [List.getD_eq_getElem?_getD, List.getElem?_map]
  cases ys[i]? <;> rfl
def own_rd (w : Int32) (b : Int64) (y : Int32) : Int64 := if w = (1 : Int32) then (b + ((y &&& (255 : Int32)).toInt64)) else if w = (2 : Int32) then (b + (y.toInt64)) else (y.toInt64)
theorem own_rd1 (b : Int64) (y : Int32) : own_rd (1 : Int32) b y = (b + ((y &&& (255 : Int32)).toInt64)) := if_pos rfl
theorem own_rd2 (b : Int64) (y : Int32) : own_rd (2 : Int32) b y = (b + (y.toInt64)) := by unfold own_rd; rw [if_neg (by decide), if_pos rfl]
theorem own_rd4 (b : Int64) (y : Int32) : own_rd (4 : Int32) b y = (y.toInt64) := by unfold own_rd; rw [if_neg (by decide), if_neg (by decide)]
def own_cp (ys : List Int32) (m : Nat) : List Int32 := ys ++ List.replicate (m - ys.length) 0
theorem own_cp_len {ys : List Int32} {m : Nat} (h : ys.length ≤ m) : (own_cp ys m).length = m := by
  unfold own_cp; rw [List.length_append, List.length_replicate]; omega
theorem own_copy_eq {ys : List Int32} {n m : Nat} (h : ys.length = n) (hm : n ≤ m) : own_copy (ys.map Value.int) n m = (own_cp ys m).map Value.int := by
  unfold own_copy own_cp
  rw [List.take_zero, List.nil_append, List.map_append, List.map_replicate, List.drop_replicate]
  have e : (m - (0 + n)) = (m - ys.length) := by omega
  rw [e]
  congr 1
  apply List.ext_getElem
  · simp [h]
  · intro i h1 h2
    simp only [List.length_map, List.length_range] at h1 h2
    rw [List.getElem_map, List.getElem_range, Nat.zero_add, own_mgi, List.getElem_map, List.getD_eq_getElem?_getD, List.getElem?_eq_getElem h2]
    rfl

theorem d15_0 : decode jdk_29_method_65_code 0 = .ok (.iload_n 0, 1) := by decide +kernel
theorem d15_1 : decode jdk_29_method_65_code 1 = .ok (.iload_n 1, 1) := by decide +kernel
theorem d15_2 : decode jdk_29_method_65_code 2 = .ok (.if_icmp .lt 7, 3) := by decide +kernel
theorem d15_5 : decode jdk_29_method_65_code 5 = .ok (.iload_n 0, 1) := by decide +kernel
theorem d15_6 : decode jdk_29_method_65_code 6 = .ok (.goto 4, 3) := by decide +kernel
theorem d15_9 : decode jdk_29_method_65_code 9 = .ok (.iload_n 1, 1) := by decide +kernel
theorem d15_10 : decode jdk_29_method_65_code 10 = .ok (.ireturn, 1) := by decide +kernel
theorem ef_rm15 (m : MethodId) (p0 : Int32) (p1 : Int32) : entryFrame m #[(.int p0), (.int p1)] 2 = mkF m 0 #[.val (.int p0), .val (.int p1)] [] := by first | (simp [entryFrame, mkF, argsToLocals, Value.category]; done) | rfl
def Qrm15 (Z : State) (p0 : Int32) (p1 : Int32) (h0 : Heap) (n0 : Nat) (v : Option Value) (h : Heap) (L : List Loc) : Prop := v = some (.int (if p0 < p1 then p1 else p0)) ∧ Fr n0 L ∧ h = h0
set_option maxRecDepth 65536 in
set_option maxHeartbeats 40000000 in
theorem rm15 (l : Launch) (Z : State) (A0 : Array Value) (hw : ∀ d ∈ tables_1, d.before A0 Z = true) (ws : List Jvm.Cond) (p0 : Int32) (p1 : Int32) (h0 : Heap) (n0 : Nat) (Z0 : n0 ≤ h0.size) :
    MetFree l (⟨"java/lang/Math", "max", "(II)I"⟩ : MethodName) (head1 (Jvm.Cond.code (⟨"java/lang/Math", "max", "(II)I"⟩ : MethodName) jdk_29_method_65_code 2 (some .int) :: ws) ({ frames := 0, cells := 0, slots := 0, locals := 0 } : Room)) (fun a U => a = #[(.int p0), (.int p1)] ∧ Z.Warmed39 U.vm ∧ U.heap = h0) (fun _ _ _ _ _ => True) (fun _ U o U' => ∃ v L, o = .returned v ∧ Qrm15 Z p0 p1 h0 n0 v U'.heap L ∧ FrameEnd U o U' L ({ frames := 0, cells := 0, slots := 0, locals := 0 } : Room).cells ({ frames := 0, cells := 0, slots := 0, locals := 0 } : Room).slots) := by
  refine MetFree.of_bodySF (Jvm.Free.JP.mathPlain rfl (by decide +kernel)) hisR ?_
  intro p e s m args below meth c s₁ Bd hml0 hP hK
  obtain ⟨rfl, hZ, hh⟩ := hP
  have hx := Bd.exec
  have hby := Bd.bytes
  have hml : c.maxLocals = 2 := hml0
  have hown : s.vm.findClass "java/lang/Math" = some m.cls := findClass_of_methodNamed Bd.named
  have hnm := (name_of_methodNamed Bd.named Bd.method).1
  have X0 : Stand p l e ({ frames := 0, cells := 0, slots := 0, locals := 0 } : Room) s m #[(.int p0), (.int p1)] below meth c s₁ [] 0 0 := Stand.of_body Bd
  have e0 : s₁.heap = h0 := by rw [← hh, Bd.state]; rfl
  have N0 := Fr.nil n0
  have K0 : Keep h0 h0 [] := Keep.refl _ _
  have pre0 : ∀ t, Steps p.tables e below (s₁.setTop (mkF m 0 #[.val (.int p0), .val (.int p1)] [])) t → Steps p.tables e below (s₁.setTop (entryFrame m #[(.int p0), (.int p1)] 2)) t := fun t k => castTop (ef_rm15 m p0 p1) k
  obtain ⟨fs, hr, hrun, hended, hW, hsame⟩ := X0.leave (v := some (.int (if p0 < p1 then p1 else p0))) (fun h => by rw [Bd.returns] at h; cases h)
  refine ⟨_, _, pre0 _ ?_, hrun, hended, _, _, rfl, ?_, ⟨_, rfl⟩, hW, hsame.mono (by decide) (by decide)⟩
  · show Steps p.tables e below (s₁.setTop (mkF m 0 #[.val (.int p0), .val (.int p1)] [])) _
    refine XS.iloadN X0.here hx rfl (hb hby d15_0) rfl ?_
    refine XS.iloadN X0.here hx rfl (hb hby d15_1) rfl ?_
    refine own_via (s₁.setTop (mkF m 10 #[.val (.int p0), .val (.int p1)] [(.int (if p0 < p1 then p1 else p0))])) (fun k => ?_) ?_
    · by_cases hc2 : p0 < p1
      · show Steps p.tables e below (s₁.setTop (mkF m 2 #[.val (.int p0), .val (.int p1)] [(.int p1), (.int p0)])) _
        refine XS.icmpYes X0.here hx rfl (pc0 := 2) (pc' := 9) rfl (hb hby d15_2) rfl (tlt hc2).1 (by decide) (by decide) ?_
        show Steps p.tables e below (s₁.setTop (mkF m 9 #[.val (.int p0), .val (.int p1)] [])) _
        refine XS.iloadN X0.here hx rfl (hb hby d15_9) rfl ?_
        try simp only [if_pos hc2] at k
        exact k
      · show Steps p.tables e below (s₁.setTop (mkF m 2 #[.val (.int p0), .val (.int p1)] [(.int p1), (.int p0)])) _
        refine XS.icmpNo X0.here hx rfl (hb hby d15_2) rfl (flt hc2).1 ?_
        show Steps p.tables e below (s₁.setTop (mkF m 5 #[.val (.int p0), .val (.int p1)] [])) _
        refine XS.iloadN X0.here hx rfl (hb hby d15_5) rfl ?_
        refine XS.goto X0.here hx rfl (pc0 := 6) (pc' := 10) rfl (hb hby d15_6) (by decide) (by decide) ?_
        try simp only [if_neg hc2] at k
        exact k
    show Steps p.tables e below (s₁.setTop (mkF m 10 #[.val (.int p0), .val (.int p1)] [(.int (if p0 < p1 then p1 else p0))])) _
    exact retI X0 hx Bd.returns (hb hby d15_10) hr
  · show Qrm15 Z p0 p1 h0 n0 _ s₁.heap _
    rw [e0]
    exact ⟨rfl, N0, rfl⟩
theorem d16_0 : decode jdk_29_method_69_code 0 = .ok (.iload_n 0, 1) := by decide +kernel
theorem d16_1 : decode jdk_29_method_69_code 1 = .ok (.iload_n 1, 1) := by decide +kernel
theorem d16_2 : decode jdk_29_method_69_code 2 = .ok (.if_icmp .gt 7, 3) := by decide +kernel
theorem d16_5 : decode jdk_29_method_69_code 5 = .ok (.iload_n 0, 1) := by decide +kernel
theorem d16_6 : decode jdk_29_method_69_code 6 = .ok (.goto 4, 3) := by decide +kernel
theorem d16_9 : decode jdk_29_method_69_code 9 = .ok (.iload_n 1, 1) := by decide +kernel
theorem d16_10 : decode jdk_29_method_69_code 10 = .ok (.ireturn, 1) := by decide +kernel
theorem ef_rm16 (m : MethodId) (p0 : Int32) (p1 : Int32) : entryFrame m #[(.int p0), (.int p1)] 2 = mkF m 0 #[.val (.int p0), .val (.int p1)] [] := by first | (simp [entryFrame, mkF, argsToLocals, Value.category]; done) | rfl
def Qrm16 (Z : State) (p0 : Int32) (p1 : Int32) (h0 : Heap) (n0 : Nat) (v : Option Value) (h : Heap) (L : List Loc) : Prop := v = some (.int (if p1 < p0 then p1 else p0)) ∧ Fr n0 L ∧ h = h0
set_option maxRecDepth 65536 in
set_option maxHeartbeats 40000000 in
theorem rm16 (l : Launch) (Z : State) (A0 : Array Value) (hw : ∀ d ∈ tables_1, d.before A0 Z = true) (ws : List Jvm.Cond) (p0 : Int32) (p1 : Int32) (h0 : Heap) (n0 : Nat) (Z0 : n0 ≤ h0.size) :
    MetFree l (⟨"java/lang/Math", "min", "(II)I"⟩ : MethodName) (head1 (Jvm.Cond.code (⟨"java/lang/Math", "min", "(II)I"⟩ : MethodName) jdk_29_method_69_code 2 (some .int) :: ws) ({ frames := 0, cells := 0, slots := 0, locals := 0 } : Room)) (fun a U => a = #[(.int p0), (.int p1)] ∧ Z.Warmed39 U.vm ∧ U.heap = h0) (fun _ _ _ _ _ => True) (fun _ U o U' => ∃ v L, o = .returned v ∧ Qrm16 Z p0 p1 h0 n0 v U'.heap L ∧ FrameEnd U o U' L ({ frames := 0, cells := 0, slots := 0, locals := 0 } : Room).cells ({ frames := 0, cells := 0, slots := 0, locals := 0 } : Room).slots) := by
  refine MetFree.of_bodySF (Jvm.Free.JP.mathPlain rfl (by decide +kernel)) hisR ?_
  intro p e s m args below meth c s₁ Bd hml0 hP hK
  obtain ⟨rfl, hZ, hh⟩ := hP
  have hx := Bd.exec
  have hby := Bd.bytes
  have hml : c.maxLocals = 2 := hml0
  have hown : s.vm.findClass "java/lang/Math" = some m.cls := findClass_of_methodNamed Bd.named
  have hnm := (name_of_methodNamed Bd.named Bd.method).1
  have X0 : Stand p l e ({ frames := 0, cells := 0, slots := 0, locals := 0 } : Room) s m #[(.int p0), (.int p1)] below meth c s₁ [] 0 0 := Stand.of_body Bd
  have e0 : s₁.heap = h0 := by rw [← hh, Bd.state]; rfl
  have N0 := Fr.nil n0
  have K0 : Keep h0 h0 [] := Keep.refl _ _
  have pre0 : ∀ t, Steps p.tables e below (s₁.setTop (mkF m 0 #[.val (.int p0), .val (.int p1)] [])) t → Steps p.tables e below (s₁.setTop (entryFrame m #[(.int p0), (.int p1)] 2)) t := fun t k => castTop (ef_rm16 m p0 p1) k
  obtain ⟨fs, hr, hrun, hended, hW, hsame⟩ := X0.leave (v := some (.int (if p1 < p0 then p1 else p0))) (fun h => by rw [Bd.returns] at h; cases h)
  refine ⟨_, _, pre0 _ ?_, hrun, hended, _, _, rfl, ?_, ⟨_, rfl⟩, hW, hsame.mono (by decide) (by decide)⟩
  · show Steps p.tables e below (s₁.setTop (mkF m 0 #[.val (.int p0), .val (.int p1)] [])) _
    refine XS.iloadN X0.here hx rfl (hb hby d16_0) rfl ?_
    refine XS.iloadN X0.here hx rfl (hb hby d16_1) rfl ?_
    refine own_via (s₁.setTop (mkF m 10 #[.val (.int p0), .val (.int p1)] [(.int (if p1 < p0 then p1 else p0))])) (fun k => ?_) ?_
    · by_cases hc2 : p1 < p0
      · show Steps p.tables e below (s₁.setTop (mkF m 2 #[.val (.int p0), .val (.int p1)] [(.int p1), (.int p0)])) _
        refine XS.icmpYes X0.here hx rfl (pc0 := 2) (pc' := 9) rfl (hb hby d16_2) rfl (tlt hc2).2.2.1 (by decide) (by decide) ?_
        show Steps p.tables e below (s₁.setTop (mkF m 9 #[.val (.int p0), .val (.int p1)] [])) _
        refine XS.iloadN X0.here hx rfl (hb hby d16_9) rfl ?_
        try simp only [if_pos hc2] at k
        exact k
      · show Steps p.tables e below (s₁.setTop (mkF m 2 #[.val (.int p0), .val (.int p1)] [(.int p1), (.int p0)])) _
        refine XS.icmpNo X0.here hx rfl (hb hby d16_2) rfl (flt hc2).2.2.1 ?_
        show Steps p.tables e below (s₁.setTop (mkF m 5 #[.val (.int p0), .val (.int p1)] [])) _
        refine XS.iloadN X0.here hx rfl (hb hby d16_5) rfl ?_
        refine XS.goto X0.here hx rfl (pc0 := 6) (pc' := 10) rfl (hb hby d16_6) (by decide) (by decide) ?_
        try simp only [if_neg hc2] at k
        exact k
    show Steps p.tables e below (s₁.setTop (mkF m 10 #[.val (.int p0), .val (.int p1)] [(.int (if p1 < p0 then p1 else p0))])) _
    exact retI X0 hx Bd.returns (hb hby d16_10) hr
  · show Qrm16 Z p0 p1 h0 n0 _ s₁.heap _
    rw [e0]
    exact ⟨rfl, N0, rfl⟩
theorem d11_0 : decode jdk_29_method_66_code 0 = .ok (.lload_n 0, 1) := by decide +kernel
theorem d11_1 : decode jdk_29_method_66_code 1 = .ok (.lload_n 2, 1) := by decide +kernel
theorem d11_2 : decode jdk_29_method_66_code 2 = .ok (.lcmp, 1) := by decide +kernel
theorem d11_3 : decode jdk_29_method_66_code 3 = .ok (.ifCond .lt 7, 3) := by decide +kernel
theorem d11_6 : decode jdk_29_method_66_code 6 = .ok (.lload_n 0, 1) := by decide +kernel
theorem d11_7 : decode jdk_29_method_66_code 7 = .ok (.goto 4, 3) := by decide +kernel
theorem d11_10 : decode jdk_29_method_66_code 10 = .ok (.lload_n 2, 1) := by decide +kernel
theorem d11_11 : decode jdk_29_method_66_code 11 = .ok (.lreturn, 1) := by decide +kernel
theorem ef_rm11 (m : MethodId) (q0 : Int64) (q1 : Int64) : entryFrame m #[(.long q0), (.long q1)] 4 = mkF m 0 #[.val (.long q0), .second, .val (.long q1), .second] [] := by first | (simp [entryFrame, mkF, argsToLocals, Value.category]; done) | rfl
def Qrm11 (Z : State) (q0 : Int64) (q1 : Int64) (h0 : Heap) (n0 : Nat) (v : Option Value) (h : Heap) (L : List Loc) : Prop := v = some (.long (if q0 < q1 then q1 else q0)) ∧ Fr n0 L ∧ h = h0
set_option maxRecDepth 65536 in
set_option maxHeartbeats 40000000 in
theorem rm11 (l : Launch) (Z : State) (A0 : Array Value) (hw : ∀ d ∈ tables_1, d.before A0 Z = true) (ws : List Jvm.Cond) (q0 : Int64) (q1 : Int64) (h0 : Heap) (n0 : Nat) (Z0 : n0 ≤ h0.size) :
    MetFree l (⟨"java/lang/Math", "max", "(JJ)J"⟩ : MethodName) (head1 (Jvm.Cond.code (⟨"java/lang/Math", "max", "(JJ)J"⟩ : MethodName) jdk_29_method_66_code 4 (some .long) :: ws) ({ frames := 0, cells := 0, slots := 0, locals := 0 } : Room)) (fun a U => a = #[(.long q0), (.long q1)] ∧ Z.Warmed39 U.vm ∧ U.heap = h0) (fun _ _ _ _ _ => True) (fun _ U o U' => ∃ v L, o = .returned v ∧ Qrm11 Z q0 q1 h0 n0 v U'.heap L ∧ FrameEnd U o U' L ({ frames := 0, cells := 0, slots := 0, locals := 0 } : Room).cells ({ frames := 0, cells := 0, slots := 0, locals := 0 } : Room).slots) := by
  refine MetFree.of_bodySF (Jvm.Free.JP.mathPlain rfl (by decide +kernel)) hisR ?_
  intro p e s m args below meth c s₁ Bd hml0 hP hK
  obtain ⟨rfl, hZ, hh⟩ := hP
  have hx := Bd.exec
  have hby := Bd.bytes
  have hml : c.maxLocals = 4 := hml0
  have hown : s.vm.findClass "java/lang/Math" = some m.cls := findClass_of_methodNamed Bd.named
  have hnm := (name_of_methodNamed Bd.named Bd.method).1
  have X0 : Stand p l e ({ frames := 0, cells := 0, slots := 0, locals := 0 } : Room) s m #[(.long q0), (.long q1)] below meth c s₁ [] 0 0 := Stand.of_body Bd
  have e0 : s₁.heap = h0 := by rw [← hh, Bd.state]; rfl
  have N0 := Fr.nil n0
  have K0 : Keep h0 h0 [] := Keep.refl _ _
  have pre0 : ∀ t, Steps p.tables e below (s₁.setTop (mkF m 0 #[.val (.long q0), .second, .val (.long q1), .second] [])) t → Steps p.tables e below (s₁.setTop (entryFrame m #[(.long q0), (.long q1)] 4)) t := fun t k => castTop (ef_rm11 m q0 q1) k
  obtain ⟨fs, hr, hrun, hended, hW, hsame⟩ := X0.leave (v := some (.long (if q0 < q1 then q1 else q0))) (fun h => by rw [Bd.returns] at h; cases h)
  refine ⟨_, _, pre0 _ ?_, hrun, hended, _, _, rfl, ?_, ⟨_, rfl⟩, hW, hsame.mono (by decide) (by decide)⟩
  · show Steps p.tables e below (s₁.setTop (mkF m 0 #[.val (.long q0), .second, .val (.long q1), .second] [])) _
    refine XS.lloadN X0.here hx rfl (hb hby d11_0) rfl ?_
    refine XS.lloadN X0.here hx rfl (hb hby d11_1) rfl ?_
    refine XS.lcmp X0.here hx rfl (hb hby d11_2) rfl ?_
    refine own_via (s₁.setTop (mkF m 11 #[.val (.long q0), .second, .val (.long q1), .second] [(.long (if q0 < q1 then q1 else q0))])) (fun k => ?_) ?_
    · by_cases hc3 : q0 < q1
      · show Steps p.tables e below (s₁.setTop (mkF m 3 #[.val (.long q0), .second, .val (.long q1), .second] [(.int (lcmpW q0 q1))])) _
        refine XS.ifYes X0.here hx rfl (pc0 := 3) (pc' := 10) rfl (hb hby d11_3) rfl ((if0 _ _).trans (tlt ((lw_lt _ _).mpr hc3)).1) (by decide) (by decide) ?_
        show Steps p.tables e below (s₁.setTop (mkF m 10 #[.val (.long q0), .second, .val (.long q1), .second] [])) _
        refine XS.lloadN X0.here hx rfl (hb hby d11_10) rfl ?_
        try simp only [if_pos hc3] at k
        exact k
      · show Steps p.tables e below (s₁.setTop (mkF m 3 #[.val (.long q0), .second, .val (.long q1), .second] [(.int (lcmpW q0 q1))])) _
        refine XS.ifNo X0.here hx rfl (hb hby d11_3) rfl ((if0 _ _).trans (flt (mt (lw_lt _ _).mp hc3)).1) ?_
        refine XS.lloadN X0.here hx rfl (hb hby d11_6) rfl ?_
        refine XS.goto X0.here hx rfl (pc0 := 7) (pc' := 11) rfl (hb hby d11_7) (by decide) (by decide) ?_
        try simp only [if_neg hc3] at k
        exact k
    show Steps p.tables e below (s₁.setTop (mkF m 11 #[.val (.long q0), .second, .val (.long q1), .second] [(.long (if q0 < q1 then q1 else q0))])) _
    exact own_retJ X0 hx Bd.returns (hb hby d11_11) hr
  · show Qrm11 Z q0 q1 h0 n0 _ s₁.heap _
    rw [e0]
    exact ⟨rfl, N0, rfl⟩
theorem d10_0 : decode jdk_29_method_70_code 0 = .ok (.lload_n 0, 1) := by decide +kernel
theorem d10_1 : decode jdk_29_method_70_code 1 = .ok (.lload_n 2, 1) := by decide +kernel
theorem d10_2 : decode jdk_29_method_70_code 2 = .ok (.lcmp, 1) := by decide +kernel
theorem d10_3 : decode jdk_29_method_70_code 3 = .ok (.ifCond .gt 7, 3) := by decide +kernel
theorem d10_6 : decode jdk_29_method_70_code 6 = .ok (.lload_n 0, 1) := by decide +kernel
theorem d10_7 : decode jdk_29_method_70_code 7 = .ok (.goto 4, 3) := by decide +kernel
theorem d10_10 : decode jdk_29_method_70_code 10 = .ok (.lload_n 2, 1) := by decide +kernel
theorem d10_11 : decode jdk_29_method_70_code 11 = .ok (.lreturn, 1) := by decide +kernel
theorem ef_rm10 (m : MethodId) (q0 : Int64) (q1 : Int64) : entryFrame m #[(.long q0), (.long q1)] 4 = mkF m 0 #[.val (.long q0), .second, .val (.long q1), .second] [] := by first | (simp [entryFrame, mkF, argsToLocals, Value.category]; done) | rfl
def Qrm10 (Z : State) (q0 : Int64) (q1 : Int64) (h0 : Heap) (n0 : Nat) (v : Option Value) (h : Heap) (L : List Loc) : Prop := v = some (.long (if q1 < q0 then q1 else q0)) ∧ Fr n0 L ∧ h = h0
set_option maxRecDepth 65536 in
set_option maxHeartbeats 40000000 in
theorem rm10 (l : Launch) (Z : State) (A0 : Array Value) (hw : ∀ d ∈ tables_1, d.before A0 Z = true) (ws : List Jvm.Cond) (q0 : Int64) (q1 : Int64) (h0 : Heap) (n0 : Nat) (Z0 : n0 ≤ h0.size) :
    MetFree l (⟨"java/lang/Math", "min", "(JJ)J"⟩ : MethodName) (head1 (Jvm.Cond.code (⟨"java/lang/Math", "min", "(JJ)J"⟩ : MethodName) jdk_29_method_70_code 4 (some .long) :: ws) ({ frames := 0, cells := 0, slots := 0, locals := 0 } : Room)) (fun a U => a = #[(.long q0), (.long q1)] ∧ Z.Warmed39 U.vm ∧ U.heap = h0) (fun _ _ _ _ _ => True) (fun _ U o U' => ∃ v L, o = .returned v ∧ Qrm10 Z q0 q1 h0 n0 v U'.heap L ∧ FrameEnd U o U' L ({ frames := 0, cells := 0, slots := 0, locals := 0 } : Room).cells ({ frames := 0, cells := 0, slots := 0, locals := 0 } : Room).slots) := by
  refine MetFree.of_bodySF (Jvm.Free.JP.mathPlain rfl (by decide +kernel)) hisR ?_
  intro p e s m args below meth c s₁ Bd hml0 hP hK
  obtain ⟨rfl, hZ, hh⟩ := hP
  have hx := Bd.exec
  have hby := Bd.bytes
  have hml : c.maxLocals = 4 := hml0
  have hown : s.vm.findClass "java/lang/Math" = some m.cls := findClass_of_methodNamed Bd.named
  have hnm := (name_of_methodNamed Bd.named Bd.method).1
  have X0 : Stand p l e ({ frames := 0, cells := 0, slots := 0, locals := 0 } : Room) s m #[(.long q0), (.long q1)] below meth c s₁ [] 0 0 := Stand.of_body Bd
  have e0 : s₁.heap = h0 := by rw [← hh, Bd.state]; rfl
  have N0 := Fr.nil n0
  have K0 : Keep h0 h0 [] := Keep.refl _ _
  have pre0 : ∀ t, Steps p.tables e below (s₁.setTop (mkF m 0 #[.val (.long q0), .second, .val (.long q1), .second] [])) t → Steps p.tables e below (s₁.setTop (entryFrame m #[(.long q0), (.long q1)] 4)) t := fun t k => castTop (ef_rm10 m q0 q1) k
  obtain ⟨fs, hr, hrun, hended, hW, hsame⟩ := X0.leave (v := some (.long (if q1 < q0 then q1 else q0))) (fun h => by rw [Bd.returns] at h; cases h)
  refine ⟨_, _, pre0 _ ?_, hrun, hended, _, _, rfl, ?_, ⟨_, rfl⟩, hW, hsame.mono (by decide) (by decide)⟩
  · show Steps p.tables e below (s₁.setTop (mkF m 0 #[.val (.long q0), .second, .val (.long q1), .second] [])) _
    refine XS.lloadN X0.here hx rfl (hb hby d10_0) rfl ?_
    refine XS.lloadN X0.here hx rfl (hb hby d10_1) rfl ?_
    refine XS.lcmp X0.here hx rfl (hb hby d10_2) rfl ?_
    refine own_via (s₁.setTop (mkF m 11 #[.val (.long q0), .second, .val (.long q1), .second] [(.long (if q1 < q0 then q1 else q0))])) (fun k => ?_) ?_
    · by_cases hc3 : q1 < q0
      · show Steps p.tables e below (s₁.setTop (mkF m 3 #[.val (.long q0), .second, .val (.long q1), .second] [(.int (lcmpW q0 q1))])) _
        refine XS.ifYes X0.here hx rfl (pc0 := 3) (pc' := 10) rfl (hb hby d10_3) rfl ((if0 _ _).trans (tlt ((lw_gt _ _).mpr hc3)).2.2.1) (by decide) (by decide) ?_
        show Steps p.tables e below (s₁.setTop (mkF m 10 #[.val (.long q0), .second, .val (.long q1), .second] [])) _
        refine XS.lloadN X0.here hx rfl (hb hby d10_10) rfl ?_
        try simp only [if_pos hc3] at k
        exact k
      · show Steps p.tables e below (s₁.setTop (mkF m 3 #[.val (.long q0), .second, .val (.long q1), .second] [(.int (lcmpW q0 q1))])) _
        refine XS.ifNo X0.here hx rfl (hb hby d10_3) rfl ((if0 _ _).trans (flt (mt (lw_gt _ _).mp hc3)).2.2.1) ?_
        refine XS.lloadN X0.here hx rfl (hb hby d10_6) rfl ?_
        refine XS.goto X0.here hx rfl (pc0 := 7) (pc' := 11) rfl (hb hby d10_7) (by decide) (by decide) ?_
        try simp only [if_neg hc3] at k
        exact k
    show Steps p.tables e below (s₁.setTop (mkF m 11 #[.val (.long q0), .second, .val (.long q1), .second] [(.long (if q1 < q0 then q1 else q0))])) _
    exact own_retJ X0 hx Bd.returns (hb hby d10_11) hr
  · show Qrm10 Z q0 q1 h0 n0 _ s₁.heap _
    rw [e0]
    exact ⟨rfl, N0, rfl⟩
def own_nlz (p0 : Int32) : Int32 := ((if (if p0 < (16 : Int32) then p0 else ((p0.toUInt32 >>> ((4 : Int32) &&& 31).toUInt32).toInt32)) < (4 : Int32) then (if p0 < (16 : Int32) then (31 : Int32) else ((31 : Int32) + (-4 : Int32))) else ((if p0 < (16 : Int32) then (31 : Int32) else ((31 : Int32) + (-4 : Int32))) + (-2 : Int32))) - (((if (if p0 < (16 : Int32) then p0 else ((p0.toUInt32 >>> ((4 : Int32) &&& 31).toUInt32).toInt32)) < (4 : Int32) then (if p0 < (16 : Int32) then p0 else ((p0.toUInt32 >>> ((4 : Int32) &&& 31).toUInt32).toInt32)) else (((if p0 < (16 : Int32) then p0 else ((p0.toUInt32 >>> ((4 : Int32) &&& 31).toUInt32).toInt32)).toUInt32 >>> ((2 : Int32) &&& 31).toUInt32).toInt32)).toUInt32 >>> ((1 : Int32) &&& 31).toUInt32).toInt32))
theorem d14_0 : decode jdk_33_method_47_code 0 = .ok (.iload_n 0, 1) := by decide +kernel
theorem d14_1 : decode jdk_33_method_47_code 1 = .ok (.ifCond .gt 14, 3) := by decide +kernel
theorem d14_15 : decode jdk_33_method_47_code 15 = .ok (.bipush 31, 2) := by decide +kernel
theorem d14_17 : decode jdk_33_method_47_code 17 = .ok (.istore_n 1, 1) := by decide +kernel
theorem d14_18 : decode jdk_33_method_47_code 18 = .ok (.iload_n 0, 1) := by decide +kernel
theorem d14_19 : decode jdk_33_method_47_code 19 = .ok (.ldc_w 264, 3) := by decide +kernel
theorem d14_22 : decode jdk_33_method_47_code 22 = .ok (.if_icmp .lt 11, 3) := by decide +kernel
theorem d14_33 : decode jdk_33_method_47_code 33 = .ok (.iload_n 0, 1) := by decide +kernel
theorem d14_34 : decode jdk_33_method_47_code 34 = .ok (.sipush 256, 3) := by decide +kernel
theorem d14_37 : decode jdk_33_method_47_code 37 = .ok (.if_icmp .lt 11, 3) := by decide +kernel
theorem d14_48 : decode jdk_33_method_47_code 48 = .ok (.iload_n 0, 1) := by decide +kernel
theorem d14_49 : decode jdk_33_method_47_code 49 = .ok (.bipush 16, 2) := by decide +kernel
theorem d14_51 : decode jdk_33_method_47_code 51 = .ok (.if_icmp .lt 10, 3) := by decide +kernel
theorem d14_54 : decode jdk_33_method_47_code 54 = .ok (.iinc 1 (-4), 3) := by decide +kernel
theorem d14_57 : decode jdk_33_method_47_code 57 = .ok (.iload_n 0, 1) := by decide +kernel
theorem d14_58 : decode jdk_33_method_47_code 58 = .ok (.iconst 4, 1) := by decide +kernel
theorem d14_59 : decode jdk_33_method_47_code 59 = .ok (.iushr, 1) := by decide +kernel
theorem d14_60 : decode jdk_33_method_47_code 60 = .ok (.istore_n 0, 1) := by decide +kernel
theorem d14_61 : decode jdk_33_method_47_code 61 = .ok (.iload_n 0, 1) := by decide +kernel
theorem d14_62 : decode jdk_33_method_47_code 62 = .ok (.iconst 4, 1) := by decide +kernel
theorem d14_63 : decode jdk_33_method_47_code 63 = .ok (.if_icmp .lt 10, 3) := by decide +kernel
theorem d14_66 : decode jdk_33_method_47_code 66 = .ok (.iinc 1 (-2), 3) := by decide +kernel
theorem d14_69 : decode jdk_33_method_47_code 69 = .ok (.iload_n 0, 1) := by decide +kernel
theorem d14_70 : decode jdk_33_method_47_code 70 = .ok (.iconst 2, 1) := by decide +kernel
theorem d14_71 : decode jdk_33_method_47_code 71 = .ok (.iushr, 1) := by decide +kernel
theorem d14_72 : decode jdk_33_method_47_code 72 = .ok (.istore_n 0, 1) := by decide +kernel
theorem d14_73 : decode jdk_33_method_47_code 73 = .ok (.iload_n 1, 1) := by decide +kernel
theorem d14_74 : decode jdk_33_method_47_code 74 = .ok (.iload_n 0, 1) := by decide +kernel
theorem d14_75 : decode jdk_33_method_47_code 75 = .ok (.iconst 1, 1) := by decide +kernel
theorem d14_76 : decode jdk_33_method_47_code 76 = .ok (.iushr, 1) := by decide +kernel
theorem d14_77 : decode jdk_33_method_47_code 77 = .ok (.isub, 1) := by decide +kernel
theorem d14_78 : decode jdk_33_method_47_code 78 = .ok (.ireturn, 1) := by decide +kernel
theorem pn_14 : plainName "java/lang/Integer" = true := by first | (simp [plainName, overriddenIn]; done) | decide +kernel
theorem ef_rm14 (m : MethodId) (p0 : Int32) : entryFrame m #[(.int p0)] 2 = mkF m 0 #[.val (.int p0), .unset] [] := by first | (simp [entryFrame, mkF, argsToLocals, Value.category]; done) | rfl
def Qrm14 (Z : State) (p0 : Int32) (h0 : Heap) (n0 : Nat) (v : Option Value) (h : Heap) (L : List Loc) : Prop := v = some (.int (own_nlz p0)) ∧ Fr n0 L ∧ h = h0
set_option maxRecDepth 65536 in
set_option maxHeartbeats 40000000 in
theorem rm14 (l : Launch) (Z : State) (A0 : Array Value) (hw : ∀ d ∈ tables_1, d.before A0 Z = true) (ws : List Jvm.Cond) (p0 : Int32) (h0 : Heap) (n0 : Nat) (Z0 : n0 ≤ h0.size) (hs : 0 < p0.toInt ∧ p0.toInt < 256) :
    MetFree l (⟨"java/lang/Integer", "numberOfLeadingZeros", "(I)I"⟩ : MethodName) (head1 (Jvm.Cond.code (⟨"java/lang/Integer", "numberOfLeadingZeros", "(I)I"⟩ : MethodName) jdk_33_method_47_code 2 (some .int) :: ws) ({ frames := 0, cells := 0, slots := 0, locals := 0 } : Room)) (fun a U => a = #[(.int p0)] ∧ Z.Warmed39 U.vm ∧ U.heap = h0) (fun _ _ _ _ _ => True) (fun _ U o U' => ∃ v L, o = .returned v ∧ Qrm14 Z p0 h0 n0 v U'.heap L ∧ FrameEnd U o U' L ({ frames := 0, cells := 0, slots := 0, locals := 0 } : Room).cells ({ frames := 0, cells := 0, slots := 0, locals := 0 } : Room).slots) := by
  refine MetFree.of_bodySF (plainFor_of_name pn_14) hisR ?_
  intro p e s m args below meth c s₁ Bd hml0 hP hK
  obtain ⟨rfl, hZ, hh⟩ := hP
  have hx := Bd.exec
  have hby := Bd.bytes
  have hml : c.maxLocals = 2 := hml0
  have hown : s.vm.findClass "java/lang/Integer" = some m.cls := findClass_of_methodNamed Bd.named
  have hnm := (name_of_methodNamed Bd.named Bd.method).1
  have X0 : Stand p l e ({ frames := 0, cells := 0, slots := 0, locals := 0 } : Room) s m #[(.int p0)] below meth c s₁ [] 0 0 := Stand.of_body Bd
  have e0 : s₁.heap = h0 := by rw [← hh, Bd.state]; rfl
  have N0 := Fr.nil n0
  have K0 : Keep h0 h0 [] := Keep.refl _ _
  have pre0 : ∀ t, Steps p.tables e below (s₁.setTop (mkF m 0 #[.val (.int p0), .unset] [])) t → Steps p.tables e below (s₁.setTop (entryFrame m #[(.int p0)] 2)) t := fun t k => castTop (ef_rm14 m p0) k
  obtain ⟨fs, hr, hrun, hended, hW, hsame⟩ := X0.leave (v := some (.int ((if (if p0 < (16 : Int32) then p0 else ((p0.toUInt32 >>> ((4 : Int32) &&& 31).toUInt32).toInt32)) < (4 : Int32) then (if p0 < (16 : Int32) then (31 : Int32) else ((31 : Int32) + (-4 : Int32))) else ((if p0 < (16 : Int32) then (31 : Int32) else ((31 : Int32) + (-4 : Int32))) + (-2 : Int32))) - (((if (if p0 < (16 : Int32) then p0 else ((p0.toUInt32 >>> ((4 : Int32) &&& 31).toUInt32).toInt32)) < (4 : Int32) then (if p0 < (16 : Int32) then p0 else ((p0.toUInt32 >>> ((4 : Int32) &&& 31).toUInt32).toInt32)) else (((if p0 < (16 : Int32) then p0 else ((p0.toUInt32 >>> ((4 : Int32) &&& 31).toUInt32).toInt32)).toUInt32 >>> ((2 : Int32) &&& 31).toUInt32).toInt32)).toUInt32 >>> ((1 : Int32) &&& 31).toUInt32).toInt32)))) (fun h => by rw [Bd.returns] at h; cases h)
  refine ⟨_, _, pre0 _ ?_, hrun, hended, _, _, rfl, ?_, ⟨_, rfl⟩, hW, hsame.mono (by decide) (by decide)⟩
  · show Steps p.tables e below (s₁.setTop (mkF m 0 #[.val (.int p0), .unset] [])) _
    refine XS.iloadN X0.here hx rfl (hb hby d14_0) rfl ?_
    refine XS.ifYes X0.here hx rfl (pc0 := 1) (pc' := 15) rfl (hb hby d14_1) rfl ((if0 _ _).trans (tlt (own_gt0 hs : (0 : Int32) < p0)).2.2.1) (by decide) (by decide) ?_
    show Steps p.tables e below (s₁.setTop (mkF m 15 #[.val (.int p0), .unset] [])) _
    refine XS.bipush X0.here hx rfl (hb hby d14_15) ?_
    show Steps p.tables e below (s₁.setTop (mkF m 17 #[.val (.int p0), .unset] [(.int (31 : Int32))])) _
    refine XS.istoreN X0.here hx rfl (hb hby d14_17) rfl (l' := #[.val (.int p0), .val (.int (31 : Int32))]) rfl ?_
    refine XS.iloadN X0.here hx rfl (hb hby d14_18) rfl ?_
    refine X0.ldcwInt hx hown (mvT hZ (hw _ (List.mem_of_getElem? (i := 76) rfl))) (g := (mkF m 19 #[.val (.int p0), .val (.int (31 : Int32))] [(.int p0)])) rfl (hb hby d14_19) _ ?_
    show Steps p.tables e below (s₁.setTop (mkF m 22 #[.val (.int p0), .val (.int (31 : Int32))] [(.int (65536 : Int32)), (.int p0)])) _
    refine XS.icmpYes X0.here hx rfl (pc0 := 22) (pc' := 33) rfl (hb hby d14_22) rfl (tlt (own_lt64 hs : p0 < (65536 : Int32))).1 (by decide) (by decide) ?_
    show Steps p.tables e below (s₁.setTop (mkF m 33 #[.val (.int p0), .val (.int (31 : Int32))] [])) _
    refine XS.iloadN X0.here hx rfl (hb hby d14_33) rfl ?_
    refine XS.sipush X0.here hx rfl (hb hby d14_34) ?_
    refine XS.icmpYes X0.here hx rfl (pc0 := 37) (pc' := 48) rfl (hb hby d14_37) rfl (tlt (own_lt256 hs : p0 < (256 : Int32))).1 (by decide) (by decide) ?_
    show Steps p.tables e below (s₁.setTop (mkF m 48 #[.val (.int p0), .val (.int (31 : Int32))] [])) _
    refine XS.iloadN X0.here hx rfl (hb hby d14_48) rfl ?_
    show Steps p.tables e below (s₁.setTop (mkF m 49 #[.val (.int p0), .val (.int (31 : Int32))] [(.int p0)])) _
    refine XS.bipush X0.here hx rfl (hb hby d14_49) ?_
    refine own_via (s₁.setTop (mkF m 61 #[.val (.int (if p0 < (16 : Int32) then p0 else ((p0.toUInt32 >>> ((4 : Int32) &&& 31).toUInt32).toInt32))), .val (.int (if p0 < (16 : Int32) then (31 : Int32) else ((31 : Int32) + (-4 : Int32))))] [])) (fun k => ?_) ?_
    · by_cases hc51 : p0 < (16 : Int32)
      · show Steps p.tables e below (s₁.setTop (mkF m 51 #[.val (.int p0), .val (.int (31 : Int32))] [(.int (16 : Int32)), (.int p0)])) _
        refine XS.icmpYes X0.here hx rfl (pc0 := 51) (pc' := 61) rfl (hb hby d14_51) rfl (tlt hc51).1 (by decide) (by decide) ?_
        try simp only [if_pos hc51] at k
        exact k
      · show Steps p.tables e below (s₁.setTop (mkF m 51 #[.val (.int p0), .val (.int (31 : Int32))] [(.int (16 : Int32)), (.int p0)])) _
        refine XS.icmpNo X0.here hx rfl (hb hby d14_51) rfl (flt hc51).1 ?_
        refine XS.iinc X0.here hx rfl (hb hby d14_54) rfl (l' := #[.val (.int p0), .val (.int ((31 : Int32) + (-4 : Int32)))]) rfl ?_
        refine XS.iloadN X0.here hx rfl (hb hby d14_57) rfl ?_
        show Steps p.tables e below (s₁.setTop (mkF m 58 #[.val (.int p0), .val (.int ((31 : Int32) + (-4 : Int32)))] [(.int p0)])) _
        refine XS.iconst X0.here hx rfl (hb hby d14_58) ?_
        refine XS.iushr X0.here hx rfl (hb hby d14_59) rfl ?_
        refine XS.istoreN X0.here hx rfl (hb hby d14_60) rfl (l' := #[.val (.int ((p0.toUInt32 >>> ((4 : Int32) &&& 31).toUInt32).toInt32)), .val (.int ((31 : Int32) + (-4 : Int32)))]) rfl ?_
        try simp only [if_neg hc51] at k
        exact k
    show Steps p.tables e below (s₁.setTop (mkF m 61 #[.val (.int (if p0 < (16 : Int32) then p0 else ((p0.toUInt32 >>> ((4 : Int32) &&& 31).toUInt32).toInt32))), .val (.int (if p0 < (16 : Int32) then (31 : Int32) else ((31 : Int32) + (-4 : Int32))))] [])) _
    refine XS.iloadN X0.here hx rfl (hb hby d14_61) rfl ?_
    refine XS.iconst X0.here hx rfl (hb hby d14_62) ?_
    refine own_via (s₁.setTop (mkF m 73 #[.val (.int (if (if p0 < (16 : Int32) then p0 else ((p0.toUInt32 >>> ((4 : Int32) &&& 31).toUInt32).toInt32)) < (4 : Int32) then (if p0 < (16 : Int32) then p0 else ((p0.toUInt32 >>> ((4 : Int32) &&& 31).toUInt32).toInt32)) else (((if p0 < (16 : Int32) then p0 else ((p0.toUInt32 >>> ((4 : Int32) &&& 31).toUInt32).toInt32)).toUInt32 >>> ((2 : Int32) &&& 31).toUInt32).toInt32))), .val (.int (if (if p0 < (16 : Int32) then p0 else ((p0.toUInt32 >>> ((4 : Int32) &&& 31).toUInt32).toInt32)) < (4 : Int32) then (if p0 < (16 : Int32) then (31 : Int32) else ((31 : Int32) + (-4 : Int32))) else ((if p0 < (16 : Int32) then (31 : Int32) else ((31 : Int32) + (-4 : Int32))) + (-2 : Int32))))] [])) (fun k => ?_) ?_
    · by_cases hc63 : (if p0 < (16 : Int32) then p0 else ((p0.toUInt32 >>> ((4 : Int32) &&& 31).toUInt32).toInt32)) < (4 : Int32)
      · show Steps p.tables e below (s₁.setTop (mkF m 63 #[.val (.int (if p0 < (16 : Int32) then p0 else ((p0.toUInt32 >>> ((4 : Int32) &&& 31).toUInt32).toInt32))), .val (.int (if p0 < (16 : Int32) then (31 : Int32) else ((31 : Int32) + (-4 : Int32))))] [(.int (4 : Int32)), (.int (if p0 < (16 : Int32) then p0 else ((p0.toUInt32 >>> ((4 : Int32) &&& 31).toUInt32).toInt32)))])) _
        refine XS.icmpYes X0.here hx rfl (pc0 := 63) (pc' := 73) rfl (hb hby d14_63) rfl (tlt hc63).1 (by decide) (by decide) ?_
        try simp only [if_pos hc63] at k
        exact k
      · show Steps p.tables e below (s₁.setTop (mkF m 63 #[.val (.int (if p0 < (16 : Int32) then p0 else ((p0.toUInt32 >>> ((4 : Int32) &&& 31).toUInt32).toInt32))), .val (.int (if p0 < (16 : Int32) then (31 : Int32) else ((31 : Int32) + (-4 : Int32))))] [(.int (4 : Int32)), (.int (if p0 < (16 : Int32) then p0 else ((p0.toUInt32 >>> ((4 : Int32) &&& 31).toUInt32).toInt32)))])) _
        refine XS.icmpNo X0.here hx rfl (hb hby d14_63) rfl (flt hc63).1 ?_
        show Steps p.tables e below (s₁.setTop (mkF m 66 #[.val (.int (if p0 < (16 : Int32) then p0 else ((p0.toUInt32 >>> ((4 : Int32) &&& 31).toUInt32).toInt32))), .val (.int (if p0 < (16 : Int32) then (31 : Int32) else ((31 : Int32) + (-4 : Int32))))] [])) _
        refine XS.iinc X0.here hx rfl (hb hby d14_66) rfl (l' := #[.val (.int (if p0 < (16 : Int32) then p0 else ((p0.toUInt32 >>> ((4 : Int32) &&& 31).toUInt32).toInt32))), .val (.int ((if p0 < (16 : Int32) then (31 : Int32) else ((31 : Int32) + (-4 : Int32))) + (-2 : Int32)))]) rfl ?_
        refine XS.iloadN X0.here hx rfl (hb hby d14_69) rfl ?_
        refine XS.iconst X0.here hx rfl (hb hby d14_70) ?_
        refine XS.iushr X0.here hx rfl (hb hby d14_71) rfl ?_
        show Steps p.tables e below (s₁.setTop (mkF m 72 #[.val (.int (if p0 < (16 : Int32) then p0 else ((p0.toUInt32 >>> ((4 : Int32) &&& 31).toUInt32).toInt32))), .val (.int ((if p0 < (16 : Int32) then (31 : Int32) else ((31 : Int32) + (-4 : Int32))) + (-2 : Int32)))] [(.int (((if p0 < (16 : Int32) then p0 else ((p0.toUInt32 >>> ((4 : Int32) &&& 31).toUInt32).toInt32)).toUInt32 >>> ((2 : Int32) &&& 31).toUInt32).toInt32))])) _
        refine XS.istoreN X0.here hx rfl (hb hby d14_72) rfl (l' := #[.val (.int (((if p0 < (16 : Int32) then p0 else ((p0.toUInt32 >>> ((4 : Int32) &&& 31).toUInt32).toInt32)).toUInt32 >>> ((2 : Int32) &&& 31).toUInt32).toInt32)), .val (.int ((if p0 < (16 : Int32) then (31 : Int32) else ((31 : Int32) + (-4 : Int32))) + (-2 : Int32)))]) rfl ?_
        try simp only [if_neg hc63] at k
        exact k
    show Steps p.tables e below (s₁.setTop (mkF m 73 #[.val (.int (if (if p0 < (16 : Int32) then p0 else ((p0.toUInt32 >>> ((4 : Int32) &&& 31).toUInt32).toInt32)) < (4 : Int32) then (if p0 < (16 : Int32) then p0 else ((p0.toUInt32 >>> ((4 : Int32) &&& 31).toUInt32).toInt32)) else (((if p0 < (16 : Int32) then p0 else ((p0.toUInt32 >>> ((4 : Int32) &&& 31).toUInt32).toInt32)).toUInt32 >>> ((2 : Int32) &&& 31).toUInt32).toInt32))), .val (.int (if (if p0 < (16 : Int32) then p0 else ((p0.toUInt32 >>> ((4 : Int32) &&& 31).toUInt32).toInt32)) < (4 : Int32) then (if p0 < (16 : Int32) then (31 : Int32) else ((31 : Int32) + (-4 : Int32))) else ((if p0 < (16 : Int32) then (31 : Int32) else ((31 : Int32) + (-4 : Int32))) + (-2 : Int32))))] [])) _
    refine XS.iloadN X0.here hx rfl (hb hby d14_73) rfl ?_
    show Steps p.tables e below (s₁.setTop (mkF m 74 #[.val (.int (if (if p0 < (16 : Int32) then p0 else ((p0.toUInt32 >>> ((4 : Int32) &&& 31).toUInt32).toInt32)) < (4 : Int32) then (if p0 < (16 : Int32) then p0 else ((p0.toUInt32 >>> ((4 : Int32) &&& 31).toUInt32).toInt32)) else (((if p0 < (16 : Int32) then p0 else ((p0.toUInt32 >>> ((4 : Int32) &&& 31).toUInt32).toInt32)).toUInt32 >>> ((2 : Int32) &&& 31).toUInt32).toInt32))), .val (.int (if (if p0 < (16 : Int32) then p0 else ((p0.toUInt32 >>> ((4 : Int32) &&& 31).toUInt32).toInt32)) < (4 : Int32) then (if p0 < (16 : Int32) then (31 : Int32) else ((31 : Int32) + (-4 : Int32))) else ((if p0 < (16 : Int32) then (31 : Int32) else ((31 : Int32) + (-4 : Int32))) + (-2 : Int32))))] [(.int (if (if p0 < (16 : Int32) then p0 else ((p0.toUInt32 >>> ((4 : Int32) &&& 31).toUInt32).toInt32)) < (4 : Int32) then (if p0 < (16 : Int32) then (31 : Int32) else ((31 : Int32) + (-4 : Int32))) else ((if p0 < (16 : Int32) then (31 : Int32) else ((31 : Int32) + (-4 : Int32))) + (-2 : Int32))))])) _
    refine XS.iloadN X0.here hx rfl (hb hby d14_74) rfl ?_
    refine XS.iconst X0.here hx rfl (hb hby d14_75) ?_
    refine XS.iushr X0.here hx rfl (hb hby d14_76) rfl ?_
    refine XS.isub X0.here hx rfl (hb hby d14_77) rfl ?_
    show Steps p.tables e below (s₁.setTop (mkF m 78 #[.val (.int (if (if p0 < (16 : Int32) then p0 else ((p0.toUInt32 >>> ((4 : Int32) &&& 31).toUInt32).toInt32)) < (4 : Int32) then (if p0 < (16 : Int32) then p0 else ((p0.toUInt32 >>> ((4 : Int32) &&& 31).toUInt32).toInt32)) else (((if p0 < (16 : Int32) then p0 else ((p0.toUInt32 >>> ((4 : Int32) &&& 31).toUInt32).toInt32)).toUInt32 >>> ((2 : Int32) &&& 31).toUInt32).toInt32))), .val (.int (if (if p0 < (16 : Int32) then p0 else ((p0.toUInt32 >>> ((4 : Int32) &&& 31).toUInt32).toInt32)) < (4 : Int32) then (if p0 < (16 : Int32) then (31 : Int32) else ((31 : Int32) + (-4 : Int32))) else ((if p0 < (16 : Int32) then (31 : Int32) else ((31 : Int32) + (-4 : Int32))) + (-2 : Int32))))] [(.int ((if (if p0 < (16 : Int32) then p0 else ((p0.toUInt32 >>> ((4 : Int32) &&& 31).toUInt32).toInt32)) < (4 : Int32) then (if p0 < (16 : Int32) then (31 : Int32) else ((31 : Int32) + (-4 : Int32))) else ((if p0 < (16 : Int32) then (31 : Int32) else ((31 : Int32) + (-4 : Int32))) + (-2 : Int32))) - (((if (if p0 < (16 : Int32) then p0 else ((p0.toUInt32 >>> ((4 : Int32) &&& 31).toUInt32).toInt32)) < (4 : Int32) then (if p0 < (16 : Int32) then p0 else ((p0.toUInt32 >>> ((4 : Int32) &&& 31).toUInt32).toInt32)) else (((if p0 < (16 : Int32) then p0 else ((p0.toUInt32 >>> ((4 : Int32) &&& 31).toUInt32).toInt32)).toUInt32 >>> ((2 : Int32) &&& 31).toUInt32).toInt32)).toUInt32 >>> ((1 : Int32) &&& 31).toUInt32).toInt32)))])) _
    exact retI X0 hx Bd.returns (hb hby d14_78) hr
  · show Qrm14 Z p0 h0 n0 _ s₁.heap _
    rw [e0]
    exact ⟨rfl, N0, rfl⟩
def own_hob (p0 : Int32) : Int32 := (p0 &&& (((-2147483648 : Int32).toUInt32 >>> ((own_nlz p0) &&& 31).toUInt32).toInt32))
theorem pd_0 : parseMethodDescriptor "(I)I" = some ⟨[.int], some .int⟩ := by decide +kernel
theorem d13_0 : decode jdk_33_method_45_code 0 = .ok (.iload_n 0, 1) := by decide +kernel
theorem d13_1 : decode jdk_33_method_45_code 1 = .ok (.ldc 127, 2) := by decide +kernel
theorem d13_3 : decode jdk_33_method_45_code 3 = .ok (.iload_n 0, 1) := by decide +kernel
theorem d13_4 : decode jdk_33_method_45_code 4 = .ok (.invokestatic 51, 3) := by decide +kernel
theorem d13_7 : decode jdk_33_method_45_code 7 = .ok (.iushr, 1) := by decide +kernel
theorem d13_8 : decode jdk_33_method_45_code 8 = .ok (.iand, 1) := by decide +kernel
theorem d13_9 : decode jdk_33_method_45_code 9 = .ok (.ireturn, 1) := by decide +kernel
theorem pn_13 : plainName "java/lang/Integer" = true := by first | (simp [plainName, overriddenIn]; done) | decide +kernel
theorem ef_rm13 (m : MethodId) (p0 : Int32) : entryFrame m #[(.int p0)] 1 = mkF m 0 #[.val (.int p0)] [] := by first | (simp [entryFrame, mkF, argsToLocals, Value.category]; done) | rfl
def Qrm13 (Z : State) (p0 : Int32) (h0 : Heap) (n0 : Nat) (v : Option Value) (h : Heap) (L : List Loc) : Prop := v = some (.int (own_hob p0)) ∧ Fr n0 L ∧ h = h0
set_option maxRecDepth 65536 in
set_option maxHeartbeats 40000000 in
theorem rm13 (l : Launch) (Z : State) (A0 : Array Value) (hw : ∀ d ∈ tables_1, d.before A0 Z = true) (ws : List Jvm.Cond) (p0 : Int32) (h0 : Heap) (n0 : Nat) (Z0 : n0 ≤ h0.size) (hs : 0 < p0.toInt ∧ p0.toInt < 256) :
    MetFree l (⟨"java/lang/Integer", "highestOneBit", "(I)I"⟩ : MethodName) (head1 (Jvm.Cond.code (⟨"java/lang/Integer", "highestOneBit", "(I)I"⟩ : MethodName) jdk_33_method_45_code 1 (some .int) :: ws) ({ frames := 1, cells := 0, slots := 0, locals := 15 } : Room)) (fun a U => a = #[(.int p0)] ∧ Z.Warmed39 U.vm ∧ U.heap = h0) (fun _ _ _ _ _ => True) (fun _ U o U' => ∃ v L, o = .returned v ∧ Qrm13 Z p0 h0 n0 v U'.heap L ∧ FrameEnd U o U' L ({ frames := 1, cells := 0, slots := 0, locals := 15 } : Room).cells ({ frames := 1, cells := 0, slots := 0, locals := 15 } : Room).slots) := by
  refine MetFree.of_bodySF (plainFor_of_name pn_13) hisR ?_
  intro p e s m args below meth c s₁ Bd hml0 hP hK
  obtain ⟨rfl, hZ, hh⟩ := hP
  have hx := Bd.exec
  have hby := Bd.bytes
  have hml : c.maxLocals = 1 := hml0
  have hown : s.vm.findClass "java/lang/Integer" = some m.cls := findClass_of_methodNamed Bd.named
  have hnm := (name_of_methodNamed Bd.named Bd.method).1
  have X0 : Stand p l e ({ frames := 1, cells := 0, slots := 0, locals := 15 } : Room) s m #[(.int p0)] below meth c s₁ [] 0 0 := Stand.of_body Bd
  have e0 : s₁.heap = h0 := by rw [← hh, Bd.state]; rfl
  have N0 := Fr.nil n0
  have K0 : Keep h0 h0 [] := Keep.refl _ _
  have pre0 : ∀ t, Steps p.tables e below (s₁.setTop (mkF m 0 #[.val (.int p0)] [])) t → Steps p.tables e below (s₁.setTop (entryFrame m #[(.int p0)] 1)) t := fun t k => castTop (ef_rm13 m p0) k
  obtain ⟨_, _, ⟨T1, L1, k1, n1⟩, -, X1, ⟨Lc1, hQ1, l1, y1, z1⟩, st1⟩ := Jvm.LawKit.callS X0 hx (y := (⟨"java/lang/Integer", "numberOfLeadingZeros", "(I)I"⟩ : MethodName)) hown (mvT hZ (hw _ (List.mem_of_getElem? (i := 73) rfl))) (mvT hZ (hw _ (List.mem_of_getElem? (i := 74) rfl))) (mvT hZ (hw _ (List.mem_of_getElem? (i := 70) rfl))) (mvT hZ (hw _ (List.mem_of_getElem? (i := 75) rfl))) (by decide) (backOf (W := 2) (rm14 l Z A0 hw [] p0  h0 n0 Z0 (hs)) hZ (hw _ (List.mem_of_getElem? (i := 75) rfl)) (hw _ (List.mem_of_getElem? (i := 70) rfl)) (by decide) (by decide)) (g := (mkF m 4 #[.val (.int p0)] [(.int p0), (.int (-2147483648 : Int32)), (.int p0)])) rfl (by rw [hml]; rfl) (argsL := [(.int p0)]) (rest := [(.int (-2147483648 : Int32)), (.int p0)]) (lenOf pd_0 rfl) rfl (by show 2 * 0 + _ ≤ _; exact Nat.le_of_eq rfl) (hb hby d13_4) (fun _ _ => ⟨rfl, e0, (by decide : 0 + 0 ≤ _), (by decide : 0 + 0 ≤ _)⟩)
  dsimp only [Pt.U, Pt.locs, Pt.cells, Pt.slots] at X1 l1 y1 z1 st1 hQ1
  subst y1 z1
  obtain ⟨rfl, N1q, eh1⟩ := hQ1
  have N1 : Fr n0 L1 := by rw [l1]; exact Fr.app N0 N1q
  clear l1
  obtain ⟨fs, hr, hrun, hended, hW, hsame⟩ := X1.leave (v := some (.int (p0 &&& (((-2147483648 : Int32).toUInt32 >>> ((own_nlz p0) &&& 31).toUInt32).toInt32)))) (fun h => by rw [Bd.returns] at h; cases h)
  refine ⟨_, _, pre0 _ ?_, hrun, hended, _, _, rfl, ?_, ⟨_, rfl⟩, hW, hsame.mono (by decide) (by decide)⟩
  · show Steps p.tables e below (s₁.setTop (mkF m 0 #[.val (.int p0)] [])) _
    refine XS.iloadN X0.here hx rfl (hb hby d13_0) rfl ?_
    refine X0.ldcInt hx hown (mvT hZ (hw _ (List.mem_of_getElem? (i := 72) rfl))) (g := (mkF m 1 #[.val (.int p0)] [(.int p0)])) rfl (hb hby d13_1) _ ?_
    show Steps p.tables e below (s₁.setTop (mkF m 3 #[.val (.int p0)] [(.int (-2147483648 : Int32)), (.int p0)])) _
    refine XS.iloadN X0.here hx rfl (hb hby d13_3) rfl ?_
    show Steps p.tables e below (s₁.setTop (mkF m 4 #[.val (.int p0)] [(.int p0), (.int (-2147483648 : Int32)), (.int p0)])) _
    refine st1 _ ?_
    show Steps p.tables e below (T1.setTop (mkF m 7 #[.val (.int p0)] [(.int (own_nlz p0)), (.int (-2147483648 : Int32)), (.int p0)])) _
    refine XS.iushr X1.here hx rfl (hb hby d13_7) rfl ?_
    refine XS.iand X1.here hx rfl (hb hby d13_8) rfl ?_
    exact retI X1 hx Bd.returns (hb hby d13_9) hr
  · show Qrm13 Z p0 h0 n0 _ T1.heap _
    rw [eh1]
    exact ⟨rfl, N1, rfl⟩
def own_grow (p0 p1 : Int32) : Int32 := (if (256 : Int32) < (if (p0 * (2 : Int32)) < ((own_hob p1) * (2 : Int32)) then ((own_hob p1) * (2 : Int32)) else (p0 * (2 : Int32))) then (256 : Int32) else (if (p0 * (2 : Int32)) < ((own_hob p1) * (2 : Int32)) then ((own_hob p1) * (2 : Int32)) else (p0 * (2 : Int32))))
theorem pd_1 : parseMethodDescriptor "(II)I" = some ⟨[.int, .int], some .int⟩ := by decide +kernel
theorem d12_0 : decode prog_251_method_4_code 0 = .ok (.iload_n 0, 1) := by decide +kernel
theorem d12_1 : decode prog_251_method_4_code 1 = .ok (.iconst 2, 1) := by decide +kernel
theorem d12_2 : decode prog_251_method_4_code 2 = .ok (.imul, 1) := by decide +kernel
theorem d12_3 : decode prog_251_method_4_code 3 = .ok (.iload_n 1, 1) := by decide +kernel
theorem d12_4 : decode prog_251_method_4_code 4 = .ok (.invokestatic 49, 3) := by decide +kernel
theorem d12_7 : decode prog_251_method_4_code 7 = .ok (.iconst 2, 1) := by decide +kernel
theorem d12_8 : decode prog_251_method_4_code 8 = .ok (.imul, 1) := by decide +kernel
theorem d12_9 : decode prog_251_method_4_code 9 = .ok (.invokestatic 53, 3) := by decide +kernel
theorem d12_12 : decode prog_251_method_4_code 12 = .ok (.sipush 256, 3) := by decide +kernel
theorem d12_15 : decode prog_251_method_4_code 15 = .ok (.invokestatic 59, 3) := by decide +kernel
theorem d12_18 : decode prog_251_method_4_code 18 = .ok (.ireturn, 1) := by decide +kernel
theorem pn_12 : plainName "com/example/wadjet/wadjet/storage/ColumnChunk" = true := by first | (simp [plainName, overriddenIn]; done) | decide +kernel
theorem ef_rm12 (m : MethodId) (p0 : Int32) (p1 : Int32) : entryFrame m #[(.int p0), (.int p1)] 2 = mkF m 0 #[.val (.int p0), .val (.int p1)] [] := by first | (simp [entryFrame, mkF, argsToLocals, Value.category]; done) | rfl
def Qrm12 (Z : State) (p0 : Int32) (p1 : Int32) (h0 : Heap) (n0 : Nat) (v : Option Value) (h : Heap) (L : List Loc) : Prop := v = some (.int (own_grow p0 p1)) ∧ Fr n0 L ∧ h = h0
set_option maxRecDepth 65536 in
set_option maxHeartbeats 40000000 in
theorem rm12 (l : Launch) (Z : State) (A0 : Array Value) (hw : ∀ d ∈ tables_1, d.before A0 Z = true) (ws : List Jvm.Cond) (p0 : Int32) (p1 : Int32) (h0 : Heap) (n0 : Nat) (Z0 : n0 ≤ h0.size) (hs : 0 < p1.toInt ∧ p1.toInt < 256) :
    MetFree l (⟨"com/example/wadjet/wadjet/storage/ColumnChunk", "grownCapacity", "(II)I"⟩ : MethodName) (head1 (Jvm.Cond.code (⟨"com/example/wadjet/wadjet/storage/ColumnChunk", "grownCapacity", "(II)I"⟩ : MethodName) prog_251_method_4_code 2 (some .int) :: ws) ({ frames := 2, cells := 0, slots := 0, locals := 28 } : Room)) (fun a U => a = #[(.int p0), (.int p1)] ∧ Z.Warmed39 U.vm ∧ U.heap = h0) (fun _ _ _ _ _ => True) (fun _ U o U' => ∃ v L, o = .returned v ∧ Qrm12 Z p0 p1 h0 n0 v U'.heap L ∧ FrameEnd U o U' L ({ frames := 2, cells := 0, slots := 0, locals := 28 } : Room).cells ({ frames := 2, cells := 0, slots := 0, locals := 28 } : Room).slots) := by
  refine MetFree.of_bodySF (plainFor_of_name pn_12) hisR ?_
  intro p e s m args below meth c s₁ Bd hml0 hP hK
  obtain ⟨rfl, hZ, hh⟩ := hP
  have hx := Bd.exec
  have hby := Bd.bytes
  have hml : c.maxLocals = 2 := hml0
  have hown : s.vm.findClass "com/example/wadjet/wadjet/storage/ColumnChunk" = some m.cls := findClass_of_methodNamed Bd.named
  have hnm := (name_of_methodNamed Bd.named Bd.method).1
  have X0 : Stand p l e ({ frames := 2, cells := 0, slots := 0, locals := 28 } : Room) s m #[(.int p0), (.int p1)] below meth c s₁ [] 0 0 := Stand.of_body Bd
  have e0 : s₁.heap = h0 := by rw [← hh, Bd.state]; rfl
  have N0 := Fr.nil n0
  have K0 : Keep h0 h0 [] := Keep.refl _ _
  have pre0 : ∀ t, Steps p.tables e below (s₁.setTop (mkF m 0 #[.val (.int p0), .val (.int p1)] [])) t → Steps p.tables e below (s₁.setTop (entryFrame m #[(.int p0), (.int p1)] 2)) t := fun t k => castTop (ef_rm12 m p0 p1) k
  obtain ⟨_, _, ⟨T1, L1, k1, n1⟩, -, X1, ⟨Lc1, hQ1, l1, y1, z1⟩, st1⟩ := Jvm.LawKit.callS X0 hx (y := (⟨"java/lang/Integer", "highestOneBit", "(I)I"⟩ : MethodName)) hown (mvT hZ (hw _ (List.mem_of_getElem? (i := 68) rfl))) (mvT hZ (hw _ (List.mem_of_getElem? (i := 69) rfl))) (mvT hZ (hw _ (List.mem_of_getElem? (i := 70) rfl))) (mvT hZ (hw _ (List.mem_of_getElem? (i := 71) rfl))) (by decide) (backOf (W := 1) (rm13 l Z A0 hw [] p1  h0 n0 Z0 (hs)) hZ (hw _ (List.mem_of_getElem? (i := 71) rfl)) (hw _ (List.mem_of_getElem? (i := 70) rfl)) (by decide) (by decide)) (g := (mkF m 4 #[.val (.int p0), .val (.int p1)] [(.int p1), (.int (p0 * (2 : Int32)))])) rfl (by rw [hml]; rfl) (argsL := [(.int p1)]) (rest := [(.int (p0 * (2 : Int32)))]) (lenOf pd_0 rfl) rfl (by show 2 * 0 + _ ≤ _; exact Nat.le_of_eq rfl) (hb hby d12_4) (fun _ _ => ⟨rfl, e0, (by decide : 0 + 0 ≤ _), (by decide : 0 + 0 ≤ _)⟩)
  dsimp only [Pt.U, Pt.locs, Pt.cells, Pt.slots] at X1 l1 y1 z1 st1 hQ1
  subst y1 z1
  obtain ⟨rfl, N1q, eh1⟩ := hQ1
  have N1 : Fr n0 L1 := by rw [l1]; exact Fr.app N0 N1q
  clear l1
  obtain ⟨_, _, ⟨T2, L2, k2, n2⟩, -, X2, ⟨Lc2, hQ2, l2, y2, z2⟩, st2⟩ := Jvm.LawKit.callS X1 hx (y := (⟨"java/lang/Math", "max", "(II)I"⟩ : MethodName)) hown (mvT hZ (hw _ (List.mem_of_getElem? (i := 77) rfl))) (mvT hZ (hw _ (List.mem_of_getElem? (i := 78) rfl))) (mvT hZ (hw _ (List.mem_of_getElem? (i := 26) rfl))) (mvT hZ (hw _ (List.mem_of_getElem? (i := 79) rfl))) (by decide) (backOf (W := 0) (rm15 l Z A0 hw [] (p0 * (2 : Int32)) ((own_hob p1) * (2 : Int32))  h0 n0 Z0 ) hZ (hw _ (List.mem_of_getElem? (i := 79) rfl)) (hw _ (List.mem_of_getElem? (i := 26) rfl)) (by decide) (by decide)) (g := (mkF m 9 #[.val (.int p0), .val (.int p1)] [(.int ((own_hob p1) * (2 : Int32))), (.int (p0 * (2 : Int32)))])) rfl (by rw [hml]; rfl) (argsL := [(.int (p0 * (2 : Int32))), (.int ((own_hob p1) * (2 : Int32)))]) (rest := []) (lenOf pd_1 rfl) rfl (by show 2 * 0 + _ ≤ _; exact Nat.le_of_eq rfl) (hb hby d12_9) (fun _ _ => ⟨rfl, eh1, (by decide : 0 + 0 ≤ _), (by decide : 0 + 0 ≤ _)⟩)
  dsimp only [Pt.U, Pt.locs, Pt.cells, Pt.slots] at X2 l2 y2 z2 st2 hQ2
  subst y2 z2
  obtain ⟨rfl, N2q, eh2⟩ := hQ2
  have N2 : Fr n0 L2 := by rw [l2]; exact Fr.app N1 N2q
  clear l2
  obtain ⟨_, _, ⟨T3, L3, k3, n3⟩, -, X3, ⟨Lc3, hQ3, l3, y3, z3⟩, st3⟩ := Jvm.LawKit.callS X2 hx (y := (⟨"java/lang/Math", "min", "(II)I"⟩ : MethodName)) hown (mvT hZ (hw _ (List.mem_of_getElem? (i := 80) rfl))) (mvT hZ (hw _ (List.mem_of_getElem? (i := 81) rfl))) (mvT hZ (hw _ (List.mem_of_getElem? (i := 26) rfl))) (mvT hZ (hw _ (List.mem_of_getElem? (i := 82) rfl))) (by decide) (backOf (W := 0) (rm16 l Z A0 hw [] (if (p0 * (2 : Int32)) < ((own_hob p1) * (2 : Int32)) then ((own_hob p1) * (2 : Int32)) else (p0 * (2 : Int32))) (256 : Int32)  h0 n0 Z0 ) hZ (hw _ (List.mem_of_getElem? (i := 82) rfl)) (hw _ (List.mem_of_getElem? (i := 26) rfl)) (by decide) (by decide)) (g := (mkF m 15 #[.val (.int p0), .val (.int p1)] [(.int (256 : Int32)), (.int (if (p0 * (2 : Int32)) < ((own_hob p1) * (2 : Int32)) then ((own_hob p1) * (2 : Int32)) else (p0 * (2 : Int32))))])) rfl (by rw [hml]; rfl) (argsL := [(.int (if (p0 * (2 : Int32)) < ((own_hob p1) * (2 : Int32)) then ((own_hob p1) * (2 : Int32)) else (p0 * (2 : Int32)))), (.int (256 : Int32))]) (rest := []) (lenOf pd_1 rfl) rfl (by show 2 * 0 + _ ≤ _; exact Nat.le_of_eq rfl) (hb hby d12_15) (fun _ _ => ⟨rfl, eh2, (by decide : 0 + 0 ≤ _), (by decide : 0 + 0 ≤ _)⟩)
  dsimp only [Pt.U, Pt.locs, Pt.cells, Pt.slots] at X3 l3 y3 z3 st3 hQ3
  subst y3 z3
  obtain ⟨rfl, N3q, eh3⟩ := hQ3
  have N3 : Fr n0 L3 := by rw [l3]; exact Fr.app N2 N3q
  clear l3
  obtain ⟨fs, hr, hrun, hended, hW, hsame⟩ := X3.leave (v := some (.int (if (256 : Int32) < (if (p0 * (2 : Int32)) < ((own_hob p1) * (2 : Int32)) then ((own_hob p1) * (2 : Int32)) else (p0 * (2 : Int32))) then (256 : Int32) else (if (p0 * (2 : Int32)) < ((own_hob p1) * (2 : Int32)) then ((own_hob p1) * (2 : Int32)) else (p0 * (2 : Int32)))))) (fun h => by rw [Bd.returns] at h; cases h)
  refine ⟨_, _, pre0 _ ?_, hrun, hended, _, _, rfl, ?_, ⟨_, rfl⟩, hW, hsame.mono (by decide) (by decide)⟩
  · show Steps p.tables e below (s₁.setTop (mkF m 0 #[.val (.int p0), .val (.int p1)] [])) _
    refine XS.iloadN X0.here hx rfl (hb hby d12_0) rfl ?_
    refine XS.iconst X0.here hx rfl (hb hby d12_1) ?_
    refine XS.imul X0.here hx rfl (hb hby d12_2) rfl ?_
    show Steps p.tables e below (s₁.setTop (mkF m 3 #[.val (.int p0), .val (.int p1)] [(.int (p0 * (2 : Int32)))])) _
    refine XS.iloadN X0.here hx rfl (hb hby d12_3) rfl ?_
    refine st1 _ ?_
    show Steps p.tables e below (T1.setTop (mkF m 7 #[.val (.int p0), .val (.int p1)] [(.int (own_hob p1)), (.int (p0 * (2 : Int32)))])) _
    refine XS.iconst X1.here hx rfl (hb hby d12_7) ?_
    refine XS.imul X1.here hx rfl (hb hby d12_8) rfl ?_
    show Steps p.tables e below (T1.setTop (mkF m 9 #[.val (.int p0), .val (.int p1)] [(.int ((own_hob p1) * (2 : Int32))), (.int (p0 * (2 : Int32)))])) _
    refine st2 _ ?_
    show Steps p.tables e below (T2.setTop (mkF m 12 #[.val (.int p0), .val (.int p1)] [(.int (if (p0 * (2 : Int32)) < ((own_hob p1) * (2 : Int32)) then ((own_hob p1) * (2 : Int32)) else (p0 * (2 : Int32))))])) _
    refine XS.sipush X2.here hx rfl (hb hby d12_12) ?_
    refine st3 _ ?_
    show Steps p.tables e below (T3.setTop (mkF m 18 #[.val (.int p0), .val (.int p1)] [(.int (if (256 : Int32) < (if (p0 * (2 : Int32)) < ((own_hob p1) * (2 : Int32)) then ((own_hob p1) * (2 : Int32)) else (p0 * (2 : Int32))) then (256 : Int32) else (if (p0 * (2 : Int32)) < ((own_hob p1) * (2 : Int32)) then ((own_hob p1) * (2 : Int32)) else (p0 * (2 : Int32)))))])) _
    exact retI X3 hx Bd.returns (hb hby d12_18) hr
  · show Qrm12 Z p0 p1 h0 n0 _ T3.heap _
    rw [eh3]
    exact ⟨rfl, N3, rfl⟩
theorem d5_0 : decode jdk_29_method_43_code 0 = .ok (.lload_n 0, 1) := by decide +kernel
theorem d5_1 : decode jdk_29_method_43_code 1 = .ok (.l2i, 1) := by decide +kernel
theorem d5_2 : decode jdk_29_method_43_code 2 = .ok (.i2l, 1) := by decide +kernel
theorem d5_3 : decode jdk_29_method_43_code 3 = .ok (.lload_n 0, 1) := by decide +kernel
theorem d5_4 : decode jdk_29_method_43_code 4 = .ok (.lcmp, 1) := by decide +kernel
theorem d5_5 : decode jdk_29_method_43_code 5 = .ok (.ifCond .eq 13, 3) := by decide +kernel
theorem d5_18 : decode jdk_29_method_43_code 18 = .ok (.lload_n 0, 1) := by decide +kernel
theorem d5_19 : decode jdk_29_method_43_code 19 = .ok (.l2i, 1) := by decide +kernel
theorem d5_20 : decode jdk_29_method_43_code 20 = .ok (.ireturn, 1) := by decide +kernel
theorem ef_rm5 (m : MethodId) (q0 : Int64) : entryFrame m #[(.long q0)] 2 = mkF m 0 #[.val (.long q0), .second] [] := by first | (simp [entryFrame, mkF, argsToLocals, Value.category]; done) | rfl
def Qrm5 (Z : State) (q0 : Int64) (h0 : Heap) (n0 : Nat) (v : Option Value) (h : Heap) (L : List Loc) : Prop := v = some (.int (q0.toInt32)) ∧ Fr n0 L ∧ h = h0
set_option maxRecDepth 65536 in
set_option maxHeartbeats 40000000 in
theorem rm5 (l : Launch) (Z : State) (A0 : Array Value) (hw : ∀ d ∈ tables_1, d.before A0 Z = true) (ws : List Jvm.Cond) (q0 : Int64) (h0 : Heap) (n0 : Nat) (Z0 : n0 ≤ h0.size) (hv : (q0.toInt32.toInt64) = q0) :
    MetFree l (⟨"java/lang/Math", "toIntExact", "(J)I"⟩ : MethodName) (head1 (Jvm.Cond.code (⟨"java/lang/Math", "toIntExact", "(J)I"⟩ : MethodName) jdk_29_method_43_code 2 (some .int) :: ws) ({ frames := 0, cells := 0, slots := 0, locals := 0 } : Room)) (fun a U => a = #[(.long q0)] ∧ Z.Warmed39 U.vm ∧ U.heap = h0) (fun _ _ _ _ _ => True) (fun _ U o U' => ∃ v L, o = .returned v ∧ Qrm5 Z q0 h0 n0 v U'.heap L ∧ FrameEnd U o U' L ({ frames := 0, cells := 0, slots := 0, locals := 0 } : Room).cells ({ frames := 0, cells := 0, slots := 0, locals := 0 } : Room).slots) := by
  refine MetFree.of_bodySF (Jvm.Free.JP.mathPlain rfl (by decide +kernel)) hisR ?_
  intro p e s m args below meth c s₁ Bd hml0 hP hK
  obtain ⟨rfl, hZ, hh⟩ := hP
  have hx := Bd.exec
  have hby := Bd.bytes
  have hml : c.maxLocals = 2 := hml0
  have hown : s.vm.findClass "java/lang/Math" = some m.cls := findClass_of_methodNamed Bd.named
  have hnm := (name_of_methodNamed Bd.named Bd.method).1
  have X0 : Stand p l e ({ frames := 0, cells := 0, slots := 0, locals := 0 } : Room) s m #[(.long q0)] below meth c s₁ [] 0 0 := Stand.of_body Bd
  have e0 : s₁.heap = h0 := by rw [← hh, Bd.state]; rfl
  have N0 := Fr.nil n0
  have K0 : Keep h0 h0 [] := Keep.refl _ _
  have pre0 : ∀ t, Steps p.tables e below (s₁.setTop (mkF m 0 #[.val (.long q0), .second] [])) t → Steps p.tables e below (s₁.setTop (entryFrame m #[(.long q0)] 2)) t := fun t k => castTop (ef_rm5 m q0) k
  obtain ⟨fs, hr, hrun, hended, hW, hsame⟩ := X0.leave (v := some (.int (q0.toInt32))) (fun h => by rw [Bd.returns] at h; cases h)
  refine ⟨_, _, pre0 _ ?_, hrun, hended, _, _, rfl, ?_, ⟨_, rfl⟩, hW, hsame.mono (by decide) (by decide)⟩
  · show Steps p.tables e below (s₁.setTop (mkF m 0 #[.val (.long q0), .second] [])) _
    refine XS.lloadN X0.here hx rfl (hb hby d5_0) rfl ?_
    refine XS.l2i X0.here hx rfl (hb hby d5_1) rfl ?_
    refine XS.i2l X0.here hx rfl (hb hby d5_2) rfl ?_
    show Steps p.tables e below (s₁.setTop (mkF m 3 #[.val (.long q0), .second] [(.long ((q0.toInt32).toInt64))])) _
    refine XS.lloadN X0.here hx rfl (hb hby d5_3) rfl ?_
    refine XS.lcmp X0.here hx rfl (hb hby d5_4) rfl ?_
    refine XS.ifYes X0.here hx rfl (pc0 := 5) (pc' := 18) rfl (hb hby d5_5) rfl ((if0 _ _).trans (teq ((lw_eq _ _).mpr (hv : ((q0.toInt32).toInt64) = q0))).1) (by decide) (by decide) ?_
    show Steps p.tables e below (s₁.setTop (mkF m 18 #[.val (.long q0), .second] [])) _
    refine XS.lloadN X0.here hx rfl (hb hby d5_18) rfl ?_
    show Steps p.tables e below (s₁.setTop (mkF m 19 #[.val (.long q0), .second] [(.long q0)])) _
    refine XS.l2i X0.here hx rfl (hb hby d5_19) rfl ?_
    exact retI X0 hx Bd.returns (hb hby d5_20) hr
  · show Qrm5 Z q0 h0 n0 _ s₁.heap _
    rw [e0]
    exact ⟨rfl, N0, rfl⟩
theorem d6_0 : decode prog_257_method_13_code 0 = .ok (.aload_n 0, 1) := by decide +kernel
theorem d6_1 : decode prog_257_method_13_code 1 = .ok (.getfield 7, 3) := by decide +kernel
theorem d6_4 : decode prog_257_method_13_code 4 = .ok (.iconst 1, 1) := by decide +kernel
theorem d6_5 : decode prog_257_method_13_code 5 = .ok (.if_icmp .ne 12, 3) := by decide +kernel
theorem d6_8 : decode prog_257_method_13_code 8 = .ok (.aload_n 0, 1) := by decide +kernel
theorem d6_9 : decode prog_257_method_13_code 9 = .ok (.getfield 13, 3) := by decide +kernel
theorem d6_12 : decode prog_257_method_13_code 12 = .ok (.arraylength, 1) := by decide +kernel
theorem d6_13 : decode prog_257_method_13_code 13 = .ok (.istore_n 1, 1) := by decide +kernel
theorem d6_14 : decode prog_257_method_13_code 14 = .ok (.goto 26, 3) := by decide +kernel
theorem d6_40 : decode prog_257_method_13_code 40 = .ok (.iload_n 1, 1) := by decide +kernel
theorem d6_41 : decode prog_257_method_13_code 41 = .ok (.ireturn, 1) := by decide +kernel
theorem pn_6 : plainName "com/example/wadjet/wadjet/storage/IntegerChunk" = true := by first | (simp [plainName, overriddenIn]; done) | decide +kernel
theorem ef_rmC_1 (m : MethodId) (a0 : Addr) : entryFrame m #[(.ref a0)] 2 = mkF m 0 #[.val (.ref a0), .unset] [] := by first | (simp [entryFrame, mkF, argsToLocals, Value.category]; done) | rfl
def QrmC_1 (Z : State) (a0 : Addr) (nr : Addr) (kn : ClassId) (nn : Int32) (ys : List Int32) (h0 : Heap) (n0 : Nat) (v : Option Value) (h : Heap) (L : List Loc) : Prop := v = some (.int nn) ∧ Fr n0 L ∧ h = h0
set_option maxRecDepth 65536 in
set_option maxHeartbeats 40000000 in
theorem rmC_1 (l : Launch) (Z : State) (A0 : Array Value) (hw : ∀ d ∈ tables_1, d.before A0 Z = true) (ws : List Jvm.Cond) (a0 : Addr) (nr : Addr) (kn : ClassId) (nn : Int32) (ys : List Int32) (h0 : Heap) (n0 : Nat) (Z0 : n0 ≤ h0.size) (F_width_a0 : Fld Z h0 a0 "com/example/wadjet/wadjet/storage/IntegerChunk" "width" "I" (.int (1 : Int32))) (F_narrow_a0 : Fld Z h0 a0 "com/example/wadjet/wadjet/storage/IntegerChunk" "narrow" "[B" (.ref nr)) (V_nr : Arv Z h0 nr kn .byte nn (ys.map Value.int) (.int (0 : Int32))) :
    MetFree l (⟨"com/example/wadjet/wadjet/storage/IntegerChunk", "capacity", "()I"⟩ : MethodName) (head1 (Jvm.Cond.code (⟨"com/example/wadjet/wadjet/storage/IntegerChunk", "capacity", "()I"⟩ : MethodName) prog_257_method_13_code 2 (some .int) :: ws) ({ frames := 0, cells := 0, slots := 0, locals := 0 } : Room)) (fun a U => a = #[(.ref a0)] ∧ Z.Warmed39 U.vm ∧ U.heap = h0) (fun _ _ _ _ _ => True) (fun _ U o U' => ∃ v L, o = .returned v ∧ QrmC_1 Z a0 nr kn nn ys h0 n0 v U'.heap L ∧ FrameEnd U o U' L ({ frames := 0, cells := 0, slots := 0, locals := 0 } : Room).cells ({ frames := 0, cells := 0, slots := 0, locals := 0 } : Room).slots) := by
  refine MetFree.of_bodySF (plainFor_of_name pn_6) hisR ?_
  intro p e s m args below meth c s₁ Bd hml0 hP hK
  obtain ⟨rfl, hZ, hh⟩ := hP
  have hx := Bd.exec
  have hby := Bd.bytes
  have hml : c.maxLocals = 2 := hml0
  have hown : s.vm.findClass "com/example/wadjet/wadjet/storage/IntegerChunk" = some m.cls := findClass_of_methodNamed Bd.named
  have hnm := (name_of_methodNamed Bd.named Bd.method).1
  have X0 : Stand p l e ({ frames := 0, cells := 0, slots := 0, locals := 0 } : Room) s m #[(.ref a0)] below meth c s₁ [] 0 0 := Stand.of_body Bd
  have e0 : s₁.heap = h0 := by rw [← hh, Bd.state]; rfl
  have N0 := Fr.nil n0
  have K0 : Keep h0 h0 [] := Keep.refl _ _
  have pre0 : ∀ t, Steps p.tables e below (s₁.setTop (mkF m 0 #[.val (.ref a0), .unset] [])) t → Steps p.tables e below (s₁.setTop (entryFrame m #[(.ref a0)] 2)) t := fun t k => castTop (ef_rmC_1 m a0) k
  obtain ⟨T1, X1, e1, st1⟩ := getF X0 hx hZ hown (host := "") (Or.inl (hw _ (List.mem_of_getElem? (i := 14) rfl))) Via.refl e0 F_width_a0 (g := (mkF m 1 #[.val (.ref a0), .unset] [(.ref a0)])) rfl rfl (hb hby d6_1)
  obtain ⟨T2, X2, e2, st2⟩ := getF X1 hx hZ hown (host := "") (Or.inl (hw _ (List.mem_of_getElem? (i := 17) rfl))) Via.refl e1 F_narrow_a0 (g := (mkF m 9 #[.val (.ref a0), .unset] [(.ref a0)])) rfl rfl (hb hby d6_9)
  obtain ⟨cl3, Ar3, -, SS3, MM3, -, -⟩ := id V_nr
  obtain ⟨fs, hr, hrun, hended, hW, hsame⟩ := X2.leave (v := some (.int nn)) (fun h => by rw [Bd.returns] at h; cases h)
  refine ⟨_, _, pre0 _ ?_, hrun, hended, _, _, rfl, ?_, ⟨_, rfl⟩, hW, hsame.mono (by decide) (by decide)⟩
  · show Steps p.tables e below (s₁.setTop (mkF m 0 #[.val (.ref a0), .unset] [])) _
    refine XS.aloadN X0.here hx rfl (hb hby d6_0) rfl rfl ?_
    refine st1 _ ?_
    show Steps p.tables e below (T1.setTop (mkF m 4 #[.val (.ref a0), .unset] [(.int (1 : Int32))])) _
    refine XS.iconst X1.here hx rfl (hb hby d6_4) ?_
    show Steps p.tables e below (T1.setTop (mkF m 5 #[.val (.ref a0), .unset] [(.int (1 : Int32)), (.int (1 : Int32))])) _
    refine XS.icmpNo X1.here hx rfl (hb hby d6_5) rfl (teq (by decide : (1 : Int32) = (1 : Int32))).2 ?_
    refine XS.aloadN X1.here hx rfl (hb hby d6_8) rfl rfl ?_
    refine st2 _ ?_
    show Steps p.tables e below (T2.setTop (mkF m 12 #[.val (.ref a0), .unset] [(.ref nr)])) _
    refine X2.arraylength hx (by rw [e2]; exact Ar3.1) (State.isArrayOf_alike hZ.alike Ar3.2.1) (g := (mkF m 12 #[.val (.ref a0), .unset] [(.ref nr)])) rfl rfl (hb hby d6_12) _ ?_
    rw [len_of SS3 MM3]
    show Steps p.tables e below (T2.setTop (mkF m 13 #[.val (.ref a0), .unset] [(.int nn)])) _
    refine XS.istoreN X2.here hx rfl (hb hby d6_13) rfl (l' := #[.val (.ref a0), .val (.int nn)]) rfl ?_
    refine XS.goto X2.here hx rfl (pc0 := 14) (pc' := 40) rfl (hb hby d6_14) (by decide) (by decide) ?_
    show Steps p.tables e below (T2.setTop (mkF m 40 #[.val (.ref a0), .val (.int nn)] [])) _
    refine XS.iloadN X2.here hx rfl (hb hby d6_40) rfl ?_
    exact retI X2 hx Bd.returns (hb hby d6_41) hr
  · show QrmC_1 Z a0 nr kn nn ys h0 n0 _ T2.heap _
    rw [e2]
    exact ⟨rfl, N0, rfl⟩
theorem d7_0 : decode prog_257_method_5_code 0 = .ok (.aload_n 0, 1) := by decide +kernel
theorem d7_1 : decode prog_257_method_5_code 1 = .ok (.getfield 7, 3) := by decide +kernel
theorem d7_4 : decode prog_257_method_5_code 4 = .ok (.iconst 1, 1) := by decide +kernel
theorem d7_5 : decode prog_257_method_5_code 5 = .ok (.if_icmp .ne 23, 3) := by decide +kernel
theorem d7_8 : decode prog_257_method_5_code 8 = .ok (.aload_n 0, 1) := by decide +kernel
theorem d7_9 : decode prog_257_method_5_code 9 = .ok (.getfield 35, 3) := by decide +kernel
theorem d7_12 : decode prog_257_method_5_code 12 = .ok (.aload_n 0, 1) := by decide +kernel
theorem d7_13 : decode prog_257_method_5_code 13 = .ok (.getfield 13, 3) := by decide +kernel
theorem d7_16 : decode prog_257_method_5_code 16 = .ok (.iload_n 1, 1) := by decide +kernel
theorem d7_17 : decode prog_257_method_5_code 17 = .ok (.baload, 1) := by decide +kernel
theorem d7_18 : decode prog_257_method_5_code 18 = .ok (.sipush 255, 3) := by decide +kernel
theorem d7_21 : decode prog_257_method_5_code 21 = .ok (.iand, 1) := by decide +kernel
theorem d7_22 : decode prog_257_method_5_code 22 = .ok (.i2l, 1) := by decide +kernel
theorem d7_23 : decode prog_257_method_5_code 23 = .ok (.ladd, 1) := by decide +kernel
theorem d7_24 : decode prog_257_method_5_code 24 = .ok (.lstore_n 2, 1) := by decide +kernel
theorem d7_25 : decode prog_257_method_5_code 25 = .ok (.goto 35, 3) := by decide +kernel
theorem d7_60 : decode prog_257_method_5_code 60 = .ok (.lload_n 2, 1) := by decide +kernel
theorem d7_61 : decode prog_257_method_5_code 61 = .ok (.lreturn, 1) := by decide +kernel
theorem pn_7 : plainName "com/example/wadjet/wadjet/storage/IntegerChunk" = true := by first | (simp [plainName, overriddenIn]; done) | decide +kernel
theorem ef_rmI_1 (m : MethodId) (a0 : Addr) (p1 : Int32) : entryFrame m #[(.ref a0), (.int p1)] 4 = mkF m 0 #[.val (.ref a0), .val (.int p1), .unset, .unset] [] := by first | (simp [entryFrame, mkF, argsToLocals, Value.category]; done) | rfl
def QrmI_1 (Z : State) (a0 : Addr) (p1 : Int32) (bb : Int64) (nr : Addr) (kn : ClassId) (nn : Int32) (ys : List Int32) (h0 : Heap) (n0 : Nat) (v : Option Value) (h : Heap) (L : List Loc) : Prop := v = some (.long (own_rd (1 : Int32) bb (ys.getD p1.toNatClampNeg 0))) ∧ Fr n0 L ∧ h = h0
set_option maxRecDepth 65536 in
set_option maxHeartbeats 40000000 in
theorem rmI_1 (l : Launch) (Z : State) (A0 : Array Value) (hw : ∀ d ∈ tables_1, d.before A0 Z = true) (ws : List Jvm.Cond) (a0 : Addr) (p1 : Int32) (bb : Int64) (nr : Addr) (kn : ClassId) (nn : Int32) (ys : List Int32) (h0 : Heap) (n0 : Nat) (Z0 : n0 ≤ h0.size) (F_width_a0 : Fld Z h0 a0 "com/example/wadjet/wadjet/storage/IntegerChunk" "width" "I" (.int (1 : Int32))) (F_base_a0 : Fld Z h0 a0 "com/example/wadjet/wadjet/storage/IntegerChunk" "base" "J" (.long bb)) (F_narrow_a0 : Fld Z h0 a0 "com/example/wadjet/wadjet/storage/IntegerChunk" "narrow" "[B" (.ref nr)) (V_nr : Arv Z h0 nr kn .byte nn (ys.map Value.int) (.int (0 : Int32))) (hin : ¬ (p1 < 0) ∧ p1 < nn) :
    MetFree l (⟨"com/example/wadjet/wadjet/storage/IntegerChunk", "integer", "(I)J"⟩ : MethodName) (head1 (Jvm.Cond.code (⟨"com/example/wadjet/wadjet/storage/IntegerChunk", "integer", "(I)J"⟩ : MethodName) prog_257_method_5_code 4 (some .long) :: ws) ({ frames := 0, cells := 0, slots := 0, locals := 0 } : Room)) (fun a U => a = #[(.ref a0), (.int p1)] ∧ Z.Warmed39 U.vm ∧ U.heap = h0) (fun _ _ _ _ _ => True) (fun _ U o U' => ∃ v L, o = .returned v ∧ QrmI_1 Z a0 p1 bb nr kn nn ys h0 n0 v U'.heap L ∧ FrameEnd U o U' L ({ frames := 0, cells := 0, slots := 0, locals := 0 } : Room).cells ({ frames := 0, cells := 0, slots := 0, locals := 0 } : Room).slots) := by
  refine MetFree.of_bodySF (plainFor_of_name pn_7) hisR ?_
  intro p e s m args below meth c s₁ Bd hml0 hP hK
  obtain ⟨rfl, hZ, hh⟩ := hP
  have hx := Bd.exec
  have hby := Bd.bytes
  have hml : c.maxLocals = 4 := hml0
  have hown : s.vm.findClass "com/example/wadjet/wadjet/storage/IntegerChunk" = some m.cls := findClass_of_methodNamed Bd.named
  have hnm := (name_of_methodNamed Bd.named Bd.method).1
  have X0 : Stand p l e ({ frames := 0, cells := 0, slots := 0, locals := 0 } : Room) s m #[(.ref a0), (.int p1)] below meth c s₁ [] 0 0 := Stand.of_body Bd
  have e0 : s₁.heap = h0 := by rw [← hh, Bd.state]; rfl
  have N0 := Fr.nil n0
  have K0 : Keep h0 h0 [] := Keep.refl _ _
  have pre0 : ∀ t, Steps p.tables e below (s₁.setTop (mkF m 0 #[.val (.ref a0), .val (.int p1), .unset, .unset] [])) t → Steps p.tables e below (s₁.setTop (entryFrame m #[(.ref a0), (.int p1)] 4)) t := fun t k => castTop (ef_rmI_1 m a0 p1) k
  obtain ⟨T1, X1, e1, st1⟩ := getF X0 hx hZ hown (host := "") (Or.inl (hw _ (List.mem_of_getElem? (i := 14) rfl))) Via.refl e0 F_width_a0 (g := (mkF m 1 #[.val (.ref a0), .val (.int p1), .unset, .unset] [(.ref a0)])) rfl rfl (hb hby d7_1)
  obtain ⟨T2, X2, e2, st2⟩ := getF X1 hx hZ hown (host := "") (Or.inl (hw _ (List.mem_of_getElem? (i := 30) rfl))) Via.refl e1 F_base_a0 (g := (mkF m 9 #[.val (.ref a0), .val (.int p1), .unset, .unset] [(.ref a0)])) rfl rfl (hb hby d7_9)
  obtain ⟨T3, X3, e3, st3⟩ := getF X2 hx hZ hown (host := "") (Or.inl (hw _ (List.mem_of_getElem? (i := 17) rfl))) Via.refl e2 F_narrow_a0 (g := (mkF m 13 #[.val (.ref a0), .val (.int p1), .unset, .unset] [(.ref a0), (.long bb)])) rfl rfl (hb hby d7_13)
  obtain ⟨cl4, Ar4, -, SS4, MM4, HH4, -⟩ := id V_nr
  have hin4 := inb_of SS4 hin
  have hat4 : cl4.slots[(p1).toNatClampNeg]? = some (.int (ys.getD p1.toNatClampNeg 0)) := HH4.at hin4 (own_mgi ys _)
  obtain ⟨fs, hr, hrun, hended, hW, hsame⟩ := X3.leave (v := some (.long (bb + (((ys.getD p1.toNatClampNeg 0) &&& (255 : Int32)).toInt64)))) (fun h => by rw [Bd.returns] at h; cases h)
  refine ⟨_, _, pre0 _ ?_, hrun, hended, _, _, rfl, ?_, ⟨_, rfl⟩, hW, hsame.mono (by decide) (by decide)⟩
  · show Steps p.tables e below (s₁.setTop (mkF m 0 #[.val (.ref a0), .val (.int p1), .unset, .unset] [])) _
    refine XS.aloadN X0.here hx rfl (hb hby d7_0) rfl rfl ?_
    refine st1 _ ?_
    show Steps p.tables e below (T1.setTop (mkF m 4 #[.val (.ref a0), .val (.int p1), .unset, .unset] [(.int (1 : Int32))])) _
    refine XS.iconst X1.here hx rfl (hb hby d7_4) ?_
    show Steps p.tables e below (T1.setTop (mkF m 5 #[.val (.ref a0), .val (.int p1), .unset, .unset] [(.int (1 : Int32)), (.int (1 : Int32))])) _
    refine XS.icmpNo X1.here hx rfl (hb hby d7_5) rfl (teq (by decide : (1 : Int32) = (1 : Int32))).2 ?_
    refine XS.aloadN X1.here hx rfl (hb hby d7_8) rfl rfl ?_
    refine st2 _ ?_
    show Steps p.tables e below (T2.setTop (mkF m 12 #[.val (.ref a0), .val (.int p1), .unset, .unset] [(.long bb)])) _
    refine XS.aloadN X2.here hx rfl (hb hby d7_12) rfl rfl ?_
    show Steps p.tables e below (T2.setTop (mkF m 13 #[.val (.ref a0), .val (.int p1), .unset, .unset] [(.ref a0), (.long bb)])) _
    refine st3 _ ?_
    show Steps p.tables e below (T3.setTop (mkF m 16 #[.val (.ref a0), .val (.int p1), .unset, .unset] [(.ref nr), (.long bb)])) _
    refine XS.iloadN X3.here hx rfl (hb hby d7_16) rfl ?_
    refine X3.baloadBytes hx (j := p1) (v := (.int (ys.getD p1.toNatClampNeg 0))) (by rw [e3]; exact Ar4.1) (State.isArrayOf_alike hZ.alike Ar4.2.1) Ar4.2.2 hin4 hat4 (g := (mkF m 17 #[.val (.ref a0), .val (.int p1), .unset, .unset] [(.int p1), (.ref nr), (.long bb)])) rfl rfl (hb hby d7_17) _ ?_
    show Steps p.tables e below (T3.setTop (mkF m 18 #[.val (.ref a0), .val (.int p1), .unset, .unset] [(.int (ys.getD p1.toNatClampNeg 0)), (.long bb)])) _
    refine XS.sipush X3.here hx rfl (hb hby d7_18) ?_
    show Steps p.tables e below (T3.setTop (mkF m 21 #[.val (.ref a0), .val (.int p1), .unset, .unset] [(.int (255 : Int32)), (.int (ys.getD p1.toNatClampNeg 0)), (.long bb)])) _
    refine XS.iand X3.here hx rfl (hb hby d7_21) rfl ?_
    refine XS.i2l X3.here hx rfl (hb hby d7_22) rfl ?_
    refine XS.ladd X3.here hx rfl (hb hby d7_23) rfl ?_
    refine XS.lstoreN X3.here hx rfl (hb hby d7_24) rfl (l' := #[.val (.ref a0), .val (.int p1), .val (.long (bb + (((ys.getD p1.toNatClampNeg 0) &&& (255 : Int32)).toInt64))), .second]) rfl ?_
    show Steps p.tables e below (T3.setTop (mkF m 25 #[.val (.ref a0), .val (.int p1), .val (.long (bb + (((ys.getD p1.toNatClampNeg 0) &&& (255 : Int32)).toInt64))), .second] [])) _
    refine XS.goto X3.here hx rfl (pc0 := 25) (pc' := 60) rfl (hb hby d7_25) (by decide) (by decide) ?_
    show Steps p.tables e below (T3.setTop (mkF m 60 #[.val (.ref a0), .val (.int p1), .val (.long (bb + (((ys.getD p1.toNatClampNeg 0) &&& (255 : Int32)).toInt64))), .second] [])) _
    refine XS.lloadN X3.here hx rfl (hb hby d7_60) rfl ?_
    exact own_retJ X3 hx Bd.returns (hb hby d7_61) hr
  · show QrmI_1 Z a0 p1 bb nr kn nn ys h0 n0 _ T3.heap _
    rw [e3]
    exact ⟨by rw [own_rd1], N0, rfl⟩
theorem d18_0 : decode jdk_65_method_121_code 0 = .ok (.iload_n 1, 1) := by decide +kernel
theorem d18_1 : decode jdk_65_method_121_code 1 = .ok (.aload_n 0, 1) := by decide +kernel
theorem d18_2 : decode jdk_65_method_121_code 2 = .ok (.arraylength, 1) := by decide +kernel
theorem d18_3 : decode jdk_65_method_121_code 3 = .ok (.if_icmp .ne 11, 3) := by decide +kernel
theorem d18_14 : decode jdk_65_method_121_code 14 = .ok (.iload_n 1, 1) := by decide +kernel
theorem d18_15 : decode jdk_65_method_121_code 15 = .ok (.newarray .byte, 2) := by decide +kernel
theorem d18_17 : decode jdk_65_method_121_code 17 = .ok (.astore_n 2, 1) := by decide +kernel
theorem d18_18 : decode jdk_65_method_121_code 18 = .ok (.aload_n 0, 1) := by decide +kernel
theorem d18_19 : decode jdk_65_method_121_code 19 = .ok (.iconst 0, 1) := by decide +kernel
theorem d18_20 : decode jdk_65_method_121_code 20 = .ok (.aload_n 2, 1) := by decide +kernel
theorem d18_21 : decode jdk_65_method_121_code 21 = .ok (.iconst 0, 1) := by decide +kernel
theorem d18_22 : decode jdk_65_method_121_code 22 = .ok (.aload_n 0, 1) := by decide +kernel
theorem d18_23 : decode jdk_65_method_121_code 23 = .ok (.arraylength, 1) := by decide +kernel
theorem d18_24 : decode jdk_65_method_121_code 24 = .ok (.iload_n 1, 1) := by decide +kernel
theorem d18_25 : decode jdk_65_method_121_code 25 = .ok (.invokestatic 304, 3) := by decide +kernel
theorem d18_28 : decode jdk_65_method_121_code 28 = .ok (.invokestatic 150, 3) := by decide +kernel
theorem d18_31 : decode jdk_65_method_121_code 31 = .ok (.aload_n 2, 1) := by decide +kernel
theorem d18_32 : decode jdk_65_method_121_code 32 = .ok (.areturn, 1) := by decide +kernel
theorem pn_18 : plainName "java/util/Arrays" = true := by first | (simp [plainName, overriddenIn]; done) | decide +kernel
theorem ef_rmP_1 (m : MethodId) (a0 : Addr) (p1 : Int32) : entryFrame m #[(.ref a0), (.int p1)] 3 = mkF m 0 #[.val (.ref a0), .val (.int p1), .unset] [] := by first | (simp [entryFrame, mkF, argsToLocals, Value.category]; done) | rfl
def QrmP_1 (Z : State) (a0 : Addr) (p1 : Int32) (kn : ClassId) (nn : Int32) (ys : List Int32) (h0 : Heap) (n0 : Nat) (v : Option Value) (h : Heap) (L : List Loc) : Prop := ∃ b : Addr, ∃ kb : ClassId, v = some (.ref b) ∧ Fr n0 L ∧ n0 ≤ b ∧ h0.size ≤ b ∧ Keep h0 h [] ∧ Arv Z h b kb .byte p1 ((own_cp ys p1.toNatClampNeg).map Value.int) (.int (0 : Int32))
set_option maxRecDepth 65536 in
set_option maxHeartbeats 40000000 in
theorem rmP_1 (l : Launch) (Z : State) (A0 : Array Value) (hw : ∀ d ∈ tables_1, d.before A0 Z = true) (ws : List Jvm.Cond) (a0 : Addr) (p1 : Int32) (kn : ClassId) (nn : Int32) (ys : List Int32) (h0 : Heap) (n0 : Nat) (Z0 : n0 ≤ h0.size) (V_a0 : Arv Z h0 a0 kn .byte nn (ys.map Value.int) (.int (0 : Int32))) (hne : ¬ (p1 = nn)) (hle : 0 ≤ nn.toInt ∧ nn.toInt ≤ p1.toInt ∧ p1.toInt ≤ 8) (hlen : ys.length = nn.toNatClampNeg) :
    MetFree l (⟨"java/util/Arrays", "copyOf", "([BI)[B"⟩ : MethodName) (head1 (Jvm.Cond.code (⟨"java/util/Arrays", "copyOf", "([BI)[B"⟩ : MethodName) jdk_65_method_121_code 3 (some (.array .byte)) :: ws) ({ frames := 1, cells := 1, slots := 8, locals := 18 } : Room)) (fun a U => a = #[(.ref a0), (.int p1)] ∧ Z.Warmed39 U.vm ∧ U.heap = h0) (fun _ _ _ _ _ => True) (fun _ U o U' => ∃ v L, o = .returned v ∧ QrmP_1 Z a0 p1 kn nn ys h0 n0 v U'.heap L ∧ FrameEnd U o U' L ({ frames := 1, cells := 1, slots := 8, locals := 18 } : Room).cells ({ frames := 1, cells := 1, slots := 8, locals := 18 } : Room).slots) := by
  refine MetFree.of_bodySF (plainFor_of_name pn_18) hisR ?_
  intro p e s m args below meth c s₁ Bd hml0 hP hK
  obtain ⟨rfl, hZ, hh⟩ := hP
  have hx := Bd.exec
  have hby := Bd.bytes
  have hml : c.maxLocals = 3 := hml0
  have hown : s.vm.findClass "java/util/Arrays" = some m.cls := findClass_of_methodNamed Bd.named
  have hnm := (name_of_methodNamed Bd.named Bd.method).1
  have X0 : Stand p l e ({ frames := 1, cells := 1, slots := 8, locals := 18 } : Room) s m #[(.ref a0), (.int p1)] below meth c s₁ [] 0 0 := Stand.of_body Bd
  have e0 : s₁.heap = h0 := by rw [← hh, Bd.state]; rfl
  have N0 := Fr.nil n0
  have K0 : Keep h0 h0 [] := Keep.refl _ _
  have pre0 : ∀ t, Steps p.tables e below (s₁.setTop (mkF m 0 #[.val (.ref a0), .val (.int p1), .unset] [])) t → Steps p.tables e below (s₁.setTop (entryFrame m #[(.ref a0), (.int p1)] 3)) t := fun t k => castTop (ef_rmP_1 m a0 p1) k
  obtain ⟨cl1, Ar1, -, SS1, MM1, -, -⟩ := id V_a0
  obtain ⟨T2, h2, k2, X2, e2, E2, A2, st2⟩ := newP X0 hx hZ (hw _ (List.mem_of_getElem? (i := 16) rfl)) e0 (g := (mkF m 15 #[.val (.ref a0), .val (.int p1), .unset] [(.int p1)])) rfl (hb hby d18_15) rfl (own_nneg (by omega)) (cap := 8) (by rw [own_tn]; omega) (by decide) (by decide) (by decide)
  obtain ⟨bb, g2⟩ : ∃ z, z = h0.size := ⟨_, rfl⟩
  rw [← g2] at A2 st2
  have ne_a0_bb : a0 ≠ bb := Nat.ne_of_lt (Nat.lt_of_lt_of_le V_a0.lt (Nat.le_of_eq g2.symm))
  have g_bb : n0 ≤ bb := Nat.le_trans Z0 (Nat.le_of_eq g2.symm)
  have sz_bb : h0.size ≤ bb := Nat.le_trans K0.1 (Nat.le_of_eq g2.symm)
  have V_a0 : Arv Z h2 a0 kn .byte nn (ys.map Value.int) (.int (0 : Int32)) := V_a0.ext E2
  have Zh2 : n0 ≤ h2.size := Nat.le_trans Z0 E2.1
  have Kh2 : Keep h0 h2 [] := K0.ext E2
  have V_bb : Arv Z h2 bb k2 .byte p1 [] (.int (0 : Int32)) := Arv.new A2 (own_nneg (by omega))
  have V_bb : Arv Z h2 bb k2 .byte p1 (List.replicate (p1).toNatClampNeg (.int (0 : Int32))) (.int (0 : Int32)) := V_bb.pad (pad_rep [] (.int (0 : Int32)) (p1).toNatClampNeg)
  obtain ⟨cl3, Ar3, -, SS3, MM3, -, -⟩ := id V_a0
  obtain ⟨_, _, ⟨T4, L4, k4, n4⟩, -, X4, ⟨Lc4, hQ4, l4, y4, z4⟩, st4⟩ := Jvm.LawKit.callS X2 hx (y := (⟨"java/lang/Math", "min", "(II)I"⟩ : MethodName)) hown (mvT hZ (hw _ (List.mem_of_getElem? (i := 91) rfl))) (mvT hZ (hw _ (List.mem_of_getElem? (i := 81) rfl))) (mvT hZ (hw _ (List.mem_of_getElem? (i := 26) rfl))) (mvT hZ (hw _ (List.mem_of_getElem? (i := 82) rfl))) (by decide) (backOf (W := 4) (rm16 l Z A0 hw [] nn p1  h2 n0 Zh2 ) hZ (hw _ (List.mem_of_getElem? (i := 82) rfl)) (hw _ (List.mem_of_getElem? (i := 26) rfl)) (by decide) (by decide)) (g := (mkF m 25 #[.val (.ref a0), .val (.int p1), .val (.ref bb)] [(.int p1), (.int nn), (.int (0 : Int32)), (.ref bb), (.int (0 : Int32)), (.ref a0)])) rfl (by rw [hml]; rfl) (argsL := [(.int nn), (.int p1)]) (rest := [(.int (0 : Int32)), (.ref bb), (.int (0 : Int32)), (.ref a0)]) (lenOf pd_1 rfl) rfl (by show 2 * 0 + _ ≤ _; exact Nat.le_of_eq rfl) (hb hby d18_25) (fun _ _ => ⟨rfl, e2, (by decide : 1 + 0 ≤ _), (by decide : 8 + 0 ≤ _)⟩)
  dsimp only [Pt.U, Pt.locs, Pt.cells, Pt.slots] at X4 l4 y4 z4 st4 hQ4
  subst y4 z4
  obtain ⟨rfl, N4q, eh4⟩ := hQ4
  have N4 : Fr n0 L4 := by rw [l4]; exact Fr.app N0 N4q
  clear l4
  obtain ⟨cn, h_cn⟩ : ∃ z : Int32, z = (if p1 < nn then p1 else nn) := ⟨_, rfl⟩
  rcases (own_min (a := nn) (b := p1) hle.2.1 h_cn).symm with rfl
  obtain ⟨T5, h5, L5, X5, e5, N5, Kc5, P5, st5⟩ := cpA X4 hx hZ hown (hw _ (List.mem_of_getElem? (i := 92) rfl)) (hw _ (List.mem_of_getElem? (i := 95) rfl)) (hw _ (List.mem_of_getElem? (i := 93) rfl)) (hw _ (List.mem_of_getElem? (i := 94) rfl)) eh4 V_a0 V_bb (us := ((List.range (nn).toNatClampNeg).map fun i => ((ys.map Value.int)).getD (((0 : Int32)).toNatClampNeg + i) (.int (0 : Int32)))) (Or.inl ⟨rfl, rfl⟩) (by decide) (by decide) (own_nneg hle.1) (by show 0 + _ ≤ _; omega) (by show 0 + _ ≤ _; rw [own_tn, own_tn]; omega) rfl (by rw [List.length_replicate]; show 0 + _ ≤ _; rw [own_tn, own_tn]; omega) N4 g_bb (g := (mkF m 28 #[.val (.ref a0), .val (.int p1), .val (.ref bb)] [(.int nn), (.int (0 : Int32)), (.ref bb), (.int (0 : Int32)), (.ref a0)])) rfl (by rw [hml]; rfl) rfl (hb hby d18_28) (by decide) (W := 0) (by show 2 * 0 + _ ≤ _; exact Nat.le_of_eq rfl) (by decide)
  have V_a0 : Arv Z h5 a0 kn .byte nn (ys.map Value.int) (.int (0 : Int32)) := V_a0.keep Kc5 (ninS ne_a0_bb nin0)
  have Zh5 : n0 ≤ h5.size := Nat.le_trans Zh2 Kc5.1
  have Kh5 : Keep h0 h5 [] := Kh2.trans Kc5 (allS (Or.inr sz_bb) all0)
  have V_bb : Arv Z h5 bb k2 .byte p1 ((own_cp ys p1.toNatClampNeg).map Value.int) (.int (0 : Int32)) := by rw [← own_copy_eq hlen (by rw [own_tn, own_tn]; omega)]; exact P5
  obtain ⟨fs, hr, hrun, hended, hW, hsame⟩ := X5.leave (v := some (.ref bb)) (fun h => by rw [Bd.returns] at h; cases h)
  refine ⟨_, _, pre0 _ ?_, hrun, hended, _, _, rfl, ?_, ⟨_, rfl⟩, hW, hsame.mono (by decide) (by decide)⟩
  · show Steps p.tables e below (s₁.setTop (mkF m 0 #[.val (.ref a0), .val (.int p1), .unset] [])) _
    refine XS.iloadN X0.here hx rfl (hb hby d18_0) rfl ?_
    refine XS.aloadN X0.here hx rfl (hb hby d18_1) rfl rfl ?_
    refine X0.arraylength hx (by rw [e0]; exact Ar1.1) (State.isArrayOf_alike hZ.alike Ar1.2.1) (g := (mkF m 2 #[.val (.ref a0), .val (.int p1), .unset] [(.ref a0), (.int p1)])) rfl rfl (hb hby d18_2) _ ?_
    rw [len_of SS1 MM1]
    show Steps p.tables e below (s₁.setTop (mkF m 3 #[.val (.ref a0), .val (.int p1), .unset] [(.int nn), (.int p1)])) _
    refine XS.icmpYes X0.here hx rfl (pc0 := 3) (pc' := 14) rfl (hb hby d18_3) rfl (feq (hne : ¬ (p1 = nn))).2 (by decide) (by decide) ?_
    show Steps p.tables e below (s₁.setTop (mkF m 14 #[.val (.ref a0), .val (.int p1), .unset] [])) _
    refine XS.iloadN X0.here hx rfl (hb hby d18_14) rfl ?_
    refine st2 _ ?_
    show Steps p.tables e below (T2.setTop (mkF m 17 #[.val (.ref a0), .val (.int p1), .unset] [(.ref bb)])) _
    refine XS.astoreN X2.here hx rfl (hb hby d18_17) rfl rfl (l' := #[.val (.ref a0), .val (.int p1), .val (.ref bb)]) rfl ?_
    show Steps p.tables e below (T2.setTop (mkF m 18 #[.val (.ref a0), .val (.int p1), .val (.ref bb)] [])) _
    refine XS.aloadN X2.here hx rfl (hb hby d18_18) rfl rfl ?_
    refine XS.iconst X2.here hx rfl (hb hby d18_19) ?_
    refine XS.aloadN X2.here hx rfl (hb hby d18_20) rfl rfl ?_
    refine XS.iconst X2.here hx rfl (hb hby d18_21) ?_
    show Steps p.tables e below (T2.setTop (mkF m 22 #[.val (.ref a0), .val (.int p1), .val (.ref bb)] [(.int (0 : Int32)), (.ref bb), (.int (0 : Int32)), (.ref a0)])) _
    refine XS.aloadN X2.here hx rfl (hb hby d18_22) rfl rfl ?_
    refine X2.arraylength hx (by rw [e2]; exact Ar3.1) (State.isArrayOf_alike hZ.alike Ar3.2.1) (g := (mkF m 23 #[.val (.ref a0), .val (.int p1), .val (.ref bb)] [(.ref a0), (.int (0 : Int32)), (.ref bb), (.int (0 : Int32)), (.ref a0)])) rfl rfl (hb hby d18_23) _ ?_
    rw [len_of SS3 MM3]
    show Steps p.tables e below (T2.setTop (mkF m 24 #[.val (.ref a0), .val (.int p1), .val (.ref bb)] [(.int nn), (.int (0 : Int32)), (.ref bb), (.int (0 : Int32)), (.ref a0)])) _
    refine XS.iloadN X2.here hx rfl (hb hby d18_24) rfl ?_
    refine st4 _ ?_
    show Steps p.tables e below (T4.setTop (mkF m 28 #[.val (.ref a0), .val (.int p1), .val (.ref bb)] [(.int (if p1 < nn then p1 else nn)), (.int (0 : Int32)), (.ref bb), (.int (0 : Int32)), (.ref a0)])) _
    rw [← h_cn]
    show Steps p.tables e below (T4.setTop (mkF m 28 #[.val (.ref a0), .val (.int p1), .val (.ref bb)] [(.int nn), (.int (0 : Int32)), (.ref bb), (.int (0 : Int32)), (.ref a0)])) _
    refine st5 _ ?_
    show Steps p.tables e below (T5.setTop (mkF m 31 #[.val (.ref a0), .val (.int p1), .val (.ref bb)] [])) _
    refine XS.aloadN X5.here hx rfl (hb hby d18_31) rfl rfl ?_
    exact own_retR X5 hx Bd.returns rfl rfl rfl (hb hby d18_32) hr
  · show QrmP_1 Z a0 p1 kn nn ys h0 n0 _ T5.heap _
    rw [e5]
    exact ⟨bb, k2, rfl, N5, g_bb, sz_bb, Kh5, V_bb⟩
theorem pd_2 : parseMethodDescriptor "([BI)[B" = some ⟨[(.array .byte), .int], some (.array .byte)⟩ := by decide +kernel
theorem d17_0 : decode prog_257_method_14_code 0 = .ok (.aload_n 0, 1) := by decide +kernel
theorem d17_1 : decode prog_257_method_14_code 1 = .ok (.getfield 7, 3) := by decide +kernel
theorem d17_4 : decode prog_257_method_14_code 4 = .ok (.iconst 1, 1) := by decide +kernel
theorem d17_5 : decode prog_257_method_14_code 5 = .ok (.if_icmp .ne 18, 3) := by decide +kernel
theorem d17_8 : decode prog_257_method_14_code 8 = .ok (.aload_n 0, 1) := by decide +kernel
theorem d17_9 : decode prog_257_method_14_code 9 = .ok (.aload_n 0, 1) := by decide +kernel
theorem d17_10 : decode prog_257_method_14_code 10 = .ok (.getfield 13, 3) := by decide +kernel
theorem d17_13 : decode prog_257_method_14_code 13 = .ok (.iload_n 1, 1) := by decide +kernel
theorem d17_14 : decode prog_257_method_14_code 14 = .ok (.invokestatic 100, 3) := by decide +kernel
theorem d17_17 : decode prog_257_method_14_code 17 = .ok (.putfield 13, 3) := by decide +kernel
theorem d17_20 : decode prog_257_method_14_code 20 = .ok (.goto 38, 3) := by decide +kernel
theorem d17_58 : decode prog_257_method_14_code 58 = .ok (.return_, 1) := by decide +kernel
theorem pn_17 : plainName "com/example/wadjet/wadjet/storage/IntegerChunk" = true := by first | (simp [plainName, overriddenIn]; done) | decide +kernel
theorem ef_rmR_1 (m : MethodId) (a0 : Addr) (p1 : Int32) : entryFrame m #[(.ref a0), (.int p1)] 2 = mkF m 0 #[.val (.ref a0), .val (.int p1)] [] := by first | (simp [entryFrame, mkF, argsToLocals, Value.category]; done) | rfl
def QrmR_1 (Z : State) (a0 : Addr) (p1 : Int32) (u_base : Value) (u_based : Value) (u_middle : Value) (u_wide : Value) (u_nulls : Value) (nr : Addr) (kn : ClassId) (nn : Int32) (ys : List Int32) (h0 : Heap) (n0 : Nat) (v : Option Value) (h : Heap) (L : List Loc) : Prop := ∃ b : Addr, ∃ kb : ClassId, v = none ∧ Fr n0 L ∧ (n0 ≤ b ∧ h0.size ≤ b) ∧ Keep h0 h [a0] ∧ Exa Z h a0 "com/example/wadjet/wadjet/storage/IntegerChunk" ∧ Fld Z h a0 "com/example/wadjet/wadjet/storage/IntegerChunk" "width" "I" (.int (1 : Int32)) ∧ Fld Z h a0 "com/example/wadjet/wadjet/storage/IntegerChunk" "base" "J" u_base ∧ Fld Z h a0 "com/example/wadjet/wadjet/storage/IntegerChunk" "based" "Z" u_based ∧ Fld Z h a0 "com/example/wadjet/wadjet/storage/IntegerChunk" "narrow" "[B" (.ref b) ∧ Fld Z h a0 "com/example/wadjet/wadjet/storage/IntegerChunk" "middle" "[C" u_middle ∧ Fld Z h a0 "com/example/wadjet/wadjet/storage/IntegerChunk" "wide" "[I" u_wide ∧ Fld Z h a0 "com/example/wadjet/wadjet/storage/IntegerChunk" "nulls" "[J" u_nulls ∧ Arv Z h b kb .byte p1 ((own_cp ys p1.toNatClampNeg).map Value.int) (.int (0 : Int32))
set_option maxRecDepth 65536 in
set_option maxHeartbeats 40000000 in
theorem rmR_1 (l : Launch) (Z : State) (A0 : Array Value) (hw : ∀ d ∈ tables_1, d.before A0 Z = true) (ws : List Jvm.Cond) (a0 : Addr) (p1 : Int32) (u_base : Value) (u_based : Value) (u_middle : Value) (u_wide : Value) (u_nulls : Value) (nr : Addr) (kn : ClassId) (nn : Int32) (ys : List Int32) (h0 : Heap) (n0 : Nat) (Z0 : n0 ≤ h0.size) (E_a0 : Exa Z h0 a0 "com/example/wadjet/wadjet/storage/IntegerChunk") (F_width_a0 : Fld Z h0 a0 "com/example/wadjet/wadjet/storage/IntegerChunk" "width" "I" (.int (1 : Int32))) (F_base_a0 : Fld Z h0 a0 "com/example/wadjet/wadjet/storage/IntegerChunk" "base" "J" u_base) (F_based_a0 : Fld Z h0 a0 "com/example/wadjet/wadjet/storage/IntegerChunk" "based" "Z" u_based) (F_narrow_a0 : Fld Z h0 a0 "com/example/wadjet/wadjet/storage/IntegerChunk" "narrow" "[B" (.ref nr)) (F_middle_a0 : Fld Z h0 a0 "com/example/wadjet/wadjet/storage/IntegerChunk" "middle" "[C" u_middle) (F_wide_a0 : Fld Z h0 a0 "com/example/wadjet/wadjet/storage/IntegerChunk" "wide" "[I" u_wide) (F_nulls_a0 : Fld Z h0 a0 "com/example/wadjet/wadjet/storage/IntegerChunk" "nulls" "[J" u_nulls) (V_nr : Arv Z h0 nr kn .byte nn (ys.map Value.int) (.int (0 : Int32))) (g_a0 : n0 ≤ a0) (ne_nr_a0 : nr ≠ a0) (hne : ¬ (p1 = nn)) (hle : 0 ≤ nn.toInt ∧ nn.toInt ≤ p1.toInt ∧ p1.toInt ≤ 8) (hlen : ys.length = nn.toNatClampNeg) :
    MetFree l (⟨"com/example/wadjet/wadjet/storage/IntegerChunk", "resize", "(I)V"⟩ : MethodName) (head1 (Jvm.Cond.code (⟨"com/example/wadjet/wadjet/storage/IntegerChunk", "resize", "(I)V"⟩ : MethodName) prog_257_method_14_code 2 none :: ws) ({ frames := 2, cells := 1, slots := 8, locals := 33 } : Room)) (fun a U => a = #[(.ref a0), (.int p1)] ∧ Z.Warmed39 U.vm ∧ U.heap = h0) (fun _ _ _ _ _ => True) (fun _ U o U' => ∃ v L, o = .returned v ∧ QrmR_1 Z a0 p1 u_base u_based u_middle u_wide u_nulls nr kn nn ys h0 n0 v U'.heap L ∧ FrameEnd U o U' L ({ frames := 2, cells := 1, slots := 8, locals := 33 } : Room).cells ({ frames := 2, cells := 1, slots := 8, locals := 33 } : Room).slots) := by
  refine MetFree.of_bodySF (plainFor_of_name pn_17) hisR ?_
  intro p e s m args below meth c s₁ Bd hml0 hP hK
  obtain ⟨rfl, hZ, hh⟩ := hP
  have hx := Bd.exec
  have hby := Bd.bytes
  have hml : c.maxLocals = 2 := hml0
  have hown : s.vm.findClass "com/example/wadjet/wadjet/storage/IntegerChunk" = some m.cls := findClass_of_methodNamed Bd.named
  have hnm := (name_of_methodNamed Bd.named Bd.method).1
  have X0 : Stand p l e ({ frames := 2, cells := 1, slots := 8, locals := 33 } : Room) s m #[(.ref a0), (.int p1)] below meth c s₁ [] 0 0 := Stand.of_body Bd
  have e0 : s₁.heap = h0 := by rw [← hh, Bd.state]; rfl
  have N0 := Fr.nil n0
  have K0 : Keep h0 h0 [a0] := Keep.refl _ _
  have pre0 : ∀ t, Steps p.tables e below (s₁.setTop (mkF m 0 #[.val (.ref a0), .val (.int p1)] [])) t → Steps p.tables e below (s₁.setTop (entryFrame m #[(.ref a0), (.int p1)] 2)) t := fun t k => castTop (ef_rmR_1 m a0 p1) k
  obtain ⟨T1, X1, e1, st1⟩ := getF X0 hx hZ hown (host := "") (Or.inl (hw _ (List.mem_of_getElem? (i := 14) rfl))) Via.refl e0 F_width_a0 (g := (mkF m 1 #[.val (.ref a0), .val (.int p1)] [(.ref a0)])) rfl rfl (hb hby d17_1)
  obtain ⟨T2, X2, e2, st2⟩ := getF X1 hx hZ hown (host := "") (Or.inl (hw _ (List.mem_of_getElem? (i := 17) rfl))) Via.refl e1 F_narrow_a0 (g := (mkF m 10 #[.val (.ref a0), .val (.int p1)] [(.ref a0), (.ref a0)])) rfl rfl (hb hby d17_10)
  obtain ⟨_, _, ⟨T3, L3, k3, n3⟩, -, X3, ⟨Lc3, hQ3, l3, y3, z3⟩, st3⟩ := Jvm.LawKit.callS X2 hx (y := (⟨"java/util/Arrays", "copyOf", "([BI)[B"⟩ : MethodName)) hown (mvT hZ (hw _ (List.mem_of_getElem? (i := 87) rfl))) (mvT hZ (hw _ (List.mem_of_getElem? (i := 88) rfl))) (mvT hZ (hw _ (List.mem_of_getElem? (i := 89) rfl))) (mvT hZ (hw _ (List.mem_of_getElem? (i := 90) rfl))) (by decide) (backOf (W := 1) (rmP_1 l Z A0 hw [] nr p1 kn nn ys h0 n0 Z0 V_nr (hne) (hle) (hlen)) hZ (hw _ (List.mem_of_getElem? (i := 90) rfl)) (hw _ (List.mem_of_getElem? (i := 89) rfl)) (by decide) (by decide)) (g := (mkF m 14 #[.val (.ref a0), .val (.int p1)] [(.int p1), (.ref nr), (.ref a0)])) rfl (by rw [hml]; rfl) (argsL := [(.ref nr), (.int p1)]) (rest := [(.ref a0)]) (lenOf pd_2 rfl) rfl (by show 2 * 0 + _ ≤ _; exact Nat.le_of_eq rfl) (hb hby d17_14) (fun _ _ => ⟨rfl, e2, (by decide : 0 + 1 ≤ _), (by decide : 0 + 8 ≤ _)⟩)
  dsimp only [Pt.U, Pt.locs, Pt.cells, Pt.slots] at X3 l3 y3 z3 st3 hQ3
  subst y3 z3
  obtain ⟨b3, kb3, rfl, N3q, gb3, sb3, Kc3, P3_0⟩ := hQ3
  have N3 : Fr n0 L3 := by rw [l3]; exact Fr.app N0 N3q
  clear l3
  have ne_a0_b3 : a0 ≠ b3 := Nat.ne_of_lt (Nat.lt_of_lt_of_le E_a0.lt sb3)
  have ne_nr_b3 : nr ≠ b3 := Nat.ne_of_lt (Nat.lt_of_lt_of_le V_nr.lt sb3)
  have sz_b3 : h0.size ≤ b3 := Nat.le_trans K0.1 sb3
  have E_a0 : Exa Z T3.heap a0 "com/example/wadjet/wadjet/storage/IntegerChunk" := E_a0.keep Kc3
  have F_width_a0 : Fld Z T3.heap a0 "com/example/wadjet/wadjet/storage/IntegerChunk" "width" "I" (.int (1 : Int32)) := F_width_a0.keep Kc3 nin0
  have F_base_a0 : Fld Z T3.heap a0 "com/example/wadjet/wadjet/storage/IntegerChunk" "base" "J" u_base := F_base_a0.keep Kc3 nin0
  have F_based_a0 : Fld Z T3.heap a0 "com/example/wadjet/wadjet/storage/IntegerChunk" "based" "Z" u_based := F_based_a0.keep Kc3 nin0
  have F_narrow_a0 : Fld Z T3.heap a0 "com/example/wadjet/wadjet/storage/IntegerChunk" "narrow" "[B" (.ref nr) := F_narrow_a0.keep Kc3 nin0
  have F_middle_a0 : Fld Z T3.heap a0 "com/example/wadjet/wadjet/storage/IntegerChunk" "middle" "[C" u_middle := F_middle_a0.keep Kc3 nin0
  have F_wide_a0 : Fld Z T3.heap a0 "com/example/wadjet/wadjet/storage/IntegerChunk" "wide" "[I" u_wide := F_wide_a0.keep Kc3 nin0
  have F_nulls_a0 : Fld Z T3.heap a0 "com/example/wadjet/wadjet/storage/IntegerChunk" "nulls" "[J" u_nulls := F_nulls_a0.keep Kc3 nin0
  have V_nr : Arv Z T3.heap nr kn .byte nn (ys.map Value.int) (.int (0 : Int32)) := V_nr.keep Kc3 nin0
  have ZT3_heap : n0 ≤ T3.heap.size := Nat.le_trans Z0 Kc3.1
  have KT3_heap : Keep h0 T3.heap [a0] := K0.trans Kc3 all0
  have V_b3 : Arv Z T3.heap b3 kb3 .byte p1 ((own_cp ys p1.toNatClampNeg).map Value.int) (.int (0 : Int32)) := P3_0
  obtain ⟨T4, h4, X4, e4, W4, st4⟩ := putF X3 hx hZ hown (host := "") (Or.inl (hw _ (List.mem_of_getElem? (i := 17) rfl))) Via.refl rfl F_narrow_a0 E_a0 (Or.inl (hw _ (List.mem_of_getElem? (i := 18) rfl))) (hw _ (List.mem_of_getElem? (i := 1) rfl)) (ty := (.array .byte)) (by decide) rfl rfl (g := (mkF m 17 #[.val (.ref a0), .val (.int p1)] [(.ref b3), (.ref a0)])) rfl rfl (hb hby d17_17)
  have F_narrow_a0 : Fld Z h4 a0 "com/example/wadjet/wadjet/storage/IntegerChunk" "narrow" "[B" (.ref b3) := F_narrow_a0.same W4
  have E_a0 : Exa Z h4 a0 "com/example/wadjet/wadjet/storage/IntegerChunk" := E_a0.wr W4
  have F_width_a0 : Fld Z h4 a0 "com/example/wadjet/wadjet/storage/IntegerChunk" "width" "I" (.int (1 : Int32)) := F_width_a0.other W4 (Or.inr (slot_ne (Or.inl (hw _ (List.mem_of_getElem? (i := 15) rfl))) (Or.inl (hw _ (List.mem_of_getElem? (i := 18) rfl))) (by decide) (t := .int) (t' := (.array .byte)) (by decide) (by decide)))
  have F_base_a0 : Fld Z h4 a0 "com/example/wadjet/wadjet/storage/IntegerChunk" "base" "J" u_base := F_base_a0.other W4 (Or.inr (slot_ne (Or.inl (hw _ (List.mem_of_getElem? (i := 31) rfl))) (Or.inl (hw _ (List.mem_of_getElem? (i := 18) rfl))) (by decide) (t := .long) (t' := (.array .byte)) (by decide) (by decide)))
  have F_based_a0 : Fld Z h4 a0 "com/example/wadjet/wadjet/storage/IntegerChunk" "based" "Z" u_based := F_based_a0.other W4 (Or.inr (slot_ne (Or.inl (hw _ (List.mem_of_getElem? (i := 29) rfl))) (Or.inl (hw _ (List.mem_of_getElem? (i := 18) rfl))) (by decide) (t := .boolean) (t' := (.array .byte)) (by decide) (by decide)))
  have F_middle_a0 : Fld Z h4 a0 "com/example/wadjet/wadjet/storage/IntegerChunk" "middle" "[C" u_middle := F_middle_a0.other W4 (Or.inr (slot_ne (Or.inl (hw _ (List.mem_of_getElem? (i := 61) rfl))) (Or.inl (hw _ (List.mem_of_getElem? (i := 18) rfl))) (by decide) (t := (.array .char)) (t' := (.array .byte)) (by decide) (by decide)))
  have F_wide_a0 : Fld Z h4 a0 "com/example/wadjet/wadjet/storage/IntegerChunk" "wide" "[I" u_wide := F_wide_a0.other W4 (Or.inr (slot_ne (Or.inl (hw _ (List.mem_of_getElem? (i := 63) rfl))) (Or.inl (hw _ (List.mem_of_getElem? (i := 18) rfl))) (by decide) (t := (.array .int)) (t' := (.array .byte)) (by decide) (by decide)))
  have F_nulls_a0 : Fld Z h4 a0 "com/example/wadjet/wadjet/storage/IntegerChunk" "nulls" "[J" u_nulls := F_nulls_a0.other W4 (Or.inr (slot_ne (Or.inl (hw _ (List.mem_of_getElem? (i := 37) rfl))) (Or.inl (hw _ (List.mem_of_getElem? (i := 18) rfl))) (by decide) (t := (.array .long)) (t' := (.array .byte)) (by decide) (by decide)))
  have V_nr : Arv Z h4 nr kn .byte nn (ys.map Value.int) (.int (0 : Int32)) := V_nr.other W4 ne_nr_a0
  have V_b3 : Arv Z h4 b3 kb3 .byte p1 ((own_cp ys p1.toNatClampNeg).map Value.int) (.int (0 : Int32)) := V_b3.other W4 (Ne.symm ne_a0_b3)
  have Zh4 : n0 ≤ h4.size := Nat.le_trans ZT3_heap (Keep.of_wr W4).1
  have Kh4 : Keep h0 h4 [a0] := KT3_heap.wr W4 (Or.inl (by simp))
  have N4 := Fr.snoc X4 N3 g_a0
  obtain ⟨fs, hr, hrun, hended, hW, hsame⟩ := X4.leave (v := none) (fun _ => rfl)
  refine ⟨_, _, pre0 _ ?_, hrun, hended, _, _, rfl, ?_, ⟨_, rfl⟩, hW, hsame.mono (by decide) (by decide)⟩
  · show Steps p.tables e below (s₁.setTop (mkF m 0 #[.val (.ref a0), .val (.int p1)] [])) _
    refine XS.aloadN X0.here hx rfl (hb hby d17_0) rfl rfl ?_
    refine st1 _ ?_
    show Steps p.tables e below (T1.setTop (mkF m 4 #[.val (.ref a0), .val (.int p1)] [(.int (1 : Int32))])) _
    refine XS.iconst X1.here hx rfl (hb hby d17_4) ?_
    show Steps p.tables e below (T1.setTop (mkF m 5 #[.val (.ref a0), .val (.int p1)] [(.int (1 : Int32)), (.int (1 : Int32))])) _
    refine XS.icmpNo X1.here hx rfl (hb hby d17_5) rfl (teq (by decide : (1 : Int32) = (1 : Int32))).2 ?_
    refine XS.aloadN X1.here hx rfl (hb hby d17_8) rfl rfl ?_
    refine XS.aloadN X1.here hx rfl (hb hby d17_9) rfl rfl ?_
    refine st2 _ ?_
    show Steps p.tables e below (T2.setTop (mkF m 13 #[.val (.ref a0), .val (.int p1)] [(.ref nr), (.ref a0)])) _
    refine XS.iloadN X2.here hx rfl (hb hby d17_13) rfl ?_
    refine st3 _ ?_
    show Steps p.tables e below (T3.setTop (mkF m 17 #[.val (.ref a0), .val (.int p1)] [(.ref b3), (.ref a0)])) _
    refine st4 _ ?_
    show Steps p.tables e below (T4.setTop (mkF m 20 #[.val (.ref a0), .val (.int p1)] [])) _
    refine XS.goto X4.here hx rfl (pc0 := 20) (pc' := 58) rfl (hb hby d17_20) (by decide) (by decide) ?_
    show Steps p.tables e below (T4.setTop (mkF m 58 #[.val (.ref a0), .val (.int p1)] [])) _
    exact X4.returnOut hx Bd.returns (hb hby d17_58) hr
  · show QrmR_1 Z a0 p1 u_base u_based u_middle u_wide u_nulls nr kn nn ys h0 n0 _ T4.heap _
    rw [e4]
    exact ⟨b3, kb3, rfl, N4, ⟨gb3, sz_b3⟩, Kh4, E_a0, F_width_a0, F_base_a0, F_based_a0, F_narrow_a0, F_middle_a0, F_wide_a0, F_nulls_a0, V_b3⟩
theorem d6_17 : decode prog_257_method_13_code 17 = .ok (.aload_n 0, 1) := by decide +kernel
theorem d6_18 : decode prog_257_method_13_code 18 = .ok (.getfield 7, 3) := by decide +kernel
theorem d6_21 : decode prog_257_method_13_code 21 = .ok (.iconst 2, 1) := by decide +kernel
theorem d6_22 : decode prog_257_method_13_code 22 = .ok (.if_icmp .ne 12, 3) := by decide +kernel
theorem d6_25 : decode prog_257_method_13_code 25 = .ok (.aload_n 0, 1) := by decide +kernel
theorem d6_26 : decode prog_257_method_13_code 26 = .ok (.getfield 39, 3) := by decide +kernel
theorem d6_29 : decode prog_257_method_13_code 29 = .ok (.arraylength, 1) := by decide +kernel
theorem d6_30 : decode prog_257_method_13_code 30 = .ok (.istore_n 1, 1) := by decide +kernel
theorem d6_31 : decode prog_257_method_13_code 31 = .ok (.goto 9, 3) := by decide +kernel
theorem ef_rmC_2 (m : MethodId) (a0 : Addr) : entryFrame m #[(.ref a0)] 2 = mkF m 0 #[.val (.ref a0), .unset] [] := by first | (simp [entryFrame, mkF, argsToLocals, Value.category]; done) | rfl
def QrmC_2 (Z : State) (a0 : Addr) (nr : Addr) (kn : ClassId) (nn : Int32) (ys : List Int32) (h0 : Heap) (n0 : Nat) (v : Option Value) (h : Heap) (L : List Loc) : Prop := v = some (.int nn) ∧ Fr n0 L ∧ h = h0
set_option maxRecDepth 65536 in
set_option maxHeartbeats 40000000 in
theorem rmC_2 (l : Launch) (Z : State) (A0 : Array Value) (hw : ∀ d ∈ tables_1, d.before A0 Z = true) (ws : List Jvm.Cond) (a0 : Addr) (nr : Addr) (kn : ClassId) (nn : Int32) (ys : List Int32) (h0 : Heap) (n0 : Nat) (Z0 : n0 ≤ h0.size) (F_width_a0 : Fld Z h0 a0 "com/example/wadjet/wadjet/storage/IntegerChunk" "width" "I" (.int (2 : Int32))) (F_middle_a0 : Fld Z h0 a0 "com/example/wadjet/wadjet/storage/IntegerChunk" "middle" "[C" (.ref nr)) (V_nr : Arv Z h0 nr kn .char nn (ys.map Value.int) (.int (0 : Int32))) :
    MetFree l (⟨"com/example/wadjet/wadjet/storage/IntegerChunk", "capacity", "()I"⟩ : MethodName) (head1 (Jvm.Cond.code (⟨"com/example/wadjet/wadjet/storage/IntegerChunk", "capacity", "()I"⟩ : MethodName) prog_257_method_13_code 2 (some .int) :: ws) ({ frames := 0, cells := 0, slots := 0, locals := 0 } : Room)) (fun a U => a = #[(.ref a0)] ∧ Z.Warmed39 U.vm ∧ U.heap = h0) (fun _ _ _ _ _ => True) (fun _ U o U' => ∃ v L, o = .returned v ∧ QrmC_2 Z a0 nr kn nn ys h0 n0 v U'.heap L ∧ FrameEnd U o U' L ({ frames := 0, cells := 0, slots := 0, locals := 0 } : Room).cells ({ frames := 0, cells := 0, slots := 0, locals := 0 } : Room).slots) := by
  refine MetFree.of_bodySF (plainFor_of_name pn_6) hisR ?_
  intro p e s m args below meth c s₁ Bd hml0 hP hK
  obtain ⟨rfl, hZ, hh⟩ := hP
  have hx := Bd.exec
  have hby := Bd.bytes
  have hml : c.maxLocals = 2 := hml0
  have hown : s.vm.findClass "com/example/wadjet/wadjet/storage/IntegerChunk" = some m.cls := findClass_of_methodNamed Bd.named
  have hnm := (name_of_methodNamed Bd.named Bd.method).1
  have X0 : Stand p l e ({ frames := 0, cells := 0, slots := 0, locals := 0 } : Room) s m #[(.ref a0)] below meth c s₁ [] 0 0 := Stand.of_body Bd
  have e0 : s₁.heap = h0 := by rw [← hh, Bd.state]; rfl
  have N0 := Fr.nil n0
  have K0 : Keep h0 h0 [] := Keep.refl _ _
  have pre0 : ∀ t, Steps p.tables e below (s₁.setTop (mkF m 0 #[.val (.ref a0), .unset] [])) t → Steps p.tables e below (s₁.setTop (entryFrame m #[(.ref a0)] 2)) t := fun t k => castTop (ef_rmC_2 m a0) k
  obtain ⟨T1, X1, e1, st1⟩ := getF X0 hx hZ hown (host := "") (Or.inl (hw _ (List.mem_of_getElem? (i := 14) rfl))) Via.refl e0 F_width_a0 (g := (mkF m 1 #[.val (.ref a0), .unset] [(.ref a0)])) rfl rfl (hb hby d6_1)
  obtain ⟨T2, X2, e2, st2⟩ := getF X1 hx hZ hown (host := "") (Or.inl (hw _ (List.mem_of_getElem? (i := 14) rfl))) Via.refl e1 F_width_a0 (g := (mkF m 18 #[.val (.ref a0), .unset] [(.ref a0)])) rfl rfl (hb hby d6_18)
  obtain ⟨T3, X3, e3, st3⟩ := getF X2 hx hZ hown (host := "") (Or.inl (hw _ (List.mem_of_getElem? (i := 60) rfl))) Via.refl e2 F_middle_a0 (g := (mkF m 26 #[.val (.ref a0), .unset] [(.ref a0)])) rfl rfl (hb hby d6_26)
  obtain ⟨cl4, Ar4, -, SS4, MM4, -, -⟩ := id V_nr
  obtain ⟨fs, hr, hrun, hended, hW, hsame⟩ := X3.leave (v := some (.int nn)) (fun h => by rw [Bd.returns] at h; cases h)
  refine ⟨_, _, pre0 _ ?_, hrun, hended, _, _, rfl, ?_, ⟨_, rfl⟩, hW, hsame.mono (by decide) (by decide)⟩
  · show Steps p.tables e below (s₁.setTop (mkF m 0 #[.val (.ref a0), .unset] [])) _
    refine XS.aloadN X0.here hx rfl (hb hby d6_0) rfl rfl ?_
    refine st1 _ ?_
    show Steps p.tables e below (T1.setTop (mkF m 4 #[.val (.ref a0), .unset] [(.int (2 : Int32))])) _
    refine XS.iconst X1.here hx rfl (hb hby d6_4) ?_
    show Steps p.tables e below (T1.setTop (mkF m 5 #[.val (.ref a0), .unset] [(.int (1 : Int32)), (.int (2 : Int32))])) _
    refine XS.icmpYes X1.here hx rfl (pc0 := 5) (pc' := 17) rfl (hb hby d6_5) rfl (feq (by decide : ¬ ((2 : Int32) = (1 : Int32)))).2 (by decide) (by decide) ?_
    show Steps p.tables e below (T1.setTop (mkF m 17 #[.val (.ref a0), .unset] [])) _
    refine XS.aloadN X1.here hx rfl (hb hby d6_17) rfl rfl ?_
    refine st2 _ ?_
    show Steps p.tables e below (T2.setTop (mkF m 21 #[.val (.ref a0), .unset] [(.int (2 : Int32))])) _
    refine XS.iconst X2.here hx rfl (hb hby d6_21) ?_
    show Steps p.tables e below (T2.setTop (mkF m 22 #[.val (.ref a0), .unset] [(.int (2 : Int32)), (.int (2 : Int32))])) _
    refine XS.icmpNo X2.here hx rfl (hb hby d6_22) rfl (teq (by decide : (2 : Int32) = (2 : Int32))).2 ?_
    refine XS.aloadN X2.here hx rfl (hb hby d6_25) rfl rfl ?_
    refine st3 _ ?_
    show Steps p.tables e below (T3.setTop (mkF m 29 #[.val (.ref a0), .unset] [(.ref nr)])) _
    refine X3.arraylength hx (by rw [e3]; exact Ar4.1) (State.isArrayOf_alike hZ.alike Ar4.2.1) (g := (mkF m 29 #[.val (.ref a0), .unset] [(.ref nr)])) rfl rfl (hb hby d6_29) _ ?_
    rw [len_of SS4 MM4]
    show Steps p.tables e below (T3.setTop (mkF m 30 #[.val (.ref a0), .unset] [(.int nn)])) _
    refine XS.istoreN X3.here hx rfl (hb hby d6_30) rfl (l' := #[.val (.ref a0), .val (.int nn)]) rfl ?_
    refine XS.goto X3.here hx rfl (pc0 := 31) (pc' := 40) rfl (hb hby d6_31) (by decide) (by decide) ?_
    show Steps p.tables e below (T3.setTop (mkF m 40 #[.val (.ref a0), .val (.int nn)] [])) _
    refine XS.iloadN X3.here hx rfl (hb hby d6_40) rfl ?_
    exact retI X3 hx Bd.returns (hb hby d6_41) hr
  · show QrmC_2 Z a0 nr kn nn ys h0 n0 _ T3.heap _
    rw [e3]
    exact ⟨rfl, N0, rfl⟩
theorem d7_28 : decode prog_257_method_5_code 28 = .ok (.aload_n 0, 1) := by decide +kernel
theorem d7_29 : decode prog_257_method_5_code 29 = .ok (.getfield 7, 3) := by decide +kernel
theorem d7_32 : decode prog_257_method_5_code 32 = .ok (.iconst 2, 1) := by decide +kernel
theorem d7_33 : decode prog_257_method_5_code 33 = .ok (.if_icmp .ne 19, 3) := by decide +kernel
theorem d7_36 : decode prog_257_method_5_code 36 = .ok (.aload_n 0, 1) := by decide +kernel
theorem d7_37 : decode prog_257_method_5_code 37 = .ok (.getfield 35, 3) := by decide +kernel
theorem d7_40 : decode prog_257_method_5_code 40 = .ok (.aload_n 0, 1) := by decide +kernel
theorem d7_41 : decode prog_257_method_5_code 41 = .ok (.getfield 39, 3) := by decide +kernel
theorem d7_44 : decode prog_257_method_5_code 44 = .ok (.iload_n 1, 1) := by decide +kernel
theorem d7_45 : decode prog_257_method_5_code 45 = .ok (.caload, 1) := by decide +kernel
theorem d7_46 : decode prog_257_method_5_code 46 = .ok (.i2l, 1) := by decide +kernel
theorem d7_47 : decode prog_257_method_5_code 47 = .ok (.ladd, 1) := by decide +kernel
theorem d7_48 : decode prog_257_method_5_code 48 = .ok (.lstore_n 2, 1) := by decide +kernel
theorem d7_49 : decode prog_257_method_5_code 49 = .ok (.goto 11, 3) := by decide +kernel
theorem ef_rmI_2 (m : MethodId) (a0 : Addr) (p1 : Int32) : entryFrame m #[(.ref a0), (.int p1)] 4 = mkF m 0 #[.val (.ref a0), .val (.int p1), .unset, .unset] [] := by first | (simp [entryFrame, mkF, argsToLocals, Value.category]; done) | rfl
def QrmI_2 (Z : State) (a0 : Addr) (p1 : Int32) (bb : Int64) (nr : Addr) (kn : ClassId) (nn : Int32) (ys : List Int32) (h0 : Heap) (n0 : Nat) (v : Option Value) (h : Heap) (L : List Loc) : Prop := v = some (.long (own_rd (2 : Int32) bb (ys.getD p1.toNatClampNeg 0))) ∧ Fr n0 L ∧ h = h0
set_option maxRecDepth 65536 in
set_option maxHeartbeats 40000000 in
theorem rmI_2 (l : Launch) (Z : State) (A0 : Array Value) (hw : ∀ d ∈ tables_1, d.before A0 Z = true) (ws : List Jvm.Cond) (a0 : Addr) (p1 : Int32) (bb : Int64) (nr : Addr) (kn : ClassId) (nn : Int32) (ys : List Int32) (h0 : Heap) (n0 : Nat) (Z0 : n0 ≤ h0.size) (F_width_a0 : Fld Z h0 a0 "com/example/wadjet/wadjet/storage/IntegerChunk" "width" "I" (.int (2 : Int32))) (F_base_a0 : Fld Z h0 a0 "com/example/wadjet/wadjet/storage/IntegerChunk" "base" "J" (.long bb)) (F_middle_a0 : Fld Z h0 a0 "com/example/wadjet/wadjet/storage/IntegerChunk" "middle" "[C" (.ref nr)) (V_nr : Arv Z h0 nr kn .char nn (ys.map Value.int) (.int (0 : Int32))) (hin : ¬ (p1 < 0) ∧ p1 < nn) :
    MetFree l (⟨"com/example/wadjet/wadjet/storage/IntegerChunk", "integer", "(I)J"⟩ : MethodName) (head1 (Jvm.Cond.code (⟨"com/example/wadjet/wadjet/storage/IntegerChunk", "integer", "(I)J"⟩ : MethodName) prog_257_method_5_code 4 (some .long) :: ws) ({ frames := 0, cells := 0, slots := 0, locals := 0 } : Room)) (fun a U => a = #[(.ref a0), (.int p1)] ∧ Z.Warmed39 U.vm ∧ U.heap = h0) (fun _ _ _ _ _ => True) (fun _ U o U' => ∃ v L, o = .returned v ∧ QrmI_2 Z a0 p1 bb nr kn nn ys h0 n0 v U'.heap L ∧ FrameEnd U o U' L ({ frames := 0, cells := 0, slots := 0, locals := 0 } : Room).cells ({ frames := 0, cells := 0, slots := 0, locals := 0 } : Room).slots) := by
  refine MetFree.of_bodySF (plainFor_of_name pn_7) hisR ?_
  intro p e s m args below meth c s₁ Bd hml0 hP hK
  obtain ⟨rfl, hZ, hh⟩ := hP
  have hx := Bd.exec
  have hby := Bd.bytes
  have hml : c.maxLocals = 4 := hml0
  have hown : s.vm.findClass "com/example/wadjet/wadjet/storage/IntegerChunk" = some m.cls := findClass_of_methodNamed Bd.named
  have hnm := (name_of_methodNamed Bd.named Bd.method).1
  have X0 : Stand p l e ({ frames := 0, cells := 0, slots := 0, locals := 0 } : Room) s m #[(.ref a0), (.int p1)] below meth c s₁ [] 0 0 := Stand.of_body Bd
  have e0 : s₁.heap = h0 := by rw [← hh, Bd.state]; rfl
  have N0 := Fr.nil n0
  have K0 : Keep h0 h0 [] := Keep.refl _ _
  have pre0 : ∀ t, Steps p.tables e below (s₁.setTop (mkF m 0 #[.val (.ref a0), .val (.int p1), .unset, .unset] [])) t → Steps p.tables e below (s₁.setTop (entryFrame m #[(.ref a0), (.int p1)] 4)) t := fun t k => castTop (ef_rmI_2 m a0 p1) k
  obtain ⟨T1, X1, e1, st1⟩ := getF X0 hx hZ hown (host := "") (Or.inl (hw _ (List.mem_of_getElem? (i := 14) rfl))) Via.refl e0 F_width_a0 (g := (mkF m 1 #[.val (.ref a0), .val (.int p1), .unset, .unset] [(.ref a0)])) rfl rfl (hb hby d7_1)
  obtain ⟨T2, X2, e2, st2⟩ := getF X1 hx hZ hown (host := "") (Or.inl (hw _ (List.mem_of_getElem? (i := 14) rfl))) Via.refl e1 F_width_a0 (g := (mkF m 29 #[.val (.ref a0), .val (.int p1), .unset, .unset] [(.ref a0)])) rfl rfl (hb hby d7_29)
  obtain ⟨T3, X3, e3, st3⟩ := getF X2 hx hZ hown (host := "") (Or.inl (hw _ (List.mem_of_getElem? (i := 30) rfl))) Via.refl e2 F_base_a0 (g := (mkF m 37 #[.val (.ref a0), .val (.int p1), .unset, .unset] [(.ref a0)])) rfl rfl (hb hby d7_37)
  obtain ⟨T4, X4, e4, st4⟩ := getF X3 hx hZ hown (host := "") (Or.inl (hw _ (List.mem_of_getElem? (i := 60) rfl))) Via.refl e3 F_middle_a0 (g := (mkF m 41 #[.val (.ref a0), .val (.int p1), .unset, .unset] [(.ref a0), (.long bb)])) rfl rfl (hb hby d7_41)
  obtain ⟨cl5, Ar5, -, SS5, MM5, HH5, -⟩ := id V_nr
  have hin5 := inb_of SS5 hin
  have hat5 : cl5.slots[(p1).toNatClampNeg]? = some (.int (ys.getD p1.toNatClampNeg 0)) := HH5.at hin5 (own_mgi ys _)
  obtain ⟨fs, hr, hrun, hended, hW, hsame⟩ := X4.leave (v := some (.long (bb + ((ys.getD p1.toNatClampNeg 0).toInt64)))) (fun h => by rw [Bd.returns] at h; cases h)
  refine ⟨_, _, pre0 _ ?_, hrun, hended, _, _, rfl, ?_, ⟨_, rfl⟩, hW, hsame.mono (by decide) (by decide)⟩
  · show Steps p.tables e below (s₁.setTop (mkF m 0 #[.val (.ref a0), .val (.int p1), .unset, .unset] [])) _
    refine XS.aloadN X0.here hx rfl (hb hby d7_0) rfl rfl ?_
    refine st1 _ ?_
    show Steps p.tables e below (T1.setTop (mkF m 4 #[.val (.ref a0), .val (.int p1), .unset, .unset] [(.int (2 : Int32))])) _
    refine XS.iconst X1.here hx rfl (hb hby d7_4) ?_
    show Steps p.tables e below (T1.setTop (mkF m 5 #[.val (.ref a0), .val (.int p1), .unset, .unset] [(.int (1 : Int32)), (.int (2 : Int32))])) _
    refine XS.icmpYes X1.here hx rfl (pc0 := 5) (pc' := 28) rfl (hb hby d7_5) rfl (feq (by decide : ¬ ((2 : Int32) = (1 : Int32)))).2 (by decide) (by decide) ?_
    show Steps p.tables e below (T1.setTop (mkF m 28 #[.val (.ref a0), .val (.int p1), .unset, .unset] [])) _
    refine XS.aloadN X1.here hx rfl (hb hby d7_28) rfl rfl ?_
    refine st2 _ ?_
    show Steps p.tables e below (T2.setTop (mkF m 32 #[.val (.ref a0), .val (.int p1), .unset, .unset] [(.int (2 : Int32))])) _
    refine XS.iconst X2.here hx rfl (hb hby d7_32) ?_
    show Steps p.tables e below (T2.setTop (mkF m 33 #[.val (.ref a0), .val (.int p1), .unset, .unset] [(.int (2 : Int32)), (.int (2 : Int32))])) _
    refine XS.icmpNo X2.here hx rfl (hb hby d7_33) rfl (teq (by decide : (2 : Int32) = (2 : Int32))).2 ?_
    refine XS.aloadN X2.here hx rfl (hb hby d7_36) rfl rfl ?_
    refine st3 _ ?_
    show Steps p.tables e below (T3.setTop (mkF m 40 #[.val (.ref a0), .val (.int p1), .unset, .unset] [(.long bb)])) _
    refine XS.aloadN X3.here hx rfl (hb hby d7_40) rfl rfl ?_
    show Steps p.tables e below (T3.setTop (mkF m 41 #[.val (.ref a0), .val (.int p1), .unset, .unset] [(.ref a0), (.long bb)])) _
    refine st4 _ ?_
    show Steps p.tables e below (T4.setTop (mkF m 44 #[.val (.ref a0), .val (.int p1), .unset, .unset] [(.ref nr), (.long bb)])) _
    refine XS.iloadN X4.here hx rfl (hb hby d7_44) rfl ?_
    refine X4.caload hx (j := p1) (v := (.int (ys.getD p1.toNatClampNeg 0))) (by rw [e4]; exact Ar5.1) (State.isArrayOf_alike hZ.alike Ar5.2.1) Ar5.2.2 hin5 hat5 (g := (mkF m 45 #[.val (.ref a0), .val (.int p1), .unset, .unset] [(.int p1), (.ref nr), (.long bb)])) rfl rfl (hb hby d7_45) _ ?_
    show Steps p.tables e below (T4.setTop (mkF m 46 #[.val (.ref a0), .val (.int p1), .unset, .unset] [(.int (ys.getD p1.toNatClampNeg 0)), (.long bb)])) _
    refine XS.i2l X4.here hx rfl (hb hby d7_46) rfl ?_
    show Steps p.tables e below (T4.setTop (mkF m 47 #[.val (.ref a0), .val (.int p1), .unset, .unset] [(.long ((ys.getD p1.toNatClampNeg 0).toInt64)), (.long bb)])) _
    refine XS.ladd X4.here hx rfl (hb hby d7_47) rfl ?_
    refine XS.lstoreN X4.here hx rfl (hb hby d7_48) rfl (l' := #[.val (.ref a0), .val (.int p1), .val (.long (bb + ((ys.getD p1.toNatClampNeg 0).toInt64))), .second]) rfl ?_
    refine XS.goto X4.here hx rfl (pc0 := 49) (pc' := 60) rfl (hb hby d7_49) (by decide) (by decide) ?_
    show Steps p.tables e below (T4.setTop (mkF m 60 #[.val (.ref a0), .val (.int p1), .val (.long (bb + ((ys.getD p1.toNatClampNeg 0).toInt64))), .second] [])) _
    refine XS.lloadN X4.here hx rfl (hb hby d7_60) rfl ?_
    show Steps p.tables e below (T4.setTop (mkF m 61 #[.val (.ref a0), .val (.int p1), .val (.long (bb + ((ys.getD p1.toNatClampNeg 0).toInt64))), .second] [(.long (bb + ((ys.getD p1.toNatClampNeg 0).toInt64)))])) _
    exact own_retJ X4 hx Bd.returns (hb hby d7_61) hr
  · show QrmI_2 Z a0 p1 bb nr kn nn ys h0 n0 _ T4.heap _
    rw [e4]
    exact ⟨by rw [own_rd2], N0, rfl⟩
theorem d20_0 : decode jdk_65_method_125_code 0 = .ok (.iload_n 1, 1) := by decide +kernel
theorem d20_1 : decode jdk_65_method_125_code 1 = .ok (.aload_n 0, 1) := by decide +kernel
theorem d20_2 : decode jdk_65_method_125_code 2 = .ok (.arraylength, 1) := by decide +kernel
theorem d20_3 : decode jdk_65_method_125_code 3 = .ok (.if_icmp .ne 11, 3) := by decide +kernel
theorem d20_14 : decode jdk_65_method_125_code 14 = .ok (.iload_n 1, 1) := by decide +kernel
theorem d20_15 : decode jdk_65_method_125_code 15 = .ok (.newarray .char, 2) := by decide +kernel
theorem d20_17 : decode jdk_65_method_125_code 17 = .ok (.astore_n 2, 1) := by decide +kernel
theorem d20_18 : decode jdk_65_method_125_code 18 = .ok (.aload_n 0, 1) := by decide +kernel
theorem d20_19 : decode jdk_65_method_125_code 19 = .ok (.iconst 0, 1) := by decide +kernel
theorem d20_20 : decode jdk_65_method_125_code 20 = .ok (.aload_n 2, 1) := by decide +kernel
theorem d20_21 : decode jdk_65_method_125_code 21 = .ok (.iconst 0, 1) := by decide +kernel
theorem d20_22 : decode jdk_65_method_125_code 22 = .ok (.aload_n 0, 1) := by decide +kernel
theorem d20_23 : decode jdk_65_method_125_code 23 = .ok (.arraylength, 1) := by decide +kernel
theorem d20_24 : decode jdk_65_method_125_code 24 = .ok (.iload_n 1, 1) := by decide +kernel
theorem d20_25 : decode jdk_65_method_125_code 25 = .ok (.invokestatic 304, 3) := by decide +kernel
theorem d20_28 : decode jdk_65_method_125_code 28 = .ok (.invokestatic 150, 3) := by decide +kernel
theorem d20_31 : decode jdk_65_method_125_code 31 = .ok (.aload_n 2, 1) := by decide +kernel
theorem d20_32 : decode jdk_65_method_125_code 32 = .ok (.areturn, 1) := by decide +kernel
theorem pn_20 : plainName "java/util/Arrays" = true := by first | (simp [plainName, overriddenIn]; done) | decide +kernel
theorem ef_rmP_2 (m : MethodId) (a0 : Addr) (p1 : Int32) : entryFrame m #[(.ref a0), (.int p1)] 3 = mkF m 0 #[.val (.ref a0), .val (.int p1), .unset] [] := by first | (simp [entryFrame, mkF, argsToLocals, Value.category]; done) | rfl
def QrmP_2 (Z : State) (a0 : Addr) (p1 : Int32) (kn : ClassId) (nn : Int32) (ys : List Int32) (h0 : Heap) (n0 : Nat) (v : Option Value) (h : Heap) (L : List Loc) : Prop := ∃ b : Addr, ∃ kb : ClassId, v = some (.ref b) ∧ Fr n0 L ∧ n0 ≤ b ∧ h0.size ≤ b ∧ Keep h0 h [] ∧ Arv Z h b kb .char p1 ((own_cp ys p1.toNatClampNeg).map Value.int) (.int (0 : Int32))
set_option maxRecDepth 65536 in
set_option maxHeartbeats 40000000 in
theorem rmP_2 (l : Launch) (Z : State) (A0 : Array Value) (hw : ∀ d ∈ tables_1, d.before A0 Z = true) (ws : List Jvm.Cond) (a0 : Addr) (p1 : Int32) (kn : ClassId) (nn : Int32) (ys : List Int32) (h0 : Heap) (n0 : Nat) (Z0 : n0 ≤ h0.size) (V_a0 : Arv Z h0 a0 kn .char nn (ys.map Value.int) (.int (0 : Int32))) (hne : ¬ (p1 = nn)) (hle : 0 ≤ nn.toInt ∧ nn.toInt ≤ p1.toInt ∧ p1.toInt ≤ 8) (hlen : ys.length = nn.toNatClampNeg) :
    MetFree l (⟨"java/util/Arrays", "copyOf", "([CI)[C"⟩ : MethodName) (head1 (Jvm.Cond.code (⟨"java/util/Arrays", "copyOf", "([CI)[C"⟩ : MethodName) jdk_65_method_125_code 3 (some (.array .char)) :: ws) ({ frames := 1, cells := 1, slots := 8, locals := 18 } : Room)) (fun a U => a = #[(.ref a0), (.int p1)] ∧ Z.Warmed39 U.vm ∧ U.heap = h0) (fun _ _ _ _ _ => True) (fun _ U o U' => ∃ v L, o = .returned v ∧ QrmP_2 Z a0 p1 kn nn ys h0 n0 v U'.heap L ∧ FrameEnd U o U' L ({ frames := 1, cells := 1, slots := 8, locals := 18 } : Room).cells ({ frames := 1, cells := 1, slots := 8, locals := 18 } : Room).slots) := by
  refine MetFree.of_bodySF (plainFor_of_name pn_20) hisR ?_
  intro p e s m args below meth c s₁ Bd hml0 hP hK
  obtain ⟨rfl, hZ, hh⟩ := hP
  have hx := Bd.exec
  have hby := Bd.bytes
  have hml : c.maxLocals = 3 := hml0
  have hown : s.vm.findClass "java/util/Arrays" = some m.cls := findClass_of_methodNamed Bd.named
  have hnm := (name_of_methodNamed Bd.named Bd.method).1
  have X0 : Stand p l e ({ frames := 1, cells := 1, slots := 8, locals := 18 } : Room) s m #[(.ref a0), (.int p1)] below meth c s₁ [] 0 0 := Stand.of_body Bd
  have e0 : s₁.heap = h0 := by rw [← hh, Bd.state]; rfl
  have N0 := Fr.nil n0
  have K0 : Keep h0 h0 [] := Keep.refl _ _
  have pre0 : ∀ t, Steps p.tables e below (s₁.setTop (mkF m 0 #[.val (.ref a0), .val (.int p1), .unset] [])) t → Steps p.tables e below (s₁.setTop (entryFrame m #[(.ref a0), (.int p1)] 3)) t := fun t k => castTop (ef_rmP_2 m a0 p1) k
  obtain ⟨cl1, Ar1, -, SS1, MM1, -, -⟩ := id V_a0
  obtain ⟨T2, h2, k2, X2, e2, E2, A2, st2⟩ := newP X0 hx hZ (hw _ (List.mem_of_getElem? (i := 101) rfl)) e0 (g := (mkF m 15 #[.val (.ref a0), .val (.int p1), .unset] [(.int p1)])) rfl (hb hby d20_15) rfl (own_nneg (by omega)) (cap := 8) (by rw [own_tn]; omega) (by decide) (by decide) (by decide)
  obtain ⟨bb, g2⟩ : ∃ z, z = h0.size := ⟨_, rfl⟩
  rw [← g2] at A2 st2
  have ne_a0_bb : a0 ≠ bb := Nat.ne_of_lt (Nat.lt_of_lt_of_le V_a0.lt (Nat.le_of_eq g2.symm))
  have g_bb : n0 ≤ bb := Nat.le_trans Z0 (Nat.le_of_eq g2.symm)
  have sz_bb : h0.size ≤ bb := Nat.le_trans K0.1 (Nat.le_of_eq g2.symm)
  have V_a0 : Arv Z h2 a0 kn .char nn (ys.map Value.int) (.int (0 : Int32)) := V_a0.ext E2
  have Zh2 : n0 ≤ h2.size := Nat.le_trans Z0 E2.1
  have Kh2 : Keep h0 h2 [] := K0.ext E2
  have V_bb : Arv Z h2 bb k2 .char p1 [] (.int (0 : Int32)) := Arv.new A2 (own_nneg (by omega))
  have V_bb : Arv Z h2 bb k2 .char p1 (List.replicate (p1).toNatClampNeg (.int (0 : Int32))) (.int (0 : Int32)) := V_bb.pad (pad_rep [] (.int (0 : Int32)) (p1).toNatClampNeg)
  obtain ⟨cl3, Ar3, -, SS3, MM3, -, -⟩ := id V_a0
  obtain ⟨_, _, ⟨T4, L4, k4, n4⟩, -, X4, ⟨Lc4, hQ4, l4, y4, z4⟩, st4⟩ := Jvm.LawKit.callS X2 hx (y := (⟨"java/lang/Math", "min", "(II)I"⟩ : MethodName)) hown (mvT hZ (hw _ (List.mem_of_getElem? (i := 91) rfl))) (mvT hZ (hw _ (List.mem_of_getElem? (i := 81) rfl))) (mvT hZ (hw _ (List.mem_of_getElem? (i := 26) rfl))) (mvT hZ (hw _ (List.mem_of_getElem? (i := 82) rfl))) (by decide) (backOf (W := 4) (rm16 l Z A0 hw [] nn p1  h2 n0 Zh2 ) hZ (hw _ (List.mem_of_getElem? (i := 82) rfl)) (hw _ (List.mem_of_getElem? (i := 26) rfl)) (by decide) (by decide)) (g := (mkF m 25 #[.val (.ref a0), .val (.int p1), .val (.ref bb)] [(.int p1), (.int nn), (.int (0 : Int32)), (.ref bb), (.int (0 : Int32)), (.ref a0)])) rfl (by rw [hml]; rfl) (argsL := [(.int nn), (.int p1)]) (rest := [(.int (0 : Int32)), (.ref bb), (.int (0 : Int32)), (.ref a0)]) (lenOf pd_1 rfl) rfl (by show 2 * 0 + _ ≤ _; exact Nat.le_of_eq rfl) (hb hby d20_25) (fun _ _ => ⟨rfl, e2, (by decide : 1 + 0 ≤ _), (by decide : 8 + 0 ≤ _)⟩)
  dsimp only [Pt.U, Pt.locs, Pt.cells, Pt.slots] at X4 l4 y4 z4 st4 hQ4
  subst y4 z4
  obtain ⟨rfl, N4q, eh4⟩ := hQ4
  have N4 : Fr n0 L4 := by rw [l4]; exact Fr.app N0 N4q
  clear l4
  obtain ⟨cn, h_cn⟩ : ∃ z : Int32, z = (if p1 < nn then p1 else nn) := ⟨_, rfl⟩
  rcases (own_min (a := nn) (b := p1) hle.2.1 h_cn).symm with rfl
  obtain ⟨T5, h5, L5, X5, e5, N5, Kc5, P5, st5⟩ := cpA X4 hx hZ hown (hw _ (List.mem_of_getElem? (i := 92) rfl)) (hw _ (List.mem_of_getElem? (i := 95) rfl)) (hw _ (List.mem_of_getElem? (i := 93) rfl)) (hw _ (List.mem_of_getElem? (i := 94) rfl)) eh4 V_a0 V_bb (us := ((List.range (nn).toNatClampNeg).map fun i => ((ys.map Value.int)).getD (((0 : Int32)).toNatClampNeg + i) (.int (0 : Int32)))) (Or.inl ⟨rfl, rfl⟩) (by decide) (by decide) (own_nneg hle.1) (by show 0 + _ ≤ _; omega) (by show 0 + _ ≤ _; rw [own_tn, own_tn]; omega) rfl (by rw [List.length_replicate]; show 0 + _ ≤ _; rw [own_tn, own_tn]; omega) N4 g_bb (g := (mkF m 28 #[.val (.ref a0), .val (.int p1), .val (.ref bb)] [(.int nn), (.int (0 : Int32)), (.ref bb), (.int (0 : Int32)), (.ref a0)])) rfl (by rw [hml]; rfl) rfl (hb hby d20_28) (by decide) (W := 0) (by show 2 * 0 + _ ≤ _; exact Nat.le_of_eq rfl) (by decide)
  have V_a0 : Arv Z h5 a0 kn .char nn (ys.map Value.int) (.int (0 : Int32)) := V_a0.keep Kc5 (ninS ne_a0_bb nin0)
  have Zh5 : n0 ≤ h5.size := Nat.le_trans Zh2 Kc5.1
  have Kh5 : Keep h0 h5 [] := Kh2.trans Kc5 (allS (Or.inr sz_bb) all0)
  have V_bb : Arv Z h5 bb k2 .char p1 ((own_cp ys p1.toNatClampNeg).map Value.int) (.int (0 : Int32)) := by rw [← own_copy_eq hlen (by rw [own_tn, own_tn]; omega)]; exact P5
  obtain ⟨fs, hr, hrun, hended, hW, hsame⟩ := X5.leave (v := some (.ref bb)) (fun h => by rw [Bd.returns] at h; cases h)
  refine ⟨_, _, pre0 _ ?_, hrun, hended, _, _, rfl, ?_, ⟨_, rfl⟩, hW, hsame.mono (by decide) (by decide)⟩
  · show Steps p.tables e below (s₁.setTop (mkF m 0 #[.val (.ref a0), .val (.int p1), .unset] [])) _
    refine XS.iloadN X0.here hx rfl (hb hby d20_0) rfl ?_
    refine XS.aloadN X0.here hx rfl (hb hby d20_1) rfl rfl ?_
    refine X0.arraylength hx (by rw [e0]; exact Ar1.1) (State.isArrayOf_alike hZ.alike Ar1.2.1) (g := (mkF m 2 #[.val (.ref a0), .val (.int p1), .unset] [(.ref a0), (.int p1)])) rfl rfl (hb hby d20_2) _ ?_
    rw [len_of SS1 MM1]
    show Steps p.tables e below (s₁.setTop (mkF m 3 #[.val (.ref a0), .val (.int p1), .unset] [(.int nn), (.int p1)])) _
    refine XS.icmpYes X0.here hx rfl (pc0 := 3) (pc' := 14) rfl (hb hby d20_3) rfl (feq (hne : ¬ (p1 = nn))).2 (by decide) (by decide) ?_
    show Steps p.tables e below (s₁.setTop (mkF m 14 #[.val (.ref a0), .val (.int p1), .unset] [])) _
    refine XS.iloadN X0.here hx rfl (hb hby d20_14) rfl ?_
    refine st2 _ ?_
    show Steps p.tables e below (T2.setTop (mkF m 17 #[.val (.ref a0), .val (.int p1), .unset] [(.ref bb)])) _
    refine XS.astoreN X2.here hx rfl (hb hby d20_17) rfl rfl (l' := #[.val (.ref a0), .val (.int p1), .val (.ref bb)]) rfl ?_
    show Steps p.tables e below (T2.setTop (mkF m 18 #[.val (.ref a0), .val (.int p1), .val (.ref bb)] [])) _
    refine XS.aloadN X2.here hx rfl (hb hby d20_18) rfl rfl ?_
    refine XS.iconst X2.here hx rfl (hb hby d20_19) ?_
    refine XS.aloadN X2.here hx rfl (hb hby d20_20) rfl rfl ?_
    refine XS.iconst X2.here hx rfl (hb hby d20_21) ?_
    show Steps p.tables e below (T2.setTop (mkF m 22 #[.val (.ref a0), .val (.int p1), .val (.ref bb)] [(.int (0 : Int32)), (.ref bb), (.int (0 : Int32)), (.ref a0)])) _
    refine XS.aloadN X2.here hx rfl (hb hby d20_22) rfl rfl ?_
    refine X2.arraylength hx (by rw [e2]; exact Ar3.1) (State.isArrayOf_alike hZ.alike Ar3.2.1) (g := (mkF m 23 #[.val (.ref a0), .val (.int p1), .val (.ref bb)] [(.ref a0), (.int (0 : Int32)), (.ref bb), (.int (0 : Int32)), (.ref a0)])) rfl rfl (hb hby d20_23) _ ?_
    rw [len_of SS3 MM3]
    show Steps p.tables e below (T2.setTop (mkF m 24 #[.val (.ref a0), .val (.int p1), .val (.ref bb)] [(.int nn), (.int (0 : Int32)), (.ref bb), (.int (0 : Int32)), (.ref a0)])) _
    refine XS.iloadN X2.here hx rfl (hb hby d20_24) rfl ?_
    refine st4 _ ?_
    show Steps p.tables e below (T4.setTop (mkF m 28 #[.val (.ref a0), .val (.int p1), .val (.ref bb)] [(.int (if p1 < nn then p1 else nn)), (.int (0 : Int32)), (.ref bb), (.int (0 : Int32)), (.ref a0)])) _
    rw [← h_cn]
    show Steps p.tables e below (T4.setTop (mkF m 28 #[.val (.ref a0), .val (.int p1), .val (.ref bb)] [(.int nn), (.int (0 : Int32)), (.ref bb), (.int (0 : Int32)), (.ref a0)])) _
    refine st5 _ ?_
    show Steps p.tables e below (T5.setTop (mkF m 31 #[.val (.ref a0), .val (.int p1), .val (.ref bb)] [])) _
    refine XS.aloadN X5.here hx rfl (hb hby d20_31) rfl rfl ?_
    exact own_retR X5 hx Bd.returns rfl rfl rfl (hb hby d20_32) hr
  · show QrmP_2 Z a0 p1 kn nn ys h0 n0 _ T5.heap _
    rw [e5]
    exact ⟨bb, k2, rfl, N5, g_bb, sz_bb, Kh5, V_bb⟩
theorem pd_3 : parseMethodDescriptor "([CI)[C" = some ⟨[(.array .char), .int], some (.array .char)⟩ := by decide +kernel
theorem d17_23 : decode prog_257_method_14_code 23 = .ok (.aload_n 0, 1) := by decide +kernel
theorem d17_24 : decode prog_257_method_14_code 24 = .ok (.getfield 7, 3) := by decide +kernel
theorem d17_27 : decode prog_257_method_14_code 27 = .ok (.iconst 2, 1) := by decide +kernel
theorem d17_28 : decode prog_257_method_14_code 28 = .ok (.if_icmp .ne 18, 3) := by decide +kernel
theorem d17_31 : decode prog_257_method_14_code 31 = .ok (.aload_n 0, 1) := by decide +kernel
theorem d17_32 : decode prog_257_method_14_code 32 = .ok (.aload_n 0, 1) := by decide +kernel
theorem d17_33 : decode prog_257_method_14_code 33 = .ok (.getfield 39, 3) := by decide +kernel
theorem d17_36 : decode prog_257_method_14_code 36 = .ok (.iload_n 1, 1) := by decide +kernel
theorem d17_37 : decode prog_257_method_14_code 37 = .ok (.invokestatic 106, 3) := by decide +kernel
theorem d17_40 : decode prog_257_method_14_code 40 = .ok (.putfield 39, 3) := by decide +kernel
theorem d17_43 : decode prog_257_method_14_code 43 = .ok (.goto 15, 3) := by decide +kernel
theorem ef_rmR_2 (m : MethodId) (a0 : Addr) (p1 : Int32) : entryFrame m #[(.ref a0), (.int p1)] 2 = mkF m 0 #[.val (.ref a0), .val (.int p1)] [] := by first | (simp [entryFrame, mkF, argsToLocals, Value.category]; done) | rfl
def QrmR_2 (Z : State) (a0 : Addr) (p1 : Int32) (u_base : Value) (u_based : Value) (u_narrow : Value) (u_wide : Value) (u_nulls : Value) (nr : Addr) (kn : ClassId) (nn : Int32) (ys : List Int32) (h0 : Heap) (n0 : Nat) (v : Option Value) (h : Heap) (L : List Loc) : Prop := ∃ b : Addr, ∃ kb : ClassId, v = none ∧ Fr n0 L ∧ (n0 ≤ b ∧ h0.size ≤ b) ∧ Keep h0 h [a0] ∧ Exa Z h a0 "com/example/wadjet/wadjet/storage/IntegerChunk" ∧ Fld Z h a0 "com/example/wadjet/wadjet/storage/IntegerChunk" "width" "I" (.int (2 : Int32)) ∧ Fld Z h a0 "com/example/wadjet/wadjet/storage/IntegerChunk" "base" "J" u_base ∧ Fld Z h a0 "com/example/wadjet/wadjet/storage/IntegerChunk" "based" "Z" u_based ∧ Fld Z h a0 "com/example/wadjet/wadjet/storage/IntegerChunk" "narrow" "[B" u_narrow ∧ Fld Z h a0 "com/example/wadjet/wadjet/storage/IntegerChunk" "middle" "[C" (.ref b) ∧ Fld Z h a0 "com/example/wadjet/wadjet/storage/IntegerChunk" "wide" "[I" u_wide ∧ Fld Z h a0 "com/example/wadjet/wadjet/storage/IntegerChunk" "nulls" "[J" u_nulls ∧ Arv Z h b kb .char p1 ((own_cp ys p1.toNatClampNeg).map Value.int) (.int (0 : Int32))
set_option maxRecDepth 65536 in
set_option maxHeartbeats 40000000 in
theorem rmR_2 (l : Launch) (Z : State) (A0 : Array Value) (hw : ∀ d ∈ tables_1, d.before A0 Z = true) (ws : List Jvm.Cond) (a0 : Addr) (p1 : Int32) (u_base : Value) (u_based : Value) (u_narrow : Value) (u_wide : Value) (u_nulls : Value) (nr : Addr) (kn : ClassId) (nn : Int32) (ys : List Int32) (h0 : Heap) (n0 : Nat) (Z0 : n0 ≤ h0.size) (E_a0 : Exa Z h0 a0 "com/example/wadjet/wadjet/storage/IntegerChunk") (F_width_a0 : Fld Z h0 a0 "com/example/wadjet/wadjet/storage/IntegerChunk" "width" "I" (.int (2 : Int32))) (F_base_a0 : Fld Z h0 a0 "com/example/wadjet/wadjet/storage/IntegerChunk" "base" "J" u_base) (F_based_a0 : Fld Z h0 a0 "com/example/wadjet/wadjet/storage/IntegerChunk" "based" "Z" u_based) (F_narrow_a0 : Fld Z h0 a0 "com/example/wadjet/wadjet/storage/IntegerChunk" "narrow" "[B" u_narrow) (F_middle_a0 : Fld Z h0 a0 "com/example/wadjet/wadjet/storage/IntegerChunk" "middle" "[C" (.ref nr)) (F_wide_a0 : Fld Z h0 a0 "com/example/wadjet/wadjet/storage/IntegerChunk" "wide" "[I" u_wide) (F_nulls_a0 : Fld Z h0 a0 "com/example/wadjet/wadjet/storage/IntegerChunk" "nulls" "[J" u_nulls) (V_nr : Arv Z h0 nr kn .char nn (ys.map Value.int) (.int (0 : Int32))) (g_a0 : n0 ≤ a0) (ne_nr_a0 : nr ≠ a0) (hne : ¬ (p1 = nn)) (hle : 0 ≤ nn.toInt ∧ nn.toInt ≤ p1.toInt ∧ p1.toInt ≤ 8) (hlen : ys.length = nn.toNatClampNeg) :
    MetFree l (⟨"com/example/wadjet/wadjet/storage/IntegerChunk", "resize", "(I)V"⟩ : MethodName) (head1 (Jvm.Cond.code (⟨"com/example/wadjet/wadjet/storage/IntegerChunk", "resize", "(I)V"⟩ : MethodName) prog_257_method_14_code 2 none :: ws) ({ frames := 2, cells := 1, slots := 8, locals := 33 } : Room)) (fun a U => a = #[(.ref a0), (.int p1)] ∧ Z.Warmed39 U.vm ∧ U.heap = h0) (fun _ _ _ _ _ => True) (fun _ U o U' => ∃ v L, o = .returned v ∧ QrmR_2 Z a0 p1 u_base u_based u_narrow u_wide u_nulls nr kn nn ys h0 n0 v U'.heap L ∧ FrameEnd U o U' L ({ frames := 2, cells := 1, slots := 8, locals := 33 } : Room).cells ({ frames := 2, cells := 1, slots := 8, locals := 33 } : Room).slots) := by
  refine MetFree.of_bodySF (plainFor_of_name pn_17) hisR ?_
  intro p e s m args below meth c s₁ Bd hml0 hP hK
  obtain ⟨rfl, hZ, hh⟩ := hP
  have hx := Bd.exec
  have hby := Bd.bytes
  have hml : c.maxLocals = 2 := hml0
  have hown : s.vm.findClass "com/example/wadjet/wadjet/storage/IntegerChunk" = some m.cls := findClass_of_methodNamed Bd.named
  have hnm := (name_of_methodNamed Bd.named Bd.method).1
  have X0 : Stand p l e ({ frames := 2, cells := 1, slots := 8, locals := 33 } : Room) s m #[(.ref a0), (.int p1)] below meth c s₁ [] 0 0 := Stand.of_body Bd
  have e0 : s₁.heap = h0 := by rw [← hh, Bd.state]; rfl
  have N0 := Fr.nil n0
  have K0 : Keep h0 h0 [a0] := Keep.refl _ _
  have pre0 : ∀ t, Steps p.tables e below (s₁.setTop (mkF m 0 #[.val (.ref a0), .val (.int p1)] [])) t → Steps p.tables e below (s₁.setTop (entryFrame m #[(.ref a0), (.int p1)] 2)) t := fun t k => castTop (ef_rmR_2 m a0 p1) k
  obtain ⟨T1, X1, e1, st1⟩ := getF X0 hx hZ hown (host := "") (Or.inl (hw _ (List.mem_of_getElem? (i := 14) rfl))) Via.refl e0 F_width_a0 (g := (mkF m 1 #[.val (.ref a0), .val (.int p1)] [(.ref a0)])) rfl rfl (hb hby d17_1)
  obtain ⟨T2, X2, e2, st2⟩ := getF X1 hx hZ hown (host := "") (Or.inl (hw _ (List.mem_of_getElem? (i := 14) rfl))) Via.refl e1 F_width_a0 (g := (mkF m 24 #[.val (.ref a0), .val (.int p1)] [(.ref a0)])) rfl rfl (hb hby d17_24)
  obtain ⟨T3, X3, e3, st3⟩ := getF X2 hx hZ hown (host := "") (Or.inl (hw _ (List.mem_of_getElem? (i := 60) rfl))) Via.refl e2 F_middle_a0 (g := (mkF m 33 #[.val (.ref a0), .val (.int p1)] [(.ref a0), (.ref a0)])) rfl rfl (hb hby d17_33)
  obtain ⟨_, _, ⟨T4, L4, k4, n4⟩, -, X4, ⟨Lc4, hQ4, l4, y4, z4⟩, st4⟩ := Jvm.LawKit.callS X3 hx (y := (⟨"java/util/Arrays", "copyOf", "([CI)[C"⟩ : MethodName)) hown (mvT hZ (hw _ (List.mem_of_getElem? (i := 102) rfl))) (mvT hZ (hw _ (List.mem_of_getElem? (i := 103) rfl))) (mvT hZ (hw _ (List.mem_of_getElem? (i := 89) rfl))) (mvT hZ (hw _ (List.mem_of_getElem? (i := 104) rfl))) (by decide) (backOf (W := 1) (rmP_2 l Z A0 hw [] nr p1 kn nn ys h0 n0 Z0 V_nr (hne) (hle) (hlen)) hZ (hw _ (List.mem_of_getElem? (i := 104) rfl)) (hw _ (List.mem_of_getElem? (i := 89) rfl)) (by decide) (by decide)) (g := (mkF m 37 #[.val (.ref a0), .val (.int p1)] [(.int p1), (.ref nr), (.ref a0)])) rfl (by rw [hml]; rfl) (argsL := [(.ref nr), (.int p1)]) (rest := [(.ref a0)]) (lenOf pd_3 rfl) rfl (by show 2 * 0 + _ ≤ _; exact Nat.le_of_eq rfl) (hb hby d17_37) (fun _ _ => ⟨rfl, e3, (by decide : 0 + 1 ≤ _), (by decide : 0 + 8 ≤ _)⟩)
  dsimp only [Pt.U, Pt.locs, Pt.cells, Pt.slots] at X4 l4 y4 z4 st4 hQ4
  subst y4 z4
  obtain ⟨b4, kb4, rfl, N4q, gb4, sb4, Kc4, P4_0⟩ := hQ4
  have N4 : Fr n0 L4 := by rw [l4]; exact Fr.app N0 N4q
  clear l4
  have ne_a0_b4 : a0 ≠ b4 := Nat.ne_of_lt (Nat.lt_of_lt_of_le E_a0.lt sb4)
  have ne_nr_b4 : nr ≠ b4 := Nat.ne_of_lt (Nat.lt_of_lt_of_le V_nr.lt sb4)
  have sz_b4 : h0.size ≤ b4 := Nat.le_trans K0.1 sb4
  have E_a0 : Exa Z T4.heap a0 "com/example/wadjet/wadjet/storage/IntegerChunk" := E_a0.keep Kc4
  have F_width_a0 : Fld Z T4.heap a0 "com/example/wadjet/wadjet/storage/IntegerChunk" "width" "I" (.int (2 : Int32)) := F_width_a0.keep Kc4 nin0
  have F_base_a0 : Fld Z T4.heap a0 "com/example/wadjet/wadjet/storage/IntegerChunk" "base" "J" u_base := F_base_a0.keep Kc4 nin0
  have F_based_a0 : Fld Z T4.heap a0 "com/example/wadjet/wadjet/storage/IntegerChunk" "based" "Z" u_based := F_based_a0.keep Kc4 nin0
  have F_narrow_a0 : Fld Z T4.heap a0 "com/example/wadjet/wadjet/storage/IntegerChunk" "narrow" "[B" u_narrow := F_narrow_a0.keep Kc4 nin0
  have F_middle_a0 : Fld Z T4.heap a0 "com/example/wadjet/wadjet/storage/IntegerChunk" "middle" "[C" (.ref nr) := F_middle_a0.keep Kc4 nin0
  have F_wide_a0 : Fld Z T4.heap a0 "com/example/wadjet/wadjet/storage/IntegerChunk" "wide" "[I" u_wide := F_wide_a0.keep Kc4 nin0
  have F_nulls_a0 : Fld Z T4.heap a0 "com/example/wadjet/wadjet/storage/IntegerChunk" "nulls" "[J" u_nulls := F_nulls_a0.keep Kc4 nin0
  have V_nr : Arv Z T4.heap nr kn .char nn (ys.map Value.int) (.int (0 : Int32)) := V_nr.keep Kc4 nin0
  have ZT4_heap : n0 ≤ T4.heap.size := Nat.le_trans Z0 Kc4.1
  have KT4_heap : Keep h0 T4.heap [a0] := K0.trans Kc4 all0
  have V_b4 : Arv Z T4.heap b4 kb4 .char p1 ((own_cp ys p1.toNatClampNeg).map Value.int) (.int (0 : Int32)) := P4_0
  obtain ⟨T5, h5, X5, e5, W5, st5⟩ := putF X4 hx hZ hown (host := "") (Or.inl (hw _ (List.mem_of_getElem? (i := 60) rfl))) Via.refl rfl F_middle_a0 E_a0 (Or.inl (hw _ (List.mem_of_getElem? (i := 61) rfl))) (hw _ (List.mem_of_getElem? (i := 1) rfl)) (ty := (.array .char)) (by decide) rfl rfl (g := (mkF m 40 #[.val (.ref a0), .val (.int p1)] [(.ref b4), (.ref a0)])) rfl rfl (hb hby d17_40)
  have F_middle_a0 : Fld Z h5 a0 "com/example/wadjet/wadjet/storage/IntegerChunk" "middle" "[C" (.ref b4) := F_middle_a0.same W5
  have E_a0 : Exa Z h5 a0 "com/example/wadjet/wadjet/storage/IntegerChunk" := E_a0.wr W5
  have F_width_a0 : Fld Z h5 a0 "com/example/wadjet/wadjet/storage/IntegerChunk" "width" "I" (.int (2 : Int32)) := F_width_a0.other W5 (Or.inr (slot_ne (Or.inl (hw _ (List.mem_of_getElem? (i := 15) rfl))) (Or.inl (hw _ (List.mem_of_getElem? (i := 61) rfl))) (by decide) (t := .int) (t' := (.array .char)) (by decide) (by decide)))
  have F_base_a0 : Fld Z h5 a0 "com/example/wadjet/wadjet/storage/IntegerChunk" "base" "J" u_base := F_base_a0.other W5 (Or.inr (slot_ne (Or.inl (hw _ (List.mem_of_getElem? (i := 31) rfl))) (Or.inl (hw _ (List.mem_of_getElem? (i := 61) rfl))) (by decide) (t := .long) (t' := (.array .char)) (by decide) (by decide)))
  have F_based_a0 : Fld Z h5 a0 "com/example/wadjet/wadjet/storage/IntegerChunk" "based" "Z" u_based := F_based_a0.other W5 (Or.inr (slot_ne (Or.inl (hw _ (List.mem_of_getElem? (i := 29) rfl))) (Or.inl (hw _ (List.mem_of_getElem? (i := 61) rfl))) (by decide) (t := .boolean) (t' := (.array .char)) (by decide) (by decide)))
  have F_narrow_a0 : Fld Z h5 a0 "com/example/wadjet/wadjet/storage/IntegerChunk" "narrow" "[B" u_narrow := F_narrow_a0.other W5 (Or.inr (slot_ne (Or.inl (hw _ (List.mem_of_getElem? (i := 18) rfl))) (Or.inl (hw _ (List.mem_of_getElem? (i := 61) rfl))) (by decide) (t := (.array .byte)) (t' := (.array .char)) (by decide) (by decide)))
  have F_wide_a0 : Fld Z h5 a0 "com/example/wadjet/wadjet/storage/IntegerChunk" "wide" "[I" u_wide := F_wide_a0.other W5 (Or.inr (slot_ne (Or.inl (hw _ (List.mem_of_getElem? (i := 63) rfl))) (Or.inl (hw _ (List.mem_of_getElem? (i := 61) rfl))) (by decide) (t := (.array .int)) (t' := (.array .char)) (by decide) (by decide)))
  have F_nulls_a0 : Fld Z h5 a0 "com/example/wadjet/wadjet/storage/IntegerChunk" "nulls" "[J" u_nulls := F_nulls_a0.other W5 (Or.inr (slot_ne (Or.inl (hw _ (List.mem_of_getElem? (i := 37) rfl))) (Or.inl (hw _ (List.mem_of_getElem? (i := 61) rfl))) (by decide) (t := (.array .long)) (t' := (.array .char)) (by decide) (by decide)))
  have V_nr : Arv Z h5 nr kn .char nn (ys.map Value.int) (.int (0 : Int32)) := V_nr.other W5 ne_nr_a0
  have V_b4 : Arv Z h5 b4 kb4 .char p1 ((own_cp ys p1.toNatClampNeg).map Value.int) (.int (0 : Int32)) := V_b4.other W5 (Ne.symm ne_a0_b4)
  have Zh5 : n0 ≤ h5.size := Nat.le_trans ZT4_heap (Keep.of_wr W5).1
  have Kh5 : Keep h0 h5 [a0] := KT4_heap.wr W5 (Or.inl (by simp))
  have N5 := Fr.snoc X5 N4 g_a0
  obtain ⟨fs, hr, hrun, hended, hW, hsame⟩ := X5.leave (v := none) (fun _ => rfl)
  refine ⟨_, _, pre0 _ ?_, hrun, hended, _, _, rfl, ?_, ⟨_, rfl⟩, hW, hsame.mono (by decide) (by decide)⟩
  · show Steps p.tables e below (s₁.setTop (mkF m 0 #[.val (.ref a0), .val (.int p1)] [])) _
    refine XS.aloadN X0.here hx rfl (hb hby d17_0) rfl rfl ?_
    refine st1 _ ?_
    show Steps p.tables e below (T1.setTop (mkF m 4 #[.val (.ref a0), .val (.int p1)] [(.int (2 : Int32))])) _
    refine XS.iconst X1.here hx rfl (hb hby d17_4) ?_
    show Steps p.tables e below (T1.setTop (mkF m 5 #[.val (.ref a0), .val (.int p1)] [(.int (1 : Int32)), (.int (2 : Int32))])) _
    refine XS.icmpYes X1.here hx rfl (pc0 := 5) (pc' := 23) rfl (hb hby d17_5) rfl (feq (by decide : ¬ ((2 : Int32) = (1 : Int32)))).2 (by decide) (by decide) ?_
    show Steps p.tables e below (T1.setTop (mkF m 23 #[.val (.ref a0), .val (.int p1)] [])) _
    refine XS.aloadN X1.here hx rfl (hb hby d17_23) rfl rfl ?_
    refine st2 _ ?_
    show Steps p.tables e below (T2.setTop (mkF m 27 #[.val (.ref a0), .val (.int p1)] [(.int (2 : Int32))])) _
    refine XS.iconst X2.here hx rfl (hb hby d17_27) ?_
    show Steps p.tables e below (T2.setTop (mkF m 28 #[.val (.ref a0), .val (.int p1)] [(.int (2 : Int32)), (.int (2 : Int32))])) _
    refine XS.icmpNo X2.here hx rfl (hb hby d17_28) rfl (teq (by decide : (2 : Int32) = (2 : Int32))).2 ?_
    refine XS.aloadN X2.here hx rfl (hb hby d17_31) rfl rfl ?_
    refine XS.aloadN X2.here hx rfl (hb hby d17_32) rfl rfl ?_
    refine st3 _ ?_
    show Steps p.tables e below (T3.setTop (mkF m 36 #[.val (.ref a0), .val (.int p1)] [(.ref nr), (.ref a0)])) _
    refine XS.iloadN X3.here hx rfl (hb hby d17_36) rfl ?_
    refine st4 _ ?_
    show Steps p.tables e below (T4.setTop (mkF m 40 #[.val (.ref a0), .val (.int p1)] [(.ref b4), (.ref a0)])) _
    refine st5 _ ?_
    show Steps p.tables e below (T5.setTop (mkF m 43 #[.val (.ref a0), .val (.int p1)] [])) _
    refine XS.goto X5.here hx rfl (pc0 := 43) (pc' := 58) rfl (hb hby d17_43) (by decide) (by decide) ?_
    show Steps p.tables e below (T5.setTop (mkF m 58 #[.val (.ref a0), .val (.int p1)] [])) _
    exact X5.returnOut hx Bd.returns (hb hby d17_58) hr
  · show QrmR_2 Z a0 p1 u_base u_based u_narrow u_wide u_nulls nr kn nn ys h0 n0 _ T5.heap _
    rw [e5]
    exact ⟨b4, kb4, rfl, N5, ⟨gb4, sz_b4⟩, Kh5, E_a0, F_width_a0, F_base_a0, F_based_a0, F_narrow_a0, F_middle_a0, F_wide_a0, F_nulls_a0, V_b4⟩
theorem d6_34 : decode prog_257_method_13_code 34 = .ok (.aload_n 0, 1) := by decide +kernel
theorem d6_35 : decode prog_257_method_13_code 35 = .ok (.getfield 43, 3) := by decide +kernel
theorem d6_38 : decode prog_257_method_13_code 38 = .ok (.arraylength, 1) := by decide +kernel
theorem d6_39 : decode prog_257_method_13_code 39 = .ok (.istore_n 1, 1) := by decide +kernel
theorem ef_rmC_4 (m : MethodId) (a0 : Addr) : entryFrame m #[(.ref a0)] 2 = mkF m 0 #[.val (.ref a0), .unset] [] := by first | (simp [entryFrame, mkF, argsToLocals, Value.category]; done) | rfl
def QrmC_4 (Z : State) (a0 : Addr) (nr : Addr) (kn : ClassId) (nn : Int32) (ys : List Int32) (h0 : Heap) (n0 : Nat) (v : Option Value) (h : Heap) (L : List Loc) : Prop := v = some (.int nn) ∧ Fr n0 L ∧ h = h0
set_option maxRecDepth 65536 in
set_option maxHeartbeats 40000000 in
theorem rmC_4 (l : Launch) (Z : State) (A0 : Array Value) (hw : ∀ d ∈ tables_1, d.before A0 Z = true) (ws : List Jvm.Cond) (a0 : Addr) (nr : Addr) (kn : ClassId) (nn : Int32) (ys : List Int32) (h0 : Heap) (n0 : Nat) (Z0 : n0 ≤ h0.size) (F_width_a0 : Fld Z h0 a0 "com/example/wadjet/wadjet/storage/IntegerChunk" "width" "I" (.int (4 : Int32))) (F_wide_a0 : Fld Z h0 a0 "com/example/wadjet/wadjet/storage/IntegerChunk" "wide" "[I" (.ref nr)) (V_nr : Arv Z h0 nr kn .int nn (ys.map Value.int) (.int (0 : Int32))) :
    MetFree l (⟨"com/example/wadjet/wadjet/storage/IntegerChunk", "capacity", "()I"⟩ : MethodName) (head1 (Jvm.Cond.code (⟨"com/example/wadjet/wadjet/storage/IntegerChunk", "capacity", "()I"⟩ : MethodName) prog_257_method_13_code 2 (some .int) :: ws) ({ frames := 0, cells := 0, slots := 0, locals := 0 } : Room)) (fun a U => a = #[(.ref a0)] ∧ Z.Warmed39 U.vm ∧ U.heap = h0) (fun _ _ _ _ _ => True) (fun _ U o U' => ∃ v L, o = .returned v ∧ QrmC_4 Z a0 nr kn nn ys h0 n0 v U'.heap L ∧ FrameEnd U o U' L ({ frames := 0, cells := 0, slots := 0, locals := 0 } : Room).cells ({ frames := 0, cells := 0, slots := 0, locals := 0 } : Room).slots) := by
  refine MetFree.of_bodySF (plainFor_of_name pn_6) hisR ?_
  intro p e s m args below meth c s₁ Bd hml0 hP hK
  obtain ⟨rfl, hZ, hh⟩ := hP
  have hx := Bd.exec
  have hby := Bd.bytes
  have hml : c.maxLocals = 2 := hml0
  have hown : s.vm.findClass "com/example/wadjet/wadjet/storage/IntegerChunk" = some m.cls := findClass_of_methodNamed Bd.named
  have hnm := (name_of_methodNamed Bd.named Bd.method).1
  have X0 : Stand p l e ({ frames := 0, cells := 0, slots := 0, locals := 0 } : Room) s m #[(.ref a0)] below meth c s₁ [] 0 0 := Stand.of_body Bd
  have e0 : s₁.heap = h0 := by rw [← hh, Bd.state]; rfl
  have N0 := Fr.nil n0
  have K0 : Keep h0 h0 [] := Keep.refl _ _
  have pre0 : ∀ t, Steps p.tables e below (s₁.setTop (mkF m 0 #[.val (.ref a0), .unset] [])) t → Steps p.tables e below (s₁.setTop (entryFrame m #[(.ref a0)] 2)) t := fun t k => castTop (ef_rmC_4 m a0) k
  obtain ⟨T1, X1, e1, st1⟩ := getF X0 hx hZ hown (host := "") (Or.inl (hw _ (List.mem_of_getElem? (i := 14) rfl))) Via.refl e0 F_width_a0 (g := (mkF m 1 #[.val (.ref a0), .unset] [(.ref a0)])) rfl rfl (hb hby d6_1)
  obtain ⟨T2, X2, e2, st2⟩ := getF X1 hx hZ hown (host := "") (Or.inl (hw _ (List.mem_of_getElem? (i := 14) rfl))) Via.refl e1 F_width_a0 (g := (mkF m 18 #[.val (.ref a0), .unset] [(.ref a0)])) rfl rfl (hb hby d6_18)
  obtain ⟨T3, X3, e3, st3⟩ := getF X2 hx hZ hown (host := "") (Or.inl (hw _ (List.mem_of_getElem? (i := 62) rfl))) Via.refl e2 F_wide_a0 (g := (mkF m 35 #[.val (.ref a0), .unset] [(.ref a0)])) rfl rfl (hb hby d6_35)
  obtain ⟨cl4, Ar4, -, SS4, MM4, -, -⟩ := id V_nr
  obtain ⟨fs, hr, hrun, hended, hW, hsame⟩ := X3.leave (v := some (.int nn)) (fun h => by rw [Bd.returns] at h; cases h)
  refine ⟨_, _, pre0 _ ?_, hrun, hended, _, _, rfl, ?_, ⟨_, rfl⟩, hW, hsame.mono (by decide) (by decide)⟩
  · show Steps p.tables e below (s₁.setTop (mkF m 0 #[.val (.ref a0), .unset] [])) _
    refine XS.aloadN X0.here hx rfl (hb hby d6_0) rfl rfl ?_
    refine st1 _ ?_
    show Steps p.tables e below (T1.setTop (mkF m 4 #[.val (.ref a0), .unset] [(.int (4 : Int32))])) _
    refine XS.iconst X1.here hx rfl (hb hby d6_4) ?_
    show Steps p.tables e below (T1.setTop (mkF m 5 #[.val (.ref a0), .unset] [(.int (1 : Int32)), (.int (4 : Int32))])) _
    refine XS.icmpYes X1.here hx rfl (pc0 := 5) (pc' := 17) rfl (hb hby d6_5) rfl (feq (by decide : ¬ ((4 : Int32) = (1 : Int32)))).2 (by decide) (by decide) ?_
    show Steps p.tables e below (T1.setTop (mkF m 17 #[.val (.ref a0), .unset] [])) _
    refine XS.aloadN X1.here hx rfl (hb hby d6_17) rfl rfl ?_
    refine st2 _ ?_
    show Steps p.tables e below (T2.setTop (mkF m 21 #[.val (.ref a0), .unset] [(.int (4 : Int32))])) _
    refine XS.iconst X2.here hx rfl (hb hby d6_21) ?_
    show Steps p.tables e below (T2.setTop (mkF m 22 #[.val (.ref a0), .unset] [(.int (2 : Int32)), (.int (4 : Int32))])) _
    refine XS.icmpYes X2.here hx rfl (pc0 := 22) (pc' := 34) rfl (hb hby d6_22) rfl (feq (by decide : ¬ ((4 : Int32) = (2 : Int32)))).2 (by decide) (by decide) ?_
    show Steps p.tables e below (T2.setTop (mkF m 34 #[.val (.ref a0), .unset] [])) _
    refine XS.aloadN X2.here hx rfl (hb hby d6_34) rfl rfl ?_
    refine st3 _ ?_
    show Steps p.tables e below (T3.setTop (mkF m 38 #[.val (.ref a0), .unset] [(.ref nr)])) _
    refine X3.arraylength hx (by rw [e3]; exact Ar4.1) (State.isArrayOf_alike hZ.alike Ar4.2.1) (g := (mkF m 38 #[.val (.ref a0), .unset] [(.ref nr)])) rfl rfl (hb hby d6_38) _ ?_
    rw [len_of SS4 MM4]
    show Steps p.tables e below (T3.setTop (mkF m 39 #[.val (.ref a0), .unset] [(.int nn)])) _
    refine XS.istoreN X3.here hx rfl (hb hby d6_39) rfl (l' := #[.val (.ref a0), .val (.int nn)]) rfl ?_
    refine XS.iloadN X3.here hx rfl (hb hby d6_40) rfl ?_
    exact retI X3 hx Bd.returns (hb hby d6_41) hr
  · show QrmC_4 Z a0 nr kn nn ys h0 n0 _ T3.heap _
    rw [e3]
    exact ⟨rfl, N0, rfl⟩
theorem d7_52 : decode prog_257_method_5_code 52 = .ok (.aload_n 0, 1) := by decide +kernel
theorem d7_53 : decode prog_257_method_5_code 53 = .ok (.getfield 43, 3) := by decide +kernel
theorem d7_56 : decode prog_257_method_5_code 56 = .ok (.iload_n 1, 1) := by decide +kernel
theorem d7_57 : decode prog_257_method_5_code 57 = .ok (.iaload, 1) := by decide +kernel
theorem d7_58 : decode prog_257_method_5_code 58 = .ok (.i2l, 1) := by decide +kernel
theorem d7_59 : decode prog_257_method_5_code 59 = .ok (.lstore_n 2, 1) := by decide +kernel
theorem ef_rmI_4 (m : MethodId) (a0 : Addr) (p1 : Int32) : entryFrame m #[(.ref a0), (.int p1)] 4 = mkF m 0 #[.val (.ref a0), .val (.int p1), .unset, .unset] [] := by first | (simp [entryFrame, mkF, argsToLocals, Value.category]; done) | rfl
def QrmI_4 (Z : State) (a0 : Addr) (p1 : Int32) (bb : Int64) (nr : Addr) (kn : ClassId) (nn : Int32) (ys : List Int32) (h0 : Heap) (n0 : Nat) (v : Option Value) (h : Heap) (L : List Loc) : Prop := v = some (.long (own_rd (4 : Int32) bb (ys.getD p1.toNatClampNeg 0))) ∧ Fr n0 L ∧ h = h0
set_option maxRecDepth 65536 in
set_option maxHeartbeats 40000000 in
theorem rmI_4 (l : Launch) (Z : State) (A0 : Array Value) (hw : ∀ d ∈ tables_1, d.before A0 Z = true) (ws : List Jvm.Cond) (a0 : Addr) (p1 : Int32) (bb : Int64) (nr : Addr) (kn : ClassId) (nn : Int32) (ys : List Int32) (h0 : Heap) (n0 : Nat) (Z0 : n0 ≤ h0.size) (F_width_a0 : Fld Z h0 a0 "com/example/wadjet/wadjet/storage/IntegerChunk" "width" "I" (.int (4 : Int32))) (F_base_a0 : Fld Z h0 a0 "com/example/wadjet/wadjet/storage/IntegerChunk" "base" "J" (.long bb)) (F_wide_a0 : Fld Z h0 a0 "com/example/wadjet/wadjet/storage/IntegerChunk" "wide" "[I" (.ref nr)) (V_nr : Arv Z h0 nr kn .int nn (ys.map Value.int) (.int (0 : Int32))) (hin : ¬ (p1 < 0) ∧ p1 < nn) :
    MetFree l (⟨"com/example/wadjet/wadjet/storage/IntegerChunk", "integer", "(I)J"⟩ : MethodName) (head1 (Jvm.Cond.code (⟨"com/example/wadjet/wadjet/storage/IntegerChunk", "integer", "(I)J"⟩ : MethodName) prog_257_method_5_code 4 (some .long) :: ws) ({ frames := 0, cells := 0, slots := 0, locals := 0 } : Room)) (fun a U => a = #[(.ref a0), (.int p1)] ∧ Z.Warmed39 U.vm ∧ U.heap = h0) (fun _ _ _ _ _ => True) (fun _ U o U' => ∃ v L, o = .returned v ∧ QrmI_4 Z a0 p1 bb nr kn nn ys h0 n0 v U'.heap L ∧ FrameEnd U o U' L ({ frames := 0, cells := 0, slots := 0, locals := 0 } : Room).cells ({ frames := 0, cells := 0, slots := 0, locals := 0 } : Room).slots) := by
  refine MetFree.of_bodySF (plainFor_of_name pn_7) hisR ?_
  intro p e s m args below meth c s₁ Bd hml0 hP hK
  obtain ⟨rfl, hZ, hh⟩ := hP
  have hx := Bd.exec
  have hby := Bd.bytes
  have hml : c.maxLocals = 4 := hml0
  have hown : s.vm.findClass "com/example/wadjet/wadjet/storage/IntegerChunk" = some m.cls := findClass_of_methodNamed Bd.named
  have hnm := (name_of_methodNamed Bd.named Bd.method).1
  have X0 : Stand p l e ({ frames := 0, cells := 0, slots := 0, locals := 0 } : Room) s m #[(.ref a0), (.int p1)] below meth c s₁ [] 0 0 := Stand.of_body Bd
  have e0 : s₁.heap = h0 := by rw [← hh, Bd.state]; rfl
  have N0 := Fr.nil n0
  have K0 : Keep h0 h0 [] := Keep.refl _ _
  have pre0 : ∀ t, Steps p.tables e below (s₁.setTop (mkF m 0 #[.val (.ref a0), .val (.int p1), .unset, .unset] [])) t → Steps p.tables e below (s₁.setTop (entryFrame m #[(.ref a0), (.int p1)] 4)) t := fun t k => castTop (ef_rmI_4 m a0 p1) k
  obtain ⟨T1, X1, e1, st1⟩ := getF X0 hx hZ hown (host := "") (Or.inl (hw _ (List.mem_of_getElem? (i := 14) rfl))) Via.refl e0 F_width_a0 (g := (mkF m 1 #[.val (.ref a0), .val (.int p1), .unset, .unset] [(.ref a0)])) rfl rfl (hb hby d7_1)
  obtain ⟨T2, X2, e2, st2⟩ := getF X1 hx hZ hown (host := "") (Or.inl (hw _ (List.mem_of_getElem? (i := 14) rfl))) Via.refl e1 F_width_a0 (g := (mkF m 29 #[.val (.ref a0), .val (.int p1), .unset, .unset] [(.ref a0)])) rfl rfl (hb hby d7_29)
  obtain ⟨T3, X3, e3, st3⟩ := getF X2 hx hZ hown (host := "") (Or.inl (hw _ (List.mem_of_getElem? (i := 62) rfl))) Via.refl e2 F_wide_a0 (g := (mkF m 53 #[.val (.ref a0), .val (.int p1), .unset, .unset] [(.ref a0)])) rfl rfl (hb hby d7_53)
  obtain ⟨cl4, Ar4, -, SS4, MM4, HH4, -⟩ := id V_nr
  have hin4 := inb_of SS4 hin
  have hat4 : cl4.slots[(p1).toNatClampNeg]? = some (.int (ys.getD p1.toNatClampNeg 0)) := HH4.at hin4 (own_mgi ys _)
  obtain ⟨fs, hr, hrun, hended, hW, hsame⟩ := X3.leave (v := some (.long ((ys.getD p1.toNatClampNeg 0).toInt64))) (fun h => by rw [Bd.returns] at h; cases h)
  refine ⟨_, _, pre0 _ ?_, hrun, hended, _, _, rfl, ?_, ⟨_, rfl⟩, hW, hsame.mono (by decide) (by decide)⟩
  · show Steps p.tables e below (s₁.setTop (mkF m 0 #[.val (.ref a0), .val (.int p1), .unset, .unset] [])) _
    refine XS.aloadN X0.here hx rfl (hb hby d7_0) rfl rfl ?_
    refine st1 _ ?_
    show Steps p.tables e below (T1.setTop (mkF m 4 #[.val (.ref a0), .val (.int p1), .unset, .unset] [(.int (4 : Int32))])) _
    refine XS.iconst X1.here hx rfl (hb hby d7_4) ?_
    show Steps p.tables e below (T1.setTop (mkF m 5 #[.val (.ref a0), .val (.int p1), .unset, .unset] [(.int (1 : Int32)), (.int (4 : Int32))])) _
    refine XS.icmpYes X1.here hx rfl (pc0 := 5) (pc' := 28) rfl (hb hby d7_5) rfl (feq (by decide : ¬ ((4 : Int32) = (1 : Int32)))).2 (by decide) (by decide) ?_
    show Steps p.tables e below (T1.setTop (mkF m 28 #[.val (.ref a0), .val (.int p1), .unset, .unset] [])) _
    refine XS.aloadN X1.here hx rfl (hb hby d7_28) rfl rfl ?_
    refine st2 _ ?_
    show Steps p.tables e below (T2.setTop (mkF m 32 #[.val (.ref a0), .val (.int p1), .unset, .unset] [(.int (4 : Int32))])) _
    refine XS.iconst X2.here hx rfl (hb hby d7_32) ?_
    show Steps p.tables e below (T2.setTop (mkF m 33 #[.val (.ref a0), .val (.int p1), .unset, .unset] [(.int (2 : Int32)), (.int (4 : Int32))])) _
    refine XS.icmpYes X2.here hx rfl (pc0 := 33) (pc' := 52) rfl (hb hby d7_33) rfl (feq (by decide : ¬ ((4 : Int32) = (2 : Int32)))).2 (by decide) (by decide) ?_
    show Steps p.tables e below (T2.setTop (mkF m 52 #[.val (.ref a0), .val (.int p1), .unset, .unset] [])) _
    refine XS.aloadN X2.here hx rfl (hb hby d7_52) rfl rfl ?_
    refine st3 _ ?_
    show Steps p.tables e below (T3.setTop (mkF m 56 #[.val (.ref a0), .val (.int p1), .unset, .unset] [(.ref nr)])) _
    refine XS.iloadN X3.here hx rfl (hb hby d7_56) rfl ?_
    show Steps p.tables e below (T3.setTop (mkF m 57 #[.val (.ref a0), .val (.int p1), .unset, .unset] [(.int p1), (.ref nr)])) _
    refine X3.iaload hx (j := p1) (v := (.int (ys.getD p1.toNatClampNeg 0))) (by rw [e3]; exact Ar4.1) (State.isArrayOf_alike hZ.alike Ar4.2.1) Ar4.2.2 hin4 hat4 (g := (mkF m 57 #[.val (.ref a0), .val (.int p1), .unset, .unset] [(.int p1), (.ref nr)])) rfl rfl (hb hby d7_57) _ ?_
    show Steps p.tables e below (T3.setTop (mkF m 58 #[.val (.ref a0), .val (.int p1), .unset, .unset] [(.int (ys.getD p1.toNatClampNeg 0))])) _
    refine XS.i2l X3.here hx rfl (hb hby d7_58) rfl ?_
    refine XS.lstoreN X3.here hx rfl (hb hby d7_59) rfl (l' := #[.val (.ref a0), .val (.int p1), .val (.long ((ys.getD p1.toNatClampNeg 0).toInt64)), .second]) rfl ?_
    refine XS.lloadN X3.here hx rfl (hb hby d7_60) rfl ?_
    show Steps p.tables e below (T3.setTop (mkF m 61 #[.val (.ref a0), .val (.int p1), .val (.long ((ys.getD p1.toNatClampNeg 0).toInt64)), .second] [(.long ((ys.getD p1.toNatClampNeg 0).toInt64))])) _
    exact own_retJ X3 hx Bd.returns (hb hby d7_61) hr
  · show QrmI_4 Z a0 p1 bb nr kn nn ys h0 n0 _ T3.heap _
    rw [e3]
    exact ⟨by rw [own_rd4], N0, rfl⟩
theorem d19_0 : decode jdk_65_method_123_code 0 = .ok (.iload_n 1, 1) := by decide +kernel
theorem d19_1 : decode jdk_65_method_123_code 1 = .ok (.aload_n 0, 1) := by decide +kernel
theorem d19_2 : decode jdk_65_method_123_code 2 = .ok (.arraylength, 1) := by decide +kernel
theorem d19_3 : decode jdk_65_method_123_code 3 = .ok (.if_icmp .ne 11, 3) := by decide +kernel
theorem d19_14 : decode jdk_65_method_123_code 14 = .ok (.iload_n 1, 1) := by decide +kernel
theorem d19_15 : decode jdk_65_method_123_code 15 = .ok (.newarray .int, 2) := by decide +kernel
theorem d19_17 : decode jdk_65_method_123_code 17 = .ok (.astore_n 2, 1) := by decide +kernel
theorem d19_18 : decode jdk_65_method_123_code 18 = .ok (.aload_n 0, 1) := by decide +kernel
theorem d19_19 : decode jdk_65_method_123_code 19 = .ok (.iconst 0, 1) := by decide +kernel
theorem d19_20 : decode jdk_65_method_123_code 20 = .ok (.aload_n 2, 1) := by decide +kernel
theorem d19_21 : decode jdk_65_method_123_code 21 = .ok (.iconst 0, 1) := by decide +kernel
theorem d19_22 : decode jdk_65_method_123_code 22 = .ok (.aload_n 0, 1) := by decide +kernel
theorem d19_23 : decode jdk_65_method_123_code 23 = .ok (.arraylength, 1) := by decide +kernel
theorem d19_24 : decode jdk_65_method_123_code 24 = .ok (.iload_n 1, 1) := by decide +kernel
theorem d19_25 : decode jdk_65_method_123_code 25 = .ok (.invokestatic 304, 3) := by decide +kernel
theorem d19_28 : decode jdk_65_method_123_code 28 = .ok (.invokestatic 150, 3) := by decide +kernel
theorem d19_31 : decode jdk_65_method_123_code 31 = .ok (.aload_n 2, 1) := by decide +kernel
theorem d19_32 : decode jdk_65_method_123_code 32 = .ok (.areturn, 1) := by decide +kernel
theorem pn_19 : plainName "java/util/Arrays" = true := by first | (simp [plainName, overriddenIn]; done) | decide +kernel
theorem ef_rmP_4 (m : MethodId) (a0 : Addr) (p1 : Int32) : entryFrame m #[(.ref a0), (.int p1)] 3 = mkF m 0 #[.val (.ref a0), .val (.int p1), .unset] [] := by first | (simp [entryFrame, mkF, argsToLocals, Value.category]; done) | rfl
def QrmP_4 (Z : State) (a0 : Addr) (p1 : Int32) (kn : ClassId) (nn : Int32) (ys : List Int32) (h0 : Heap) (n0 : Nat) (v : Option Value) (h : Heap) (L : List Loc) : Prop := ∃ b : Addr, ∃ kb : ClassId, v = some (.ref b) ∧ Fr n0 L ∧ n0 ≤ b ∧ h0.size ≤ b ∧ Keep h0 h [] ∧ Arv Z h b kb .int p1 ((own_cp ys p1.toNatClampNeg).map Value.int) (.int (0 : Int32))
set_option maxRecDepth 65536 in
set_option maxHeartbeats 40000000 in
theorem rmP_4 (l : Launch) (Z : State) (A0 : Array Value) (hw : ∀ d ∈ tables_1, d.before A0 Z = true) (ws : List Jvm.Cond) (a0 : Addr) (p1 : Int32) (kn : ClassId) (nn : Int32) (ys : List Int32) (h0 : Heap) (n0 : Nat) (Z0 : n0 ≤ h0.size) (V_a0 : Arv Z h0 a0 kn .int nn (ys.map Value.int) (.int (0 : Int32))) (hne : ¬ (p1 = nn)) (hle : 0 ≤ nn.toInt ∧ nn.toInt ≤ p1.toInt ∧ p1.toInt ≤ 8) (hlen : ys.length = nn.toNatClampNeg) :
    MetFree l (⟨"java/util/Arrays", "copyOf", "([II)[I"⟩ : MethodName) (head1 (Jvm.Cond.code (⟨"java/util/Arrays", "copyOf", "([II)[I"⟩ : MethodName) jdk_65_method_123_code 3 (some (.array .int)) :: ws) ({ frames := 1, cells := 1, slots := 8, locals := 18 } : Room)) (fun a U => a = #[(.ref a0), (.int p1)] ∧ Z.Warmed39 U.vm ∧ U.heap = h0) (fun _ _ _ _ _ => True) (fun _ U o U' => ∃ v L, o = .returned v ∧ QrmP_4 Z a0 p1 kn nn ys h0 n0 v U'.heap L ∧ FrameEnd U o U' L ({ frames := 1, cells := 1, slots := 8, locals := 18 } : Room).cells ({ frames := 1, cells := 1, slots := 8, locals := 18 } : Room).slots) := by
  refine MetFree.of_bodySF (plainFor_of_name pn_19) hisR ?_
  intro p e s m args below meth c s₁ Bd hml0 hP hK
  obtain ⟨rfl, hZ, hh⟩ := hP
  have hx := Bd.exec
  have hby := Bd.bytes
  have hml : c.maxLocals = 3 := hml0
  have hown : s.vm.findClass "java/util/Arrays" = some m.cls := findClass_of_methodNamed Bd.named
  have hnm := (name_of_methodNamed Bd.named Bd.method).1
  have X0 : Stand p l e ({ frames := 1, cells := 1, slots := 8, locals := 18 } : Room) s m #[(.ref a0), (.int p1)] below meth c s₁ [] 0 0 := Stand.of_body Bd
  have e0 : s₁.heap = h0 := by rw [← hh, Bd.state]; rfl
  have N0 := Fr.nil n0
  have K0 : Keep h0 h0 [] := Keep.refl _ _
  have pre0 : ∀ t, Steps p.tables e below (s₁.setTop (mkF m 0 #[.val (.ref a0), .val (.int p1), .unset] [])) t → Steps p.tables e below (s₁.setTop (entryFrame m #[(.ref a0), (.int p1)] 3)) t := fun t k => castTop (ef_rmP_4 m a0 p1) k
  obtain ⟨cl1, Ar1, -, SS1, MM1, -, -⟩ := id V_a0
  obtain ⟨T2, h2, k2, X2, e2, E2, A2, st2⟩ := newP X0 hx hZ (hw _ (List.mem_of_getElem? (i := 97) rfl)) e0 (g := (mkF m 15 #[.val (.ref a0), .val (.int p1), .unset] [(.int p1)])) rfl (hb hby d19_15) rfl (own_nneg (by omega)) (cap := 8) (by rw [own_tn]; omega) (by decide) (by decide) (by decide)
  obtain ⟨bb, g2⟩ : ∃ z, z = h0.size := ⟨_, rfl⟩
  rw [← g2] at A2 st2
  have ne_a0_bb : a0 ≠ bb := Nat.ne_of_lt (Nat.lt_of_lt_of_le V_a0.lt (Nat.le_of_eq g2.symm))
  have g_bb : n0 ≤ bb := Nat.le_trans Z0 (Nat.le_of_eq g2.symm)
  have sz_bb : h0.size ≤ bb := Nat.le_trans K0.1 (Nat.le_of_eq g2.symm)
  have V_a0 : Arv Z h2 a0 kn .int nn (ys.map Value.int) (.int (0 : Int32)) := V_a0.ext E2
  have Zh2 : n0 ≤ h2.size := Nat.le_trans Z0 E2.1
  have Kh2 : Keep h0 h2 [] := K0.ext E2
  have V_bb : Arv Z h2 bb k2 .int p1 [] (.int (0 : Int32)) := Arv.new A2 (own_nneg (by omega))
  have V_bb : Arv Z h2 bb k2 .int p1 (List.replicate (p1).toNatClampNeg (.int (0 : Int32))) (.int (0 : Int32)) := V_bb.pad (pad_rep [] (.int (0 : Int32)) (p1).toNatClampNeg)
  obtain ⟨cl3, Ar3, -, SS3, MM3, -, -⟩ := id V_a0
  obtain ⟨_, _, ⟨T4, L4, k4, n4⟩, -, X4, ⟨Lc4, hQ4, l4, y4, z4⟩, st4⟩ := Jvm.LawKit.callS X2 hx (y := (⟨"java/lang/Math", "min", "(II)I"⟩ : MethodName)) hown (mvT hZ (hw _ (List.mem_of_getElem? (i := 91) rfl))) (mvT hZ (hw _ (List.mem_of_getElem? (i := 81) rfl))) (mvT hZ (hw _ (List.mem_of_getElem? (i := 26) rfl))) (mvT hZ (hw _ (List.mem_of_getElem? (i := 82) rfl))) (by decide) (backOf (W := 4) (rm16 l Z A0 hw [] nn p1  h2 n0 Zh2 ) hZ (hw _ (List.mem_of_getElem? (i := 82) rfl)) (hw _ (List.mem_of_getElem? (i := 26) rfl)) (by decide) (by decide)) (g := (mkF m 25 #[.val (.ref a0), .val (.int p1), .val (.ref bb)] [(.int p1), (.int nn), (.int (0 : Int32)), (.ref bb), (.int (0 : Int32)), (.ref a0)])) rfl (by rw [hml]; rfl) (argsL := [(.int nn), (.int p1)]) (rest := [(.int (0 : Int32)), (.ref bb), (.int (0 : Int32)), (.ref a0)]) (lenOf pd_1 rfl) rfl (by show 2 * 0 + _ ≤ _; exact Nat.le_of_eq rfl) (hb hby d19_25) (fun _ _ => ⟨rfl, e2, (by decide : 1 + 0 ≤ _), (by decide : 8 + 0 ≤ _)⟩)
  dsimp only [Pt.U, Pt.locs, Pt.cells, Pt.slots] at X4 l4 y4 z4 st4 hQ4
  subst y4 z4
  obtain ⟨rfl, N4q, eh4⟩ := hQ4
  have N4 : Fr n0 L4 := by rw [l4]; exact Fr.app N0 N4q
  clear l4
  obtain ⟨cn, h_cn⟩ : ∃ z : Int32, z = (if p1 < nn then p1 else nn) := ⟨_, rfl⟩
  rcases (own_min (a := nn) (b := p1) hle.2.1 h_cn).symm with rfl
  obtain ⟨T5, h5, L5, X5, e5, N5, Kc5, P5, st5⟩ := cpA X4 hx hZ hown (hw _ (List.mem_of_getElem? (i := 92) rfl)) (hw _ (List.mem_of_getElem? (i := 95) rfl)) (hw _ (List.mem_of_getElem? (i := 93) rfl)) (hw _ (List.mem_of_getElem? (i := 94) rfl)) eh4 V_a0 V_bb (us := ((List.range (nn).toNatClampNeg).map fun i => ((ys.map Value.int)).getD (((0 : Int32)).toNatClampNeg + i) (.int (0 : Int32)))) (Or.inl ⟨rfl, rfl⟩) (by decide) (by decide) (own_nneg hle.1) (by show 0 + _ ≤ _; omega) (by show 0 + _ ≤ _; rw [own_tn, own_tn]; omega) rfl (by rw [List.length_replicate]; show 0 + _ ≤ _; rw [own_tn, own_tn]; omega) N4 g_bb (g := (mkF m 28 #[.val (.ref a0), .val (.int p1), .val (.ref bb)] [(.int nn), (.int (0 : Int32)), (.ref bb), (.int (0 : Int32)), (.ref a0)])) rfl (by rw [hml]; rfl) rfl (hb hby d19_28) (by decide) (W := 0) (by show 2 * 0 + _ ≤ _; exact Nat.le_of_eq rfl) (by decide)
  have V_a0 : Arv Z h5 a0 kn .int nn (ys.map Value.int) (.int (0 : Int32)) := V_a0.keep Kc5 (ninS ne_a0_bb nin0)
  have Zh5 : n0 ≤ h5.size := Nat.le_trans Zh2 Kc5.1
  have Kh5 : Keep h0 h5 [] := Kh2.trans Kc5 (allS (Or.inr sz_bb) all0)
  have V_bb : Arv Z h5 bb k2 .int p1 ((own_cp ys p1.toNatClampNeg).map Value.int) (.int (0 : Int32)) := by rw [← own_copy_eq hlen (by rw [own_tn, own_tn]; omega)]; exact P5
  obtain ⟨fs, hr, hrun, hended, hW, hsame⟩ := X5.leave (v := some (.ref bb)) (fun h => by rw [Bd.returns] at h; cases h)
  refine ⟨_, _, pre0 _ ?_, hrun, hended, _, _, rfl, ?_, ⟨_, rfl⟩, hW, hsame.mono (by decide) (by decide)⟩
  · show Steps p.tables e below (s₁.setTop (mkF m 0 #[.val (.ref a0), .val (.int p1), .unset] [])) _
    refine XS.iloadN X0.here hx rfl (hb hby d19_0) rfl ?_
    refine XS.aloadN X0.here hx rfl (hb hby d19_1) rfl rfl ?_
    refine X0.arraylength hx (by rw [e0]; exact Ar1.1) (State.isArrayOf_alike hZ.alike Ar1.2.1) (g := (mkF m 2 #[.val (.ref a0), .val (.int p1), .unset] [(.ref a0), (.int p1)])) rfl rfl (hb hby d19_2) _ ?_
    rw [len_of SS1 MM1]
    show Steps p.tables e below (s₁.setTop (mkF m 3 #[.val (.ref a0), .val (.int p1), .unset] [(.int nn), (.int p1)])) _
    refine XS.icmpYes X0.here hx rfl (pc0 := 3) (pc' := 14) rfl (hb hby d19_3) rfl (feq (hne : ¬ (p1 = nn))).2 (by decide) (by decide) ?_
    show Steps p.tables e below (s₁.setTop (mkF m 14 #[.val (.ref a0), .val (.int p1), .unset] [])) _
    refine XS.iloadN X0.here hx rfl (hb hby d19_14) rfl ?_
    refine st2 _ ?_
    show Steps p.tables e below (T2.setTop (mkF m 17 #[.val (.ref a0), .val (.int p1), .unset] [(.ref bb)])) _
    refine XS.astoreN X2.here hx rfl (hb hby d19_17) rfl rfl (l' := #[.val (.ref a0), .val (.int p1), .val (.ref bb)]) rfl ?_
    show Steps p.tables e below (T2.setTop (mkF m 18 #[.val (.ref a0), .val (.int p1), .val (.ref bb)] [])) _
    refine XS.aloadN X2.here hx rfl (hb hby d19_18) rfl rfl ?_
    refine XS.iconst X2.here hx rfl (hb hby d19_19) ?_
    refine XS.aloadN X2.here hx rfl (hb hby d19_20) rfl rfl ?_
    refine XS.iconst X2.here hx rfl (hb hby d19_21) ?_
    show Steps p.tables e below (T2.setTop (mkF m 22 #[.val (.ref a0), .val (.int p1), .val (.ref bb)] [(.int (0 : Int32)), (.ref bb), (.int (0 : Int32)), (.ref a0)])) _
    refine XS.aloadN X2.here hx rfl (hb hby d19_22) rfl rfl ?_
    refine X2.arraylength hx (by rw [e2]; exact Ar3.1) (State.isArrayOf_alike hZ.alike Ar3.2.1) (g := (mkF m 23 #[.val (.ref a0), .val (.int p1), .val (.ref bb)] [(.ref a0), (.int (0 : Int32)), (.ref bb), (.int (0 : Int32)), (.ref a0)])) rfl rfl (hb hby d19_23) _ ?_
    rw [len_of SS3 MM3]
    show Steps p.tables e below (T2.setTop (mkF m 24 #[.val (.ref a0), .val (.int p1), .val (.ref bb)] [(.int nn), (.int (0 : Int32)), (.ref bb), (.int (0 : Int32)), (.ref a0)])) _
    refine XS.iloadN X2.here hx rfl (hb hby d19_24) rfl ?_
    refine st4 _ ?_
    show Steps p.tables e below (T4.setTop (mkF m 28 #[.val (.ref a0), .val (.int p1), .val (.ref bb)] [(.int (if p1 < nn then p1 else nn)), (.int (0 : Int32)), (.ref bb), (.int (0 : Int32)), (.ref a0)])) _
    rw [← h_cn]
    show Steps p.tables e below (T4.setTop (mkF m 28 #[.val (.ref a0), .val (.int p1), .val (.ref bb)] [(.int nn), (.int (0 : Int32)), (.ref bb), (.int (0 : Int32)), (.ref a0)])) _
    refine st5 _ ?_
    show Steps p.tables e below (T5.setTop (mkF m 31 #[.val (.ref a0), .val (.int p1), .val (.ref bb)] [])) _
    refine XS.aloadN X5.here hx rfl (hb hby d19_31) rfl rfl ?_
    exact own_retR X5 hx Bd.returns rfl rfl rfl (hb hby d19_32) hr
  · show QrmP_4 Z a0 p1 kn nn ys h0 n0 _ T5.heap _
    rw [e5]
    exact ⟨bb, k2, rfl, N5, g_bb, sz_bb, Kh5, V_bb⟩
theorem pd_4 : parseMethodDescriptor "([II)[I" = some ⟨[(.array .int), .int], some (.array .int)⟩ := by decide +kernel
theorem d17_46 : decode prog_257_method_14_code 46 = .ok (.aload_n 0, 1) := by decide +kernel
theorem d17_47 : decode prog_257_method_14_code 47 = .ok (.aload_n 0, 1) := by decide +kernel
theorem d17_48 : decode prog_257_method_14_code 48 = .ok (.getfield 43, 3) := by decide +kernel
theorem d17_51 : decode prog_257_method_14_code 51 = .ok (.iload_n 1, 1) := by decide +kernel
theorem d17_52 : decode prog_257_method_14_code 52 = .ok (.invokestatic 109, 3) := by decide +kernel
theorem d17_55 : decode prog_257_method_14_code 55 = .ok (.putfield 43, 3) := by decide +kernel
theorem ef_rmR_4 (m : MethodId) (a0 : Addr) (p1 : Int32) : entryFrame m #[(.ref a0), (.int p1)] 2 = mkF m 0 #[.val (.ref a0), .val (.int p1)] [] := by first | (simp [entryFrame, mkF, argsToLocals, Value.category]; done) | rfl
def QrmR_4 (Z : State) (a0 : Addr) (p1 : Int32) (u_base : Value) (u_based : Value) (u_narrow : Value) (u_middle : Value) (u_nulls : Value) (nr : Addr) (kn : ClassId) (nn : Int32) (ys : List Int32) (h0 : Heap) (n0 : Nat) (v : Option Value) (h : Heap) (L : List Loc) : Prop := ∃ b : Addr, ∃ kb : ClassId, v = none ∧ Fr n0 L ∧ (n0 ≤ b ∧ h0.size ≤ b) ∧ Keep h0 h [a0] ∧ Exa Z h a0 "com/example/wadjet/wadjet/storage/IntegerChunk" ∧ Fld Z h a0 "com/example/wadjet/wadjet/storage/IntegerChunk" "width" "I" (.int (4 : Int32)) ∧ Fld Z h a0 "com/example/wadjet/wadjet/storage/IntegerChunk" "base" "J" u_base ∧ Fld Z h a0 "com/example/wadjet/wadjet/storage/IntegerChunk" "based" "Z" u_based ∧ Fld Z h a0 "com/example/wadjet/wadjet/storage/IntegerChunk" "narrow" "[B" u_narrow ∧ Fld Z h a0 "com/example/wadjet/wadjet/storage/IntegerChunk" "middle" "[C" u_middle ∧ Fld Z h a0 "com/example/wadjet/wadjet/storage/IntegerChunk" "wide" "[I" (.ref b) ∧ Fld Z h a0 "com/example/wadjet/wadjet/storage/IntegerChunk" "nulls" "[J" u_nulls ∧ Arv Z h b kb .int p1 ((own_cp ys p1.toNatClampNeg).map Value.int) (.int (0 : Int32))
set_option maxRecDepth 65536 in
set_option maxHeartbeats 40000000 in
theorem rmR_4 (l : Launch) (Z : State) (A0 : Array Value) (hw : ∀ d ∈ tables_1, d.before A0 Z = true) (ws : List Jvm.Cond) (a0 : Addr) (p1 : Int32) (u_base : Value) (u_based : Value) (u_narrow : Value) (u_middle : Value) (u_nulls : Value) (nr : Addr) (kn : ClassId) (nn : Int32) (ys : List Int32) (h0 : Heap) (n0 : Nat) (Z0 : n0 ≤ h0.size) (E_a0 : Exa Z h0 a0 "com/example/wadjet/wadjet/storage/IntegerChunk") (F_width_a0 : Fld Z h0 a0 "com/example/wadjet/wadjet/storage/IntegerChunk" "width" "I" (.int (4 : Int32))) (F_base_a0 : Fld Z h0 a0 "com/example/wadjet/wadjet/storage/IntegerChunk" "base" "J" u_base) (F_based_a0 : Fld Z h0 a0 "com/example/wadjet/wadjet/storage/IntegerChunk" "based" "Z" u_based) (F_narrow_a0 : Fld Z h0 a0 "com/example/wadjet/wadjet/storage/IntegerChunk" "narrow" "[B" u_narrow) (F_middle_a0 : Fld Z h0 a0 "com/example/wadjet/wadjet/storage/IntegerChunk" "middle" "[C" u_middle) (F_wide_a0 : Fld Z h0 a0 "com/example/wadjet/wadjet/storage/IntegerChunk" "wide" "[I" (.ref nr)) (F_nulls_a0 : Fld Z h0 a0 "com/example/wadjet/wadjet/storage/IntegerChunk" "nulls" "[J" u_nulls) (V_nr : Arv Z h0 nr kn .int nn (ys.map Value.int) (.int (0 : Int32))) (g_a0 : n0 ≤ a0) (ne_nr_a0 : nr ≠ a0) (hne : ¬ (p1 = nn)) (hle : 0 ≤ nn.toInt ∧ nn.toInt ≤ p1.toInt ∧ p1.toInt ≤ 8) (hlen : ys.length = nn.toNatClampNeg) :
    MetFree l (⟨"com/example/wadjet/wadjet/storage/IntegerChunk", "resize", "(I)V"⟩ : MethodName) (head1 (Jvm.Cond.code (⟨"com/example/wadjet/wadjet/storage/IntegerChunk", "resize", "(I)V"⟩ : MethodName) prog_257_method_14_code 2 none :: ws) ({ frames := 2, cells := 1, slots := 8, locals := 33 } : Room)) (fun a U => a = #[(.ref a0), (.int p1)] ∧ Z.Warmed39 U.vm ∧ U.heap = h0) (fun _ _ _ _ _ => True) (fun _ U o U' => ∃ v L, o = .returned v ∧ QrmR_4 Z a0 p1 u_base u_based u_narrow u_middle u_nulls nr kn nn ys h0 n0 v U'.heap L ∧ FrameEnd U o U' L ({ frames := 2, cells := 1, slots := 8, locals := 33 } : Room).cells ({ frames := 2, cells := 1, slots := 8, locals := 33 } : Room).slots) := by
  refine MetFree.of_bodySF (plainFor_of_name pn_17) hisR ?_
  intro p e s m args below meth c s₁ Bd hml0 hP hK
  obtain ⟨rfl, hZ, hh⟩ := hP
  have hx := Bd.exec
  have hby := Bd.bytes
  have hml : c.maxLocals = 2 := hml0
  have hown : s.vm.findClass "com/example/wadjet/wadjet/storage/IntegerChunk" = some m.cls := findClass_of_methodNamed Bd.named
  have hnm := (name_of_methodNamed Bd.named Bd.method).1
  have X0 : Stand p l e ({ frames := 2, cells := 1, slots := 8, locals := 33 } : Room) s m #[(.ref a0), (.int p1)] below meth c s₁ [] 0 0 := Stand.of_body Bd
  have e0 : s₁.heap = h0 := by rw [← hh, Bd.state]; rfl
  have N0 := Fr.nil n0
  have K0 : Keep h0 h0 [a0] := Keep.refl _ _
  have pre0 : ∀ t, Steps p.tables e below (s₁.setTop (mkF m 0 #[.val (.ref a0), .val (.int p1)] [])) t → Steps p.tables e below (s₁.setTop (entryFrame m #[(.ref a0), (.int p1)] 2)) t := fun t k => castTop (ef_rmR_4 m a0 p1) k
  obtain ⟨T1, X1, e1, st1⟩ := getF X0 hx hZ hown (host := "") (Or.inl (hw _ (List.mem_of_getElem? (i := 14) rfl))) Via.refl e0 F_width_a0 (g := (mkF m 1 #[.val (.ref a0), .val (.int p1)] [(.ref a0)])) rfl rfl (hb hby d17_1)
  obtain ⟨T2, X2, e2, st2⟩ := getF X1 hx hZ hown (host := "") (Or.inl (hw _ (List.mem_of_getElem? (i := 14) rfl))) Via.refl e1 F_width_a0 (g := (mkF m 24 #[.val (.ref a0), .val (.int p1)] [(.ref a0)])) rfl rfl (hb hby d17_24)
  obtain ⟨T3, X3, e3, st3⟩ := getF X2 hx hZ hown (host := "") (Or.inl (hw _ (List.mem_of_getElem? (i := 62) rfl))) Via.refl e2 F_wide_a0 (g := (mkF m 48 #[.val (.ref a0), .val (.int p1)] [(.ref a0), (.ref a0)])) rfl rfl (hb hby d17_48)
  obtain ⟨_, _, ⟨T4, L4, k4, n4⟩, -, X4, ⟨Lc4, hQ4, l4, y4, z4⟩, st4⟩ := Jvm.LawKit.callS X3 hx (y := (⟨"java/util/Arrays", "copyOf", "([II)[I"⟩ : MethodName)) hown (mvT hZ (hw _ (List.mem_of_getElem? (i := 98) rfl))) (mvT hZ (hw _ (List.mem_of_getElem? (i := 99) rfl))) (mvT hZ (hw _ (List.mem_of_getElem? (i := 89) rfl))) (mvT hZ (hw _ (List.mem_of_getElem? (i := 100) rfl))) (by decide) (backOf (W := 1) (rmP_4 l Z A0 hw [] nr p1 kn nn ys h0 n0 Z0 V_nr (hne) (hle) (hlen)) hZ (hw _ (List.mem_of_getElem? (i := 100) rfl)) (hw _ (List.mem_of_getElem? (i := 89) rfl)) (by decide) (by decide)) (g := (mkF m 52 #[.val (.ref a0), .val (.int p1)] [(.int p1), (.ref nr), (.ref a0)])) rfl (by rw [hml]; rfl) (argsL := [(.ref nr), (.int p1)]) (rest := [(.ref a0)]) (lenOf pd_4 rfl) rfl (by show 2 * 0 + _ ≤ _; exact Nat.le_of_eq rfl) (hb hby d17_52) (fun _ _ => ⟨rfl, e3, (by decide : 0 + 1 ≤ _), (by decide : 0 + 8 ≤ _)⟩)
  dsimp only [Pt.U, Pt.locs, Pt.cells, Pt.slots] at X4 l4 y4 z4 st4 hQ4
  subst y4 z4
  obtain ⟨b4, kb4, rfl, N4q, gb4, sb4, Kc4, P4_0⟩ := hQ4
  have N4 : Fr n0 L4 := by rw [l4]; exact Fr.app N0 N4q
  clear l4
  have ne_a0_b4 : a0 ≠ b4 := Nat.ne_of_lt (Nat.lt_of_lt_of_le E_a0.lt sb4)
  have ne_nr_b4 : nr ≠ b4 := Nat.ne_of_lt (Nat.lt_of_lt_of_le V_nr.lt sb4)
  have sz_b4 : h0.size ≤ b4 := Nat.le_trans K0.1 sb4
  have E_a0 : Exa Z T4.heap a0 "com/example/wadjet/wadjet/storage/IntegerChunk" := E_a0.keep Kc4
  have F_width_a0 : Fld Z T4.heap a0 "com/example/wadjet/wadjet/storage/IntegerChunk" "width" "I" (.int (4 : Int32)) := F_width_a0.keep Kc4 nin0
  have F_base_a0 : Fld Z T4.heap a0 "com/example/wadjet/wadjet/storage/IntegerChunk" "base" "J" u_base := F_base_a0.keep Kc4 nin0
  have F_based_a0 : Fld Z T4.heap a0 "com/example/wadjet/wadjet/storage/IntegerChunk" "based" "Z" u_based := F_based_a0.keep Kc4 nin0
  have F_narrow_a0 : Fld Z T4.heap a0 "com/example/wadjet/wadjet/storage/IntegerChunk" "narrow" "[B" u_narrow := F_narrow_a0.keep Kc4 nin0
  have F_middle_a0 : Fld Z T4.heap a0 "com/example/wadjet/wadjet/storage/IntegerChunk" "middle" "[C" u_middle := F_middle_a0.keep Kc4 nin0
  have F_wide_a0 : Fld Z T4.heap a0 "com/example/wadjet/wadjet/storage/IntegerChunk" "wide" "[I" (.ref nr) := F_wide_a0.keep Kc4 nin0
  have F_nulls_a0 : Fld Z T4.heap a0 "com/example/wadjet/wadjet/storage/IntegerChunk" "nulls" "[J" u_nulls := F_nulls_a0.keep Kc4 nin0
  have V_nr : Arv Z T4.heap nr kn .int nn (ys.map Value.int) (.int (0 : Int32)) := V_nr.keep Kc4 nin0
  have ZT4_heap : n0 ≤ T4.heap.size := Nat.le_trans Z0 Kc4.1
  have KT4_heap : Keep h0 T4.heap [a0] := K0.trans Kc4 all0
  have V_b4 : Arv Z T4.heap b4 kb4 .int p1 ((own_cp ys p1.toNatClampNeg).map Value.int) (.int (0 : Int32)) := P4_0
  obtain ⟨T5, h5, X5, e5, W5, st5⟩ := putF X4 hx hZ hown (host := "") (Or.inl (hw _ (List.mem_of_getElem? (i := 62) rfl))) Via.refl rfl F_wide_a0 E_a0 (Or.inl (hw _ (List.mem_of_getElem? (i := 63) rfl))) (hw _ (List.mem_of_getElem? (i := 1) rfl)) (ty := (.array .int)) (by decide) rfl rfl (g := (mkF m 55 #[.val (.ref a0), .val (.int p1)] [(.ref b4), (.ref a0)])) rfl rfl (hb hby d17_55)
  have F_wide_a0 : Fld Z h5 a0 "com/example/wadjet/wadjet/storage/IntegerChunk" "wide" "[I" (.ref b4) := F_wide_a0.same W5
  have E_a0 : Exa Z h5 a0 "com/example/wadjet/wadjet/storage/IntegerChunk" := E_a0.wr W5
  have F_width_a0 : Fld Z h5 a0 "com/example/wadjet/wadjet/storage/IntegerChunk" "width" "I" (.int (4 : Int32)) := F_width_a0.other W5 (Or.inr (slot_ne (Or.inl (hw _ (List.mem_of_getElem? (i := 15) rfl))) (Or.inl (hw _ (List.mem_of_getElem? (i := 63) rfl))) (by decide) (t := .int) (t' := (.array .int)) (by decide) (by decide)))
  have F_base_a0 : Fld Z h5 a0 "com/example/wadjet/wadjet/storage/IntegerChunk" "base" "J" u_base := F_base_a0.other W5 (Or.inr (slot_ne (Or.inl (hw _ (List.mem_of_getElem? (i := 31) rfl))) (Or.inl (hw _ (List.mem_of_getElem? (i := 63) rfl))) (by decide) (t := .long) (t' := (.array .int)) (by decide) (by decide)))
  have F_based_a0 : Fld Z h5 a0 "com/example/wadjet/wadjet/storage/IntegerChunk" "based" "Z" u_based := F_based_a0.other W5 (Or.inr (slot_ne (Or.inl (hw _ (List.mem_of_getElem? (i := 29) rfl))) (Or.inl (hw _ (List.mem_of_getElem? (i := 63) rfl))) (by decide) (t := .boolean) (t' := (.array .int)) (by decide) (by decide)))
  have F_narrow_a0 : Fld Z h5 a0 "com/example/wadjet/wadjet/storage/IntegerChunk" "narrow" "[B" u_narrow := F_narrow_a0.other W5 (Or.inr (slot_ne (Or.inl (hw _ (List.mem_of_getElem? (i := 18) rfl))) (Or.inl (hw _ (List.mem_of_getElem? (i := 63) rfl))) (by decide) (t := (.array .byte)) (t' := (.array .int)) (by decide) (by decide)))
  have F_middle_a0 : Fld Z h5 a0 "com/example/wadjet/wadjet/storage/IntegerChunk" "middle" "[C" u_middle := F_middle_a0.other W5 (Or.inr (slot_ne (Or.inl (hw _ (List.mem_of_getElem? (i := 61) rfl))) (Or.inl (hw _ (List.mem_of_getElem? (i := 63) rfl))) (by decide) (t := (.array .char)) (t' := (.array .int)) (by decide) (by decide)))
  have F_nulls_a0 : Fld Z h5 a0 "com/example/wadjet/wadjet/storage/IntegerChunk" "nulls" "[J" u_nulls := F_nulls_a0.other W5 (Or.inr (slot_ne (Or.inl (hw _ (List.mem_of_getElem? (i := 37) rfl))) (Or.inl (hw _ (List.mem_of_getElem? (i := 63) rfl))) (by decide) (t := (.array .long)) (t' := (.array .int)) (by decide) (by decide)))
  have V_nr : Arv Z h5 nr kn .int nn (ys.map Value.int) (.int (0 : Int32)) := V_nr.other W5 ne_nr_a0
  have V_b4 : Arv Z h5 b4 kb4 .int p1 ((own_cp ys p1.toNatClampNeg).map Value.int) (.int (0 : Int32)) := V_b4.other W5 (Ne.symm ne_a0_b4)
  have Zh5 : n0 ≤ h5.size := Nat.le_trans ZT4_heap (Keep.of_wr W5).1
  have Kh5 : Keep h0 h5 [a0] := KT4_heap.wr W5 (Or.inl (by simp))
  have N5 := Fr.snoc X5 N4 g_a0
  obtain ⟨fs, hr, hrun, hended, hW, hsame⟩ := X5.leave (v := none) (fun _ => rfl)
  refine ⟨_, _, pre0 _ ?_, hrun, hended, _, _, rfl, ?_, ⟨_, rfl⟩, hW, hsame.mono (by decide) (by decide)⟩
  · show Steps p.tables e below (s₁.setTop (mkF m 0 #[.val (.ref a0), .val (.int p1)] [])) _
    refine XS.aloadN X0.here hx rfl (hb hby d17_0) rfl rfl ?_
    refine st1 _ ?_
    show Steps p.tables e below (T1.setTop (mkF m 4 #[.val (.ref a0), .val (.int p1)] [(.int (4 : Int32))])) _
    refine XS.iconst X1.here hx rfl (hb hby d17_4) ?_
    show Steps p.tables e below (T1.setTop (mkF m 5 #[.val (.ref a0), .val (.int p1)] [(.int (1 : Int32)), (.int (4 : Int32))])) _
    refine XS.icmpYes X1.here hx rfl (pc0 := 5) (pc' := 23) rfl (hb hby d17_5) rfl (feq (by decide : ¬ ((4 : Int32) = (1 : Int32)))).2 (by decide) (by decide) ?_
    show Steps p.tables e below (T1.setTop (mkF m 23 #[.val (.ref a0), .val (.int p1)] [])) _
    refine XS.aloadN X1.here hx rfl (hb hby d17_23) rfl rfl ?_
    refine st2 _ ?_
    show Steps p.tables e below (T2.setTop (mkF m 27 #[.val (.ref a0), .val (.int p1)] [(.int (4 : Int32))])) _
    refine XS.iconst X2.here hx rfl (hb hby d17_27) ?_
    show Steps p.tables e below (T2.setTop (mkF m 28 #[.val (.ref a0), .val (.int p1)] [(.int (2 : Int32)), (.int (4 : Int32))])) _
    refine XS.icmpYes X2.here hx rfl (pc0 := 28) (pc' := 46) rfl (hb hby d17_28) rfl (feq (by decide : ¬ ((4 : Int32) = (2 : Int32)))).2 (by decide) (by decide) ?_
    show Steps p.tables e below (T2.setTop (mkF m 46 #[.val (.ref a0), .val (.int p1)] [])) _
    refine XS.aloadN X2.here hx rfl (hb hby d17_46) rfl rfl ?_
    refine XS.aloadN X2.here hx rfl (hb hby d17_47) rfl rfl ?_
    refine st3 _ ?_
    show Steps p.tables e below (T3.setTop (mkF m 51 #[.val (.ref a0), .val (.int p1)] [(.ref nr), (.ref a0)])) _
    refine XS.iloadN X3.here hx rfl (hb hby d17_51) rfl ?_
    refine st4 _ ?_
    show Steps p.tables e below (T4.setTop (mkF m 55 #[.val (.ref a0), .val (.int p1)] [(.ref b4), (.ref a0)])) _
    refine st5 _ ?_
    show Steps p.tables e below (T5.setTop (mkF m 58 #[.val (.ref a0), .val (.int p1)] [])) _
    exact X5.returnOut hx Bd.returns (hb hby d17_58) hr
  · show QrmR_4 Z a0 p1 u_base u_based u_narrow u_middle u_nulls nr kn nn ys h0 n0 _ T5.heap _
    rw [e5]
    exact ⟨b4, kb4, rfl, N5, ⟨gb4, sz_b4⟩, Kh5, E_a0, F_width_a0, F_base_a0, F_based_a0, F_narrow_a0, F_middle_a0, F_wide_a0, F_nulls_a0, V_b4⟩
theorem own_nat8 {n : Nat} (h : n ≤ 8) : (Int32.ofNat n).toInt = (n : Int) := (by decide : ∀ k : Fin 9, (Int32.ofNat k.1).toInt = (k.1 : Int)) ⟨n, by omega⟩
theorem own_idx {i : Nat} (h : i < 8) : (Int32.ofNat i).toNatClampNeg = i := (by decide : ∀ k : Fin 8, (Int32.ofNat k.1).toNatClampNeg = k.1) ⟨i, h⟩
theorem own_inN {i : Nat} {nn : Int32} (hn : nn.toInt ≤ 8) (h : (i : Int) < nn.toInt) : ¬ ((Int32.ofNat i) < 0) ∧ (Int32.ofNat i) < nn := by
  rw [Int32.lt_iff_toInt_lt, Int32.lt_iff_toInt_lt, own_z32, own_nat8 (by omega)]; omega
theorem own_mgl (zs : List Int64) (i : Nat) : (zs.map Value.long).getD i (.long (0 : Int64)) = .long (zs.getD i 0) := by
  simp only [List.getD_eq_getElem?_getD, List.getElem?_map]
  cases zs[i]? <;> rfl
theorem own_sgl (zs : List Int64) (i j : Nat) (x : Int64) : (zs.set i x).getD j 0 = if i = j ∧ j < zs.length then x else zs.getD j 0 := by
  simp only [List.getD_eq_getElem?_getD, List.getElem?_set]
  by_cases h : i = j
  · subst h
    by_cases h2 : i < zs.length
    · simp [h2]
    · simp [h2]
  · simp [h]
theorem own_sgi (zs : List Int32) (i j : Nat) (x : Int32) : (zs.set i x).getD j 0 = if i = j ∧ j < zs.length then x else zs.getD j 0 := by
  simp only [List.getD_eq_getElem?_getD, List.getElem?_set]
  by_cases h : i = j
  · subst h
    by_cases h2 : i < zs.length
    · simp [h2]
    · simp [h2]
  · simp [h]
theorem own_rb {zs : List Int64} {i : Nat} {x : Int64} (h : i < 8) (hl : i < zs.length) : ((zs.set i x).map Value.long).getD (Int32.ofNat i).toNatClampNeg (.long (0 : Int64)) = .long x := by
  rw [own_idx h, own_mgl, own_sgl, if_pos ⟨rfl, hl⟩]
def own_mn (a b : Int64) : Int64 := (if b < a then b else a)
def own_mx (a b : Int64) : Int64 := (if a < b then b else a)
def own_X (k : Int32) (bb : Int64) (ys : List Int32) (p1 : Int32) (q2 : Int64) (j : Nat) : Int64 := if (Int32.ofNat j) = p1 then q2 else own_rd k bb (ys.getD j 0)
def own_rl (X : Nat → Int64) : Nat → Nat → Int64 → Int64
  | 0, _, a => a
  | t + 1, i, a => own_rl X t (i + 1) (own_mn a (X i))
def own_rg (X : Nat → Int64) : Nat → Nat → Int64 → Int64
  | 0, _, a => a
  | t + 1, i, a => own_rg X t (i + 1) (own_mx a (X i))
def own_rz (X : Nat → Int64) : Nat → Nat → List Int64 → List Int64
  | 0, _, zs => zs
  | t + 1, i, zs => own_rz X t (i + 1) (zs.set i (X i))
theorem own_endN {i : Nat} {nn : Int32} (hn : nn.toInt ≤ 8) (h : (i : Int) + ((0 : Nat) : Int) = nn.toInt) : ¬ ((Int32.ofNat i) < nn) := by
  rw [Int32.lt_iff_toInt_lt, own_nat8 (by omega)]; omega
def own_en1 (b x : Int64) : Int32 := nar .byte (((x - b).toInt32).toInt8.toInt32)
def own_en2 (b x : Int64) : Int32 := nar .char (((x - b).toInt32).toUInt32.toUInt16.toUInt32.toInt32)
def own_en4 (b x : Int64) : Int32 := x.toInt32
def own_rw (f : Nat → Int32) : Nat → Nat → List Int32 → List Int32
  | 0, _, ws => ws
  | t + 1, i, ws => own_rw f t (i + 1) (ws.set i (f i))
theorem own_zi {zs : List Int64} {i : Nat} (h : i < 8) : (zs.map Value.long).getD (Int32.ofNat i).toNatClampNeg (.long (0 : Int64)) = .long (zs.getD i 0) := by rw [own_idx h, own_mgl]

theorem pd_5 : parseMethodDescriptor "(JJ)J" = some ⟨[.long, .long], some .long⟩ := by decide +kernel
theorem d9_17 : decode prog_257_method_15_code 17 = .ok (.iload 9, 2) := by decide +kernel
theorem d9_19 : decode prog_257_method_15_code 19 = .ok (.aload 4, 2) := by decide +kernel
theorem d9_21 : decode prog_257_method_15_code 21 = .ok (.arraylength, 1) := by decide +kernel
theorem d9_22 : decode prog_257_method_15_code 22 = .ok (.if_icmp .ge 54, 3) := by decide +kernel
theorem d9_25 : decode prog_257_method_15_code 25 = .ok (.aload 4, 2) := by decide +kernel
theorem d9_27 : decode prog_257_method_15_code 27 = .ok (.iload 9, 2) := by decide +kernel
theorem d9_29 : decode prog_257_method_15_code 29 = .ok (.iload 9, 2) := by decide +kernel
theorem d9_31 : decode prog_257_method_15_code 31 = .ok (.iload_n 1, 1) := by decide +kernel
theorem d9_32 : decode prog_257_method_15_code 32 = .ok (.if_icmp .ne 7, 3) := by decide +kernel
theorem d9_35 : decode prog_257_method_15_code 35 = .ok (.lload_n 2, 1) := by decide +kernel
theorem d9_36 : decode prog_257_method_15_code 36 = .ok (.goto 9, 3) := by decide +kernel
theorem d9_45 : decode prog_257_method_15_code 45 = .ok (.lastore, 1) := by decide +kernel
theorem d9_46 : decode prog_257_method_15_code 46 = .ok (.lload 5, 2) := by decide +kernel
theorem d9_48 : decode prog_257_method_15_code 48 = .ok (.aload 4, 2) := by decide +kernel
theorem d9_50 : decode prog_257_method_15_code 50 = .ok (.iload 9, 2) := by decide +kernel
theorem d9_52 : decode prog_257_method_15_code 52 = .ok (.laload, 1) := by decide +kernel
theorem d9_53 : decode prog_257_method_15_code 53 = .ok (.invokestatic 112, 3) := by decide +kernel
theorem d9_56 : decode prog_257_method_15_code 56 = .ok (.lstore 5, 2) := by decide +kernel
theorem d9_58 : decode prog_257_method_15_code 58 = .ok (.lload 7, 2) := by decide +kernel
theorem d9_60 : decode prog_257_method_15_code 60 = .ok (.aload 4, 2) := by decide +kernel
theorem d9_62 : decode prog_257_method_15_code 62 = .ok (.iload 9, 2) := by decide +kernel
theorem d9_64 : decode prog_257_method_15_code 64 = .ok (.laload, 1) := by decide +kernel
theorem d9_65 : decode prog_257_method_15_code 65 = .ok (.invokestatic 116, 3) := by decide +kernel
theorem d9_68 : decode prog_257_method_15_code 68 = .ok (.lstore 7, 2) := by decide +kernel
theorem d9_70 : decode prog_257_method_15_code 70 = .ok (.iinc 9 1, 3) := by decide +kernel
theorem d9_73 : decode prog_257_method_15_code 73 = .ok (.goto (-56), 3) := by decide +kernel
set_option maxRecDepth 65536 in
set_option maxHeartbeats 40000000 in
theorem tw1e {p : Program} {l : Launch} {e : Env} {s : State} {m : MethodId} {args : Array Value} {below : List Frame} {meth : Method} {c : Code} {T0 : State} {locs : List Loc} {cells slots : Nat} {Z : State} {A0 : Array Value} {h0 : Heap} {n0 : Nat} (a0 : Addr) (p1 : Int32) (q2 : Int64) (va : Addr) (ls gr : Int64) (i : Nat) (u_based : Value) (u_middle : Value) (u_wide : Value) (u_nulls : Value) (bb : Int64) (nr : Addr) (kn : ClassId) (nn : Int32) (ys : List Int32) (kv : ClassId) (zs : List Int64) (X0 : Stand p l e ({ frames := 1, cells := 2, slots := 16, locals := 40 } : Room) s m args below meth c T0 locs cells slots) (hx : p.tables.exec = Jvm.exec) (hZ : Z.Warmed39 s.vm) (hw : ∀ d ∈ tables_1, d.before A0 Z = true) (hby : c.code = prog_257_method_15_code) (hml : c.maxLocals = 15) (hown : s.vm.findClass "com/example/wadjet/wadjet/storage/IntegerChunk" = some m.cls) (e0 : T0.heap = h0) (N0 : Fr n0 locs) (Z0 : n0 ≤ h0.size) (E_a0 : Exa Z h0 a0 "com/example/wadjet/wadjet/storage/IntegerChunk") (F_width_a0 : Fld Z h0 a0 "com/example/wadjet/wadjet/storage/IntegerChunk" "width" "I" (.int (1 : Int32))) (F_base_a0 : Fld Z h0 a0 "com/example/wadjet/wadjet/storage/IntegerChunk" "base" "J" (.long bb)) (F_based_a0 : Fld Z h0 a0 "com/example/wadjet/wadjet/storage/IntegerChunk" "based" "Z" u_based) (F_narrow_a0 : Fld Z h0 a0 "com/example/wadjet/wadjet/storage/IntegerChunk" "narrow" "[B" (.ref nr)) (F_middle_a0 : Fld Z h0 a0 "com/example/wadjet/wadjet/storage/IntegerChunk" "middle" "[C" u_middle) (F_wide_a0 : Fld Z h0 a0 "com/example/wadjet/wadjet/storage/IntegerChunk" "wide" "[I" u_wide) (F_nulls_a0 : Fld Z h0 a0 "com/example/wadjet/wadjet/storage/IntegerChunk" "nulls" "[J" u_nulls) (V_nr : Arv Z h0 nr kn .byte nn (ys.map Value.int) (.int (0 : Int32))) (V_va : Arv Z h0 va kv .long nn (zs.map Value.long) (.long (0 : Int64))) (g_va : n0 ≤ va) (ne_a0_va : a0 ≠ va) (ne_nr_va : nr ≠ va) (hn : nn.toInt ≤ 8) (hi : (i : Int) < nn.toInt) (hz : zs.length = nn.toNatClampNeg) (hq : ((Int32.ofNat i) = p1)) (hcl : cells ≤ 2) (hsl : slots ≤ 16) :
    ∃ (T' : State) (h' : Heap) (locs' : List Loc), Stand p l e ({ frames := 1, cells := 2, slots := 16, locals := 40 } : Room) s m args below meth c T' locs' cells slots ∧ T'.heap = h' ∧ Fr n0 locs' ∧ Keep h0 h' [va] ∧ Exa Z h' a0 "com/example/wadjet/wadjet/storage/IntegerChunk" ∧ Fld Z h' a0 "com/example/wadjet/wadjet/storage/IntegerChunk" "width" "I" (.int (1 : Int32)) ∧ Fld Z h' a0 "com/example/wadjet/wadjet/storage/IntegerChunk" "base" "J" (.long bb) ∧ Fld Z h' a0 "com/example/wadjet/wadjet/storage/IntegerChunk" "based" "Z" u_based ∧ Fld Z h' a0 "com/example/wadjet/wadjet/storage/IntegerChunk" "narrow" "[B" (.ref nr) ∧ Fld Z h' a0 "com/example/wadjet/wadjet/storage/IntegerChunk" "middle" "[C" u_middle ∧ Fld Z h' a0 "com/example/wadjet/wadjet/storage/IntegerChunk" "wide" "[I" u_wide ∧ Fld Z h' a0 "com/example/wadjet/wadjet/storage/IntegerChunk" "nulls" "[J" u_nulls ∧ Arv Z h' nr kn .byte nn (ys.map Value.int) (.int (0 : Int32)) ∧ Arv Z h' va kv .long nn ((zs.set i q2).map Value.long) (.long (0 : Int64)) ∧ 
      ∀ target, Steps p.tables e below (T'.setTop (mkF m 17 #[.val (.ref a0), .val (.int p1), .val (.long q2), .second, .val (.ref va), .val (.long (if q2 < ls then q2 else ls)), .second, .val (.long (if gr < q2 then q2 else gr)), .second, .val (.int ((Int32.ofNat i) + (1 : Int32))), .unset, .unset, .unset, .unset, .unset] [])) target → Steps p.tables e below (T0.setTop (mkF m 17 #[.val (.ref a0), .val (.int p1), .val (.long q2), .second, .val (.ref va), .val (.long ls), .second, .val (.long gr), .second, .val (.int (Int32.ofNat i)), .unset, .unset, .unset, .unset, .unset] [])) target := by
  have K0 : Keep h0 h0 [va] := Keep.refl _ _
  obtain ⟨cl1, Ar1, -, SS1, MM1, -, -⟩ := id V_va
  obtain ⟨cl2, Ar2, qq2, SS2, MM2, HH2, GG2⟩ := id V_va
  have hin2 := inb_of SS2 (own_inN hn hi)
  obtain ⟨T2, h2, X2, e2, W2, st2⟩ := stJ X0 hx hZ e0 Ar2 (j := (Int32.ofNat i)) hin2 (g := (mkF m 45 #[.val (.ref a0), .val (.int p1), .val (.long q2), .second, .val (.ref va), .val (.long ls), .second, .val (.long gr), .second, .val (.int (Int32.ofNat i)), .unset, .unset, .unset, .unset, .unset] [(.long q2), (.int (Int32.ofNat i)), (.ref va)])) rfl rfl (hb hby d9_45)
  have V_va : Arv Z h2 va kv .long nn ((zs.set i q2).map Value.long) (.long (0 : Int64)) := by rw [List.map_set]; exact Arv.set Ar2 qq2 SS2 MM2 HH2 GG2 rfl W2 i (own_idx (by omega)) (by rw [List.length_map, hz, own_tn]; omega)
  have E_a0 : Exa Z h2 a0 "com/example/wadjet/wadjet/storage/IntegerChunk" := E_a0.wr W2
  have F_width_a0 : Fld Z h2 a0 "com/example/wadjet/wadjet/storage/IntegerChunk" "width" "I" (.int (1 : Int32)) := F_width_a0.other W2 (Or.inl ne_a0_va)
  have F_base_a0 : Fld Z h2 a0 "com/example/wadjet/wadjet/storage/IntegerChunk" "base" "J" (.long bb) := F_base_a0.other W2 (Or.inl ne_a0_va)
  have F_based_a0 : Fld Z h2 a0 "com/example/wadjet/wadjet/storage/IntegerChunk" "based" "Z" u_based := F_based_a0.other W2 (Or.inl ne_a0_va)
  have F_narrow_a0 : Fld Z h2 a0 "com/example/wadjet/wadjet/storage/IntegerChunk" "narrow" "[B" (.ref nr) := F_narrow_a0.other W2 (Or.inl ne_a0_va)
  have F_middle_a0 : Fld Z h2 a0 "com/example/wadjet/wadjet/storage/IntegerChunk" "middle" "[C" u_middle := F_middle_a0.other W2 (Or.inl ne_a0_va)
  have F_wide_a0 : Fld Z h2 a0 "com/example/wadjet/wadjet/storage/IntegerChunk" "wide" "[I" u_wide := F_wide_a0.other W2 (Or.inl ne_a0_va)
  have F_nulls_a0 : Fld Z h2 a0 "com/example/wadjet/wadjet/storage/IntegerChunk" "nulls" "[J" u_nulls := F_nulls_a0.other W2 (Or.inl ne_a0_va)
  have V_nr : Arv Z h2 nr kn .byte nn (ys.map Value.int) (.int (0 : Int32)) := V_nr.other W2 ne_nr_va
  have Zh2 : n0 ≤ h2.size := Nat.le_trans Z0 (Keep.of_wr W2).1
  have Kh2 : Keep h0 h2 [va] := K0.wr W2 (Or.inl (by simp))
  have N2 := Fr.snoc X2 N0 g_va
  obtain ⟨cl3, Ar3, -, SS3, MM3, HH3, -⟩ := id V_va
  have hin3 := inb_of SS3 (own_inN hn hi)
  have hat3 : cl3.slots[((Int32.ofNat i)).toNatClampNeg]? = some (.long q2) := HH3.at hin3 (own_rb (by omega) (by rw [hz, own_tn]; omega))
  obtain ⟨_, _, ⟨T4, L4, k4, n4⟩, -, X4, ⟨Lc4, hQ4, l4, y4, z4⟩, st4⟩ := Jvm.LawKit.callS X2 hx (y := (⟨"java/lang/Math", "min", "(JJ)J"⟩ : MethodName)) hown (mvT hZ (hw _ (List.mem_of_getElem? (i := 53) rfl))) (mvT hZ (hw _ (List.mem_of_getElem? (i := 54) rfl))) (mvT hZ (hw _ (List.mem_of_getElem? (i := 26) rfl))) (mvT hZ (hw _ (List.mem_of_getElem? (i := 55) rfl))) (by decide) (backOf (W := 0) (rm10 l Z A0 hw [] ls q2  h2 n0 Zh2 ) hZ (hw _ (List.mem_of_getElem? (i := 55) rfl)) (hw _ (List.mem_of_getElem? (i := 26) rfl)) (by decide) (by decide)) (g := (mkF m 53 #[.val (.ref a0), .val (.int p1), .val (.long q2), .second, .val (.ref va), .val (.long ls), .second, .val (.long gr), .second, .val (.int (Int32.ofNat i)), .unset, .unset, .unset, .unset, .unset] [(.long q2), (.long ls)])) rfl (by rw [hml]; rfl) (argsL := [(.long ls), (.long q2)]) (rest := []) (lenOf pd_5 rfl) rfl (by show 2 * 0 + _ ≤ _; exact Nat.le_of_eq rfl) (hb hby d9_53) (fun _ _ => ⟨rfl, e2, (by show cells + 0 ≤ 2; omega), (by show slots + 0 ≤ 16; omega)⟩)
  dsimp only [Pt.U, Pt.locs, Pt.cells, Pt.slots] at X4 l4 y4 z4 st4 hQ4
  rw [y4, z4] at X4
  obtain ⟨rfl, N4q, eh4⟩ := hQ4
  have N4 : Fr n0 L4 := by rw [l4]; exact Fr.app N2 N4q
  clear l4
  obtain ⟨cl5, Ar5, -, SS5, MM5, HH5, -⟩ := id V_va
  have hin5 := inb_of SS5 (own_inN hn hi)
  have hat5 : cl5.slots[((Int32.ofNat i)).toNatClampNeg]? = some (.long q2) := HH5.at hin5 (own_rb (by omega) (by rw [hz, own_tn]; omega))
  obtain ⟨_, _, ⟨T6, L6, k6, n6⟩, -, X6, ⟨Lc6, hQ6, l6, y6, z6⟩, st6⟩ := Jvm.LawKit.callS X4 hx (y := (⟨"java/lang/Math", "max", "(JJ)J"⟩ : MethodName)) hown (mvT hZ (hw _ (List.mem_of_getElem? (i := 56) rfl))) (mvT hZ (hw _ (List.mem_of_getElem? (i := 57) rfl))) (mvT hZ (hw _ (List.mem_of_getElem? (i := 26) rfl))) (mvT hZ (hw _ (List.mem_of_getElem? (i := 58) rfl))) (by decide) (backOf (W := 0) (rm11 l Z A0 hw [] gr q2  h2 n0 Zh2 ) hZ (hw _ (List.mem_of_getElem? (i := 58) rfl)) (hw _ (List.mem_of_getElem? (i := 26) rfl)) (by decide) (by decide)) (g := (mkF m 65 #[.val (.ref a0), .val (.int p1), .val (.long q2), .second, .val (.ref va), .val (.long (if q2 < ls then q2 else ls)), .second, .val (.long gr), .second, .val (.int (Int32.ofNat i)), .unset, .unset, .unset, .unset, .unset] [(.long q2), (.long gr)])) rfl (by rw [hml]; rfl) (argsL := [(.long gr), (.long q2)]) (rest := []) (lenOf pd_5 rfl) rfl (by show 2 * 0 + _ ≤ _; exact Nat.le_of_eq rfl) (hb hby d9_65) (fun _ _ => ⟨rfl, eh4, (by show cells + 0 ≤ 2; omega), (by show slots + 0 ≤ 16; omega)⟩)
  dsimp only [Pt.U, Pt.locs, Pt.cells, Pt.slots] at X6 l6 y6 z6 st6 hQ6
  rw [y6, z6] at X6
  obtain ⟨rfl, N6q, eh6⟩ := hQ6
  have N6 : Fr n0 L6 := by rw [l6]; exact Fr.app N4 N6q
  clear l6
  refine ⟨T6, _, _, X6, eh6, N6, Kh2, E_a0, F_width_a0, F_base_a0, F_based_a0, F_narrow_a0, F_middle_a0, F_wide_a0, F_nulls_a0, V_nr, V_va, fun target kt => ?_⟩
  show Steps p.tables e below (T0.setTop (mkF m 17 #[.val (.ref a0), .val (.int p1), .val (.long q2), .second, .val (.ref va), .val (.long ls), .second, .val (.long gr), .second, .val (.int (Int32.ofNat i)), .unset, .unset, .unset, .unset, .unset] [])) _
  refine XS.iload X0.here hx rfl (hb hby d9_17) rfl ?_
  refine XS.aload X0.here hx rfl (hb hby d9_19) rfl rfl ?_
  refine X0.arraylength hx (by rw [e0]; exact Ar1.1) (State.isArrayOf_alike hZ.alike Ar1.2.1) (g := (mkF m 21 #[.val (.ref a0), .val (.int p1), .val (.long q2), .second, .val (.ref va), .val (.long ls), .second, .val (.long gr), .second, .val (.int (Int32.ofNat i)), .unset, .unset, .unset, .unset, .unset] [(.ref va), (.int (Int32.ofNat i))])) rfl rfl (hb hby d9_21) _ ?_
  rw [len_of SS1 MM1]
  show Steps p.tables e below (T0.setTop (mkF m 22 #[.val (.ref a0), .val (.int p1), .val (.long q2), .second, .val (.ref va), .val (.long ls), .second, .val (.long gr), .second, .val (.int (Int32.ofNat i)), .unset, .unset, .unset, .unset, .unset] [(.int nn), (.int (Int32.ofNat i))])) _
  refine XS.icmpNo X0.here hx rfl (hb hby d9_22) rfl (tlt ((own_inN hn hi).2 : (Int32.ofNat i) < nn)).2.1 ?_
  refine XS.aload X0.here hx rfl (hb hby d9_25) rfl rfl ?_
  refine XS.iload X0.here hx rfl (hb hby d9_27) rfl ?_
  refine XS.iload X0.here hx rfl (hb hby d9_29) rfl ?_
  show Steps p.tables e below (T0.setTop (mkF m 31 #[.val (.ref a0), .val (.int p1), .val (.long q2), .second, .val (.ref va), .val (.long ls), .second, .val (.long gr), .second, .val (.int (Int32.ofNat i)), .unset, .unset, .unset, .unset, .unset] [(.int (Int32.ofNat i)), (.int (Int32.ofNat i)), (.ref va)])) _
  refine XS.iloadN X0.here hx rfl (hb hby d9_31) rfl ?_
  refine XS.icmpNo X0.here hx rfl (hb hby d9_32) rfl (teq (hq : (Int32.ofNat i) = p1)).2 ?_
  refine XS.lloadN X0.here hx rfl (hb hby d9_35) rfl ?_
  refine XS.goto X0.here hx rfl (pc0 := 36) (pc' := 45) rfl (hb hby d9_36) (by decide) (by decide) ?_
  show Steps p.tables e below (T0.setTop (mkF m 45 #[.val (.ref a0), .val (.int p1), .val (.long q2), .second, .val (.ref va), .val (.long ls), .second, .val (.long gr), .second, .val (.int (Int32.ofNat i)), .unset, .unset, .unset, .unset, .unset] [(.long q2), (.int (Int32.ofNat i)), (.ref va)])) _
  refine st2 _ ?_
  show Steps p.tables e below (T2.setTop (mkF m 46 #[.val (.ref a0), .val (.int p1), .val (.long q2), .second, .val (.ref va), .val (.long ls), .second, .val (.long gr), .second, .val (.int (Int32.ofNat i)), .unset, .unset, .unset, .unset, .unset] [])) _
  refine XS.lload X2.here hx rfl (hb hby d9_46) rfl ?_
  refine XS.aload X2.here hx rfl (hb hby d9_48) rfl rfl ?_
  refine XS.iload X2.here hx rfl (hb hby d9_50) rfl ?_
  show Steps p.tables e below (T2.setTop (mkF m 52 #[.val (.ref a0), .val (.int p1), .val (.long q2), .second, .val (.ref va), .val (.long ls), .second, .val (.long gr), .second, .val (.int (Int32.ofNat i)), .unset, .unset, .unset, .unset, .unset] [(.int (Int32.ofNat i)), (.ref va), (.long ls)])) _
  refine X2.laload hx (j := (Int32.ofNat i)) (v := (.long q2)) (by rw [e2]; exact Ar3.1) (State.isArrayOf_alike hZ.alike Ar3.2.1) Ar3.2.2 hin3 hat3 (g := (mkF m 52 #[.val (.ref a0), .val (.int p1), .val (.long q2), .second, .val (.ref va), .val (.long ls), .second, .val (.long gr), .second, .val (.int (Int32.ofNat i)), .unset, .unset, .unset, .unset, .unset] [(.int (Int32.ofNat i)), (.ref va), (.long ls)])) rfl rfl (hb hby d9_52) _ ?_
  show Steps p.tables e below (T2.setTop (mkF m 53 #[.val (.ref a0), .val (.int p1), .val (.long q2), .second, .val (.ref va), .val (.long ls), .second, .val (.long gr), .second, .val (.int (Int32.ofNat i)), .unset, .unset, .unset, .unset, .unset] [(.long q2), (.long ls)])) _
  refine st4 _ ?_
  show Steps p.tables e below (T4.setTop (mkF m 56 #[.val (.ref a0), .val (.int p1), .val (.long q2), .second, .val (.ref va), .val (.long ls), .second, .val (.long gr), .second, .val (.int (Int32.ofNat i)), .unset, .unset, .unset, .unset, .unset] [(.long (if q2 < ls then q2 else ls))])) _
  refine XS.lstore X4.here hx rfl (hb hby d9_56) rfl (l' := #[.val (.ref a0), .val (.int p1), .val (.long q2), .second, .val (.ref va), .val (.long (if q2 < ls then q2 else ls)), .second, .val (.long gr), .second, .val (.int (Int32.ofNat i)), .unset, .unset, .unset, .unset, .unset]) rfl ?_
  refine XS.lload X4.here hx rfl (hb hby d9_58) rfl ?_
  show Steps p.tables e below (T4.setTop (mkF m 60 #[.val (.ref a0), .val (.int p1), .val (.long q2), .second, .val (.ref va), .val (.long (if q2 < ls then q2 else ls)), .second, .val (.long gr), .second, .val (.int (Int32.ofNat i)), .unset, .unset, .unset, .unset, .unset] [(.long gr)])) _
  refine XS.aload X4.here hx rfl (hb hby d9_60) rfl rfl ?_
  refine XS.iload X4.here hx rfl (hb hby d9_62) rfl ?_
  refine X4.laload hx (j := (Int32.ofNat i)) (v := (.long q2)) (by rw [eh4]; exact Ar5.1) (State.isArrayOf_alike hZ.alike Ar5.2.1) Ar5.2.2 hin5 hat5 (g := (mkF m 64 #[.val (.ref a0), .val (.int p1), .val (.long q2), .second, .val (.ref va), .val (.long (if q2 < ls then q2 else ls)), .second, .val (.long gr), .second, .val (.int (Int32.ofNat i)), .unset, .unset, .unset, .unset, .unset] [(.int (Int32.ofNat i)), (.ref va), (.long gr)])) rfl rfl (hb hby d9_64) _ ?_
  show Steps p.tables e below (T4.setTop (mkF m 65 #[.val (.ref a0), .val (.int p1), .val (.long q2), .second, .val (.ref va), .val (.long (if q2 < ls then q2 else ls)), .second, .val (.long gr), .second, .val (.int (Int32.ofNat i)), .unset, .unset, .unset, .unset, .unset] [(.long q2), (.long gr)])) _
  refine st6 _ ?_
  show Steps p.tables e below (T6.setTop (mkF m 68 #[.val (.ref a0), .val (.int p1), .val (.long q2), .second, .val (.ref va), .val (.long (if q2 < ls then q2 else ls)), .second, .val (.long gr), .second, .val (.int (Int32.ofNat i)), .unset, .unset, .unset, .unset, .unset] [(.long (if gr < q2 then q2 else gr))])) _
  refine XS.lstore X6.here hx rfl (hb hby d9_68) rfl (l' := #[.val (.ref a0), .val (.int p1), .val (.long q2), .second, .val (.ref va), .val (.long (if q2 < ls then q2 else ls)), .second, .val (.long (if gr < q2 then q2 else gr)), .second, .val (.int (Int32.ofNat i)), .unset, .unset, .unset, .unset, .unset]) rfl ?_
  refine XS.iinc X6.here hx rfl (hb hby d9_70) rfl (l' := #[.val (.ref a0), .val (.int p1), .val (.long q2), .second, .val (.ref va), .val (.long (if q2 < ls then q2 else ls)), .second, .val (.long (if gr < q2 then q2 else gr)), .second, .val (.int ((Int32.ofNat i) + (1 : Int32))), .unset, .unset, .unset, .unset, .unset]) rfl ?_
  refine XS.goto X6.here hx rfl (pc0 := 73) (pc' := 17) rfl (hb hby d9_73) (by decide) (by decide) ?_
  show Steps p.tables e below (T6.setTop (mkF m 17 #[.val (.ref a0), .val (.int p1), .val (.long q2), .second, .val (.ref va), .val (.long (if q2 < ls then q2 else ls)), .second, .val (.long (if gr < q2 then q2 else gr)), .second, .val (.int ((Int32.ofNat i) + (1 : Int32))), .unset, .unset, .unset, .unset, .unset] [])) _
  exact kt
theorem pd_6 : parseMethodDescriptor "(I)J" = some ⟨[.int], some .long⟩ := by decide +kernel
theorem d9_39 : decode prog_257_method_15_code 39 = .ok (.aload_n 0, 1) := by decide +kernel
theorem d9_40 : decode prog_257_method_15_code 40 = .ok (.iload 9, 2) := by decide +kernel
theorem d9_42 : decode prog_257_method_15_code 42 = .ok (.invokevirtual 21, 3) := by decide +kernel
set_option maxRecDepth 65536 in
set_option maxHeartbeats 40000000 in
theorem tw1n {p : Program} {l : Launch} {e : Env} {s : State} {m : MethodId} {args : Array Value} {below : List Frame} {meth : Method} {c : Code} {T0 : State} {locs : List Loc} {cells slots : Nat} {Z : State} {A0 : Array Value} {h0 : Heap} {n0 : Nat} (a0 : Addr) (p1 : Int32) (q2 : Int64) (va : Addr) (ls gr : Int64) (i : Nat) (u_based : Value) (u_middle : Value) (u_wide : Value) (u_nulls : Value) (bb : Int64) (nr : Addr) (kn : ClassId) (nn : Int32) (ys : List Int32) (kv : ClassId) (zs : List Int64) (X0 : Stand p l e ({ frames := 1, cells := 2, slots := 16, locals := 40 } : Room) s m args below meth c T0 locs cells slots) (hx : p.tables.exec = Jvm.exec) (hZ : Z.Warmed39 s.vm) (hw : ∀ d ∈ tables_1, d.before A0 Z = true) (hby : c.code = prog_257_method_15_code) (hml : c.maxLocals = 15) (hown : s.vm.findClass "com/example/wadjet/wadjet/storage/IntegerChunk" = some m.cls) (e0 : T0.heap = h0) (N0 : Fr n0 locs) (Z0 : n0 ≤ h0.size) (E_a0 : Exa Z h0 a0 "com/example/wadjet/wadjet/storage/IntegerChunk") (F_width_a0 : Fld Z h0 a0 "com/example/wadjet/wadjet/storage/IntegerChunk" "width" "I" (.int (1 : Int32))) (F_base_a0 : Fld Z h0 a0 "com/example/wadjet/wadjet/storage/IntegerChunk" "base" "J" (.long bb)) (F_based_a0 : Fld Z h0 a0 "com/example/wadjet/wadjet/storage/IntegerChunk" "based" "Z" u_based) (F_narrow_a0 : Fld Z h0 a0 "com/example/wadjet/wadjet/storage/IntegerChunk" "narrow" "[B" (.ref nr)) (F_middle_a0 : Fld Z h0 a0 "com/example/wadjet/wadjet/storage/IntegerChunk" "middle" "[C" u_middle) (F_wide_a0 : Fld Z h0 a0 "com/example/wadjet/wadjet/storage/IntegerChunk" "wide" "[I" u_wide) (F_nulls_a0 : Fld Z h0 a0 "com/example/wadjet/wadjet/storage/IntegerChunk" "nulls" "[J" u_nulls) (V_nr : Arv Z h0 nr kn .byte nn (ys.map Value.int) (.int (0 : Int32))) (V_va : Arv Z h0 va kv .long nn (zs.map Value.long) (.long (0 : Int64))) (g_va : n0 ≤ va) (ne_a0_va : a0 ≠ va) (ne_nr_va : nr ≠ va) (hn : nn.toInt ≤ 8) (hi : (i : Int) < nn.toInt) (hz : zs.length = nn.toNatClampNeg) (hq : ¬ ((Int32.ofNat i) = p1)) (hcl : cells ≤ 2) (hsl : slots ≤ 16) :
    ∃ (T' : State) (h' : Heap) (locs' : List Loc), Stand p l e ({ frames := 1, cells := 2, slots := 16, locals := 40 } : Room) s m args below meth c T' locs' cells slots ∧ T'.heap = h' ∧ Fr n0 locs' ∧ Keep h0 h' [va] ∧ Exa Z h' a0 "com/example/wadjet/wadjet/storage/IntegerChunk" ∧ Fld Z h' a0 "com/example/wadjet/wadjet/storage/IntegerChunk" "width" "I" (.int (1 : Int32)) ∧ Fld Z h' a0 "com/example/wadjet/wadjet/storage/IntegerChunk" "base" "J" (.long bb) ∧ Fld Z h' a0 "com/example/wadjet/wadjet/storage/IntegerChunk" "based" "Z" u_based ∧ Fld Z h' a0 "com/example/wadjet/wadjet/storage/IntegerChunk" "narrow" "[B" (.ref nr) ∧ Fld Z h' a0 "com/example/wadjet/wadjet/storage/IntegerChunk" "middle" "[C" u_middle ∧ Fld Z h' a0 "com/example/wadjet/wadjet/storage/IntegerChunk" "wide" "[I" u_wide ∧ Fld Z h' a0 "com/example/wadjet/wadjet/storage/IntegerChunk" "nulls" "[J" u_nulls ∧ Arv Z h' nr kn .byte nn (ys.map Value.int) (.int (0 : Int32)) ∧ Arv Z h' va kv .long nn ((zs.set i (own_rd (1 : Int32) bb (ys.getD (Int32.ofNat i).toNatClampNeg 0))).map Value.long) (.long (0 : Int64)) ∧ 
      ∀ target, Steps p.tables e below (T'.setTop (mkF m 17 #[.val (.ref a0), .val (.int p1), .val (.long q2), .second, .val (.ref va), .val (.long (if (own_rd (1 : Int32) bb (ys.getD (Int32.ofNat i).toNatClampNeg 0)) < ls then (own_rd (1 : Int32) bb (ys.getD (Int32.ofNat i).toNatClampNeg 0)) else ls)), .second, .val (.long (if gr < (own_rd (1 : Int32) bb (ys.getD (Int32.ofNat i).toNatClampNeg 0)) then (own_rd (1 : Int32) bb (ys.getD (Int32.ofNat i).toNatClampNeg 0)) else gr)), .second, .val (.int ((Int32.ofNat i) + (1 : Int32))), .unset, .unset, .unset, .unset, .unset] [])) target → Steps p.tables e below (T0.setTop (mkF m 17 #[.val (.ref a0), .val (.int p1), .val (.long q2), .second, .val (.ref va), .val (.long ls), .second, .val (.long gr), .second, .val (.int (Int32.ofNat i)), .unset, .unset, .unset, .unset, .unset] [])) target := by
  have K0 : Keep h0 h0 [va] := Keep.refl _ _
  obtain ⟨cl1, Ar1, -, SS1, MM1, -, -⟩ := id V_va
  obtain ⟨cq2, kq2, q2a, q2b, q2c⟩ := isOf hZ e0 E_a0
  obtain ⟨_, _, ⟨T2, L2, k2, n2⟩, -, X2, ⟨Lc2, hQ2, l2, y2, z2⟩, st2⟩ := X0.virtualBack hx (y := (⟨"com/example/wadjet/wadjet/storage/IntegerChunk", "integer", "(I)J"⟩ : MethodName)) (z := (⟨"com/example/wadjet/wadjet/storage/IntegerChunk", "integer", "(I)J"⟩ : MethodName)) hown (mvT hZ (hw _ (List.mem_of_getElem? (i := 52) rfl))) (mvT hZ (hw _ (List.mem_of_getElem? (i := 39) rfl))) (notFace_of_selects (args := #[]) (mvT hZ (hw _ (List.mem_of_getElem? (i := 41) rfl)))) (mvT hZ (hw _ (List.mem_of_getElem? (i := 41) rfl))) (mvT hZ (hw _ (List.mem_of_getElem? (i := 40) rfl))) (by decide) (backOf (W := 2) (rmI_1 l Z A0 hw [] a0 (Int32.ofNat i) bb nr kn nn ys h0 n0 Z0 F_width_a0 F_base_a0 F_narrow_a0 V_nr (own_inN hn hi)) hZ (hw _ (List.mem_of_getElem? (i := 42) rfl)) (hw _ (List.mem_of_getElem? (i := 2) rfl)) (by decide) (by decide)) q2a q2c (g := (mkF m 42 #[.val (.ref a0), .val (.int p1), .val (.long q2), .second, .val (.ref va), .val (.long ls), .second, .val (.long gr), .second, .val (.int (Int32.ofNat i)), .unset, .unset, .unset, .unset, .unset] [(.int (Int32.ofNat i)), (.ref a0), (.int (Int32.ofNat i)), (.ref va)])) rfl (by rw [hml]; rfl) (Steps.refl _) (argsL := [(.int (Int32.ofNat i))]) (rest := [(.int (Int32.ofNat i)), (.ref va)]) (lenOf pd_6 rfl) rfl (by show 2 * 0 + _ ≤ _; exact Nat.le_of_eq rfl) (hb hby d9_42) (fun _ _ => ⟨rfl, e0, (by show cells + 0 ≤ 2; omega), (by show slots + 0 ≤ 16; omega)⟩)
  dsimp only [Pt.U, Pt.locs, Pt.cells, Pt.slots] at X2 l2 y2 z2 st2 hQ2
  rw [y2, z2] at X2
  obtain ⟨rfl, N2q, eh2⟩ := hQ2
  have N2 : Fr n0 L2 := by rw [l2]; exact Fr.app N0 N2q
  clear l2
  obtain ⟨cl3, Ar3, qq3, SS3, MM3, HH3, GG3⟩ := id V_va
  have hin3 := inb_of SS3 (own_inN hn hi)
  obtain ⟨T3, h3, X3, e3, W3, st3⟩ := stJ X2 hx hZ eh2 Ar3 (j := (Int32.ofNat i)) hin3 (g := (mkF m 45 #[.val (.ref a0), .val (.int p1), .val (.long q2), .second, .val (.ref va), .val (.long ls), .second, .val (.long gr), .second, .val (.int (Int32.ofNat i)), .unset, .unset, .unset, .unset, .unset] [(.long (own_rd (1 : Int32) bb (ys.getD (Int32.ofNat i).toNatClampNeg 0))), (.int (Int32.ofNat i)), (.ref va)])) rfl rfl (hb hby d9_45)
  have V_va : Arv Z h3 va kv .long nn ((zs.set i (own_rd (1 : Int32) bb (ys.getD (Int32.ofNat i).toNatClampNeg 0))).map Value.long) (.long (0 : Int64)) := by rw [List.map_set]; exact Arv.set Ar3 qq3 SS3 MM3 HH3 GG3 rfl W3 i (own_idx (by omega)) (by rw [List.length_map, hz, own_tn]; omega)
  have E_a0 : Exa Z h3 a0 "com/example/wadjet/wadjet/storage/IntegerChunk" := E_a0.wr W3
  have F_width_a0 : Fld Z h3 a0 "com/example/wadjet/wadjet/storage/IntegerChunk" "width" "I" (.int (1 : Int32)) := F_width_a0.other W3 (Or.inl ne_a0_va)
  have F_base_a0 : Fld Z h3 a0 "com/example/wadjet/wadjet/storage/IntegerChunk" "base" "J" (.long bb) := F_base_a0.other W3 (Or.inl ne_a0_va)
  have F_based_a0 : Fld Z h3 a0 "com/example/wadjet/wadjet/storage/IntegerChunk" "based" "Z" u_based := F_based_a0.other W3 (Or.inl ne_a0_va)
  have F_narrow_a0 : Fld Z h3 a0 "com/example/wadjet/wadjet/storage/IntegerChunk" "narrow" "[B" (.ref nr) := F_narrow_a0.other W3 (Or.inl ne_a0_va)
  have F_middle_a0 : Fld Z h3 a0 "com/example/wadjet/wadjet/storage/IntegerChunk" "middle" "[C" u_middle := F_middle_a0.other W3 (Or.inl ne_a0_va)
  have F_wide_a0 : Fld Z h3 a0 "com/example/wadjet/wadjet/storage/IntegerChunk" "wide" "[I" u_wide := F_wide_a0.other W3 (Or.inl ne_a0_va)
  have F_nulls_a0 : Fld Z h3 a0 "com/example/wadjet/wadjet/storage/IntegerChunk" "nulls" "[J" u_nulls := F_nulls_a0.other W3 (Or.inl ne_a0_va)
  have V_nr : Arv Z h3 nr kn .byte nn (ys.map Value.int) (.int (0 : Int32)) := V_nr.other W3 ne_nr_va
  have Zh3 : n0 ≤ h3.size := Nat.le_trans Z0 (Keep.of_wr W3).1
  have Kh3 : Keep h0 h3 [va] := K0.wr W3 (Or.inl (by simp))
  have N3 := Fr.snoc X3 N2 g_va
  obtain ⟨cl4, Ar4, -, SS4, MM4, HH4, -⟩ := id V_va
  have hin4 := inb_of SS4 (own_inN hn hi)
  have hat4 : cl4.slots[((Int32.ofNat i)).toNatClampNeg]? = some (.long (own_rd (1 : Int32) bb (ys.getD (Int32.ofNat i).toNatClampNeg 0))) := HH4.at hin4 (own_rb (by omega) (by rw [hz, own_tn]; omega))
  obtain ⟨_, _, ⟨T5, L5, k5, n5⟩, -, X5, ⟨Lc5, hQ5, l5, y5, z5⟩, st5⟩ := Jvm.LawKit.callS X3 hx (y := (⟨"java/lang/Math", "min", "(JJ)J"⟩ : MethodName)) hown (mvT hZ (hw _ (List.mem_of_getElem? (i := 53) rfl))) (mvT hZ (hw _ (List.mem_of_getElem? (i := 54) rfl))) (mvT hZ (hw _ (List.mem_of_getElem? (i := 26) rfl))) (mvT hZ (hw _ (List.mem_of_getElem? (i := 55) rfl))) (by decide) (backOf (W := 0) (rm10 l Z A0 hw [] ls (own_rd (1 : Int32) bb (ys.getD (Int32.ofNat i).toNatClampNeg 0))  h3 n0 Zh3 ) hZ (hw _ (List.mem_of_getElem? (i := 55) rfl)) (hw _ (List.mem_of_getElem? (i := 26) rfl)) (by decide) (by decide)) (g := (mkF m 53 #[.val (.ref a0), .val (.int p1), .val (.long q2), .second, .val (.ref va), .val (.long ls), .second, .val (.long gr), .second, .val (.int (Int32.ofNat i)), .unset, .unset, .unset, .unset, .unset] [(.long (own_rd (1 : Int32) bb (ys.getD (Int32.ofNat i).toNatClampNeg 0))), (.long ls)])) rfl (by rw [hml]; rfl) (argsL := [(.long ls), (.long (own_rd (1 : Int32) bb (ys.getD (Int32.ofNat i).toNatClampNeg 0)))]) (rest := []) (lenOf pd_5 rfl) rfl (by show 2 * 0 + _ ≤ _; exact Nat.le_of_eq rfl) (hb hby d9_53) (fun _ _ => ⟨rfl, e3, (by show cells + 0 ≤ 2; omega), (by show slots + 0 ≤ 16; omega)⟩)
  dsimp only [Pt.U, Pt.locs, Pt.cells, Pt.slots] at X5 l5 y5 z5 st5 hQ5
  rw [y5, z5] at X5
  obtain ⟨rfl, N5q, eh5⟩ := hQ5
  have N5 : Fr n0 L5 := by rw [l5]; exact Fr.app N3 N5q
  clear l5
  obtain ⟨cl6, Ar6, -, SS6, MM6, HH6, -⟩ := id V_va
  have hin6 := inb_of SS6 (own_inN hn hi)
  have hat6 : cl6.slots[((Int32.ofNat i)).toNatClampNeg]? = some (.long (own_rd (1 : Int32) bb (ys.getD (Int32.ofNat i).toNatClampNeg 0))) := HH6.at hin6 (own_rb (by omega) (by rw [hz, own_tn]; omega))
  obtain ⟨_, _, ⟨T7, L7, k7, n7⟩, -, X7, ⟨Lc7, hQ7, l7, y7, z7⟩, st7⟩ := Jvm.LawKit.callS X5 hx (y := (⟨"java/lang/Math", "max", "(JJ)J"⟩ : MethodName)) hown (mvT hZ (hw _ (List.mem_of_getElem? (i := 56) rfl))) (mvT hZ (hw _ (List.mem_of_getElem? (i := 57) rfl))) (mvT hZ (hw _ (List.mem_of_getElem? (i := 26) rfl))) (mvT hZ (hw _ (List.mem_of_getElem? (i := 58) rfl))) (by decide) (backOf (W := 0) (rm11 l Z A0 hw [] gr (own_rd (1 : Int32) bb (ys.getD (Int32.ofNat i).toNatClampNeg 0))  h3 n0 Zh3 ) hZ (hw _ (List.mem_of_getElem? (i := 58) rfl)) (hw _ (List.mem_of_getElem? (i := 26) rfl)) (by decide) (by decide)) (g := (mkF m 65 #[.val (.ref a0), .val (.int p1), .val (.long q2), .second, .val (.ref va), .val (.long (if (own_rd (1 : Int32) bb (ys.getD (Int32.ofNat i).toNatClampNeg 0)) < ls then (own_rd (1 : Int32) bb (ys.getD (Int32.ofNat i).toNatClampNeg 0)) else ls)), .second, .val (.long gr), .second, .val (.int (Int32.ofNat i)), .unset, .unset, .unset, .unset, .unset] [(.long (own_rd (1 : Int32) bb (ys.getD (Int32.ofNat i).toNatClampNeg 0))), (.long gr)])) rfl (by rw [hml]; rfl) (argsL := [(.long gr), (.long (own_rd (1 : Int32) bb (ys.getD (Int32.ofNat i).toNatClampNeg 0)))]) (rest := []) (lenOf pd_5 rfl) rfl (by show 2 * 0 + _ ≤ _; exact Nat.le_of_eq rfl) (hb hby d9_65) (fun _ _ => ⟨rfl, eh5, (by show cells + 0 ≤ 2; omega), (by show slots + 0 ≤ 16; omega)⟩)
  dsimp only [Pt.U, Pt.locs, Pt.cells, Pt.slots] at X7 l7 y7 z7 st7 hQ7
  rw [y7, z7] at X7
  obtain ⟨rfl, N7q, eh7⟩ := hQ7
  have N7 : Fr n0 L7 := by rw [l7]; exact Fr.app N5 N7q
  clear l7
  refine ⟨T7, _, _, X7, eh7, N7, Kh3, E_a0, F_width_a0, F_base_a0, F_based_a0, F_narrow_a0, F_middle_a0, F_wide_a0, F_nulls_a0, V_nr, V_va, fun target kt => ?_⟩
  show Steps p.tables e below (T0.setTop (mkF m 17 #[.val (.ref a0), .val (.int p1), .val (.long q2), .second, .val (.ref va), .val (.long ls), .second, .val (.long gr), .second, .val (.int (Int32.ofNat i)), .unset, .unset, .unset, .unset, .unset] [])) _
  refine XS.iload X0.here hx rfl (hb hby d9_17) rfl ?_
  refine XS.aload X0.here hx rfl (hb hby d9_19) rfl rfl ?_
  refine X0.arraylength hx (by rw [e0]; exact Ar1.1) (State.isArrayOf_alike hZ.alike Ar1.2.1) (g := (mkF m 21 #[.val (.ref a0), .val (.int p1), .val (.long q2), .second, .val (.ref va), .val (.long ls), .second, .val (.long gr), .second, .val (.int (Int32.ofNat i)), .unset, .unset, .unset, .unset, .unset] [(.ref va), (.int (Int32.ofNat i))])) rfl rfl (hb hby d9_21) _ ?_
  rw [len_of SS1 MM1]
  show Steps p.tables e below (T0.setTop (mkF m 22 #[.val (.ref a0), .val (.int p1), .val (.long q2), .second, .val (.ref va), .val (.long ls), .second, .val (.long gr), .second, .val (.int (Int32.ofNat i)), .unset, .unset, .unset, .unset, .unset] [(.int nn), (.int (Int32.ofNat i))])) _
  refine XS.icmpNo X0.here hx rfl (hb hby d9_22) rfl (tlt ((own_inN hn hi).2 : (Int32.ofNat i) < nn)).2.1 ?_
  refine XS.aload X0.here hx rfl (hb hby d9_25) rfl rfl ?_
  refine XS.iload X0.here hx rfl (hb hby d9_27) rfl ?_
  refine XS.iload X0.here hx rfl (hb hby d9_29) rfl ?_
  show Steps p.tables e below (T0.setTop (mkF m 31 #[.val (.ref a0), .val (.int p1), .val (.long q2), .second, .val (.ref va), .val (.long ls), .second, .val (.long gr), .second, .val (.int (Int32.ofNat i)), .unset, .unset, .unset, .unset, .unset] [(.int (Int32.ofNat i)), (.int (Int32.ofNat i)), (.ref va)])) _
  refine XS.iloadN X0.here hx rfl (hb hby d9_31) rfl ?_
  refine XS.icmpYes X0.here hx rfl (pc0 := 32) (pc' := 39) rfl (hb hby d9_32) rfl (feq (hq : ¬ ((Int32.ofNat i) = p1))).2 (by decide) (by decide) ?_
  show Steps p.tables e below (T0.setTop (mkF m 39 #[.val (.ref a0), .val (.int p1), .val (.long q2), .second, .val (.ref va), .val (.long ls), .second, .val (.long gr), .second, .val (.int (Int32.ofNat i)), .unset, .unset, .unset, .unset, .unset] [(.int (Int32.ofNat i)), (.ref va)])) _
  refine XS.aloadN X0.here hx rfl (hb hby d9_39) rfl rfl ?_
  refine XS.iload X0.here hx rfl (hb hby d9_40) rfl ?_
  show Steps p.tables e below (T0.setTop (mkF m 42 #[.val (.ref a0), .val (.int p1), .val (.long q2), .second, .val (.ref va), .val (.long ls), .second, .val (.long gr), .second, .val (.int (Int32.ofNat i)), .unset, .unset, .unset, .unset, .unset] [(.int (Int32.ofNat i)), (.ref a0), (.int (Int32.ofNat i)), (.ref va)])) _
  refine st2.trans ?_
  show Steps p.tables e below (T2.setTop (mkF m 45 #[.val (.ref a0), .val (.int p1), .val (.long q2), .second, .val (.ref va), .val (.long ls), .second, .val (.long gr), .second, .val (.int (Int32.ofNat i)), .unset, .unset, .unset, .unset, .unset] [(.long (own_rd (1 : Int32) bb (ys.getD (Int32.ofNat i).toNatClampNeg 0))), (.int (Int32.ofNat i)), (.ref va)])) _
  refine st3 _ ?_
  show Steps p.tables e below (T3.setTop (mkF m 46 #[.val (.ref a0), .val (.int p1), .val (.long q2), .second, .val (.ref va), .val (.long ls), .second, .val (.long gr), .second, .val (.int (Int32.ofNat i)), .unset, .unset, .unset, .unset, .unset] [])) _
  refine XS.lload X3.here hx rfl (hb hby d9_46) rfl ?_
  refine XS.aload X3.here hx rfl (hb hby d9_48) rfl rfl ?_
  show Steps p.tables e below (T3.setTop (mkF m 50 #[.val (.ref a0), .val (.int p1), .val (.long q2), .second, .val (.ref va), .val (.long ls), .second, .val (.long gr), .second, .val (.int (Int32.ofNat i)), .unset, .unset, .unset, .unset, .unset] [(.ref va), (.long ls)])) _
  refine XS.iload X3.here hx rfl (hb hby d9_50) rfl ?_
  refine X3.laload hx (j := (Int32.ofNat i)) (v := (.long (own_rd (1 : Int32) bb (ys.getD (Int32.ofNat i).toNatClampNeg 0)))) (by rw [e3]; exact Ar4.1) (State.isArrayOf_alike hZ.alike Ar4.2.1) Ar4.2.2 hin4 hat4 (g := (mkF m 52 #[.val (.ref a0), .val (.int p1), .val (.long q2), .second, .val (.ref va), .val (.long ls), .second, .val (.long gr), .second, .val (.int (Int32.ofNat i)), .unset, .unset, .unset, .unset, .unset] [(.int (Int32.ofNat i)), (.ref va), (.long ls)])) rfl rfl (hb hby d9_52) _ ?_
  show Steps p.tables e below (T3.setTop (mkF m 53 #[.val (.ref a0), .val (.int p1), .val (.long q2), .second, .val (.ref va), .val (.long ls), .second, .val (.long gr), .second, .val (.int (Int32.ofNat i)), .unset, .unset, .unset, .unset, .unset] [(.long (own_rd (1 : Int32) bb (ys.getD (Int32.ofNat i).toNatClampNeg 0))), (.long ls)])) _
  refine st5 _ ?_
  show Steps p.tables e below (T5.setTop (mkF m 56 #[.val (.ref a0), .val (.int p1), .val (.long q2), .second, .val (.ref va), .val (.long ls), .second, .val (.long gr), .second, .val (.int (Int32.ofNat i)), .unset, .unset, .unset, .unset, .unset] [(.long (if (own_rd (1 : Int32) bb (ys.getD (Int32.ofNat i).toNatClampNeg 0)) < ls then (own_rd (1 : Int32) bb (ys.getD (Int32.ofNat i).toNatClampNeg 0)) else ls))])) _
  refine XS.lstore X5.here hx rfl (hb hby d9_56) rfl (l' := #[.val (.ref a0), .val (.int p1), .val (.long q2), .second, .val (.ref va), .val (.long (if (own_rd (1 : Int32) bb (ys.getD (Int32.ofNat i).toNatClampNeg 0)) < ls then (own_rd (1 : Int32) bb (ys.getD (Int32.ofNat i).toNatClampNeg 0)) else ls)), .second, .val (.long gr), .second, .val (.int (Int32.ofNat i)), .unset, .unset, .unset, .unset, .unset]) rfl ?_
  show Steps p.tables e below (T5.setTop (mkF m 58 #[.val (.ref a0), .val (.int p1), .val (.long q2), .second, .val (.ref va), .val (.long (if (own_rd (1 : Int32) bb (ys.getD (Int32.ofNat i).toNatClampNeg 0)) < ls then (own_rd (1 : Int32) bb (ys.getD (Int32.ofNat i).toNatClampNeg 0)) else ls)), .second, .val (.long gr), .second, .val (.int (Int32.ofNat i)), .unset, .unset, .unset, .unset, .unset] [])) _
  refine XS.lload X5.here hx rfl (hb hby d9_58) rfl ?_
  refine XS.aload X5.here hx rfl (hb hby d9_60) rfl rfl ?_
  refine XS.iload X5.here hx rfl (hb hby d9_62) rfl ?_
  refine X5.laload hx (j := (Int32.ofNat i)) (v := (.long (own_rd (1 : Int32) bb (ys.getD (Int32.ofNat i).toNatClampNeg 0)))) (by rw [eh5]; exact Ar6.1) (State.isArrayOf_alike hZ.alike Ar6.2.1) Ar6.2.2 hin6 hat6 (g := (mkF m 64 #[.val (.ref a0), .val (.int p1), .val (.long q2), .second, .val (.ref va), .val (.long (if (own_rd (1 : Int32) bb (ys.getD (Int32.ofNat i).toNatClampNeg 0)) < ls then (own_rd (1 : Int32) bb (ys.getD (Int32.ofNat i).toNatClampNeg 0)) else ls)), .second, .val (.long gr), .second, .val (.int (Int32.ofNat i)), .unset, .unset, .unset, .unset, .unset] [(.int (Int32.ofNat i)), (.ref va), (.long gr)])) rfl rfl (hb hby d9_64) _ ?_
  show Steps p.tables e below (T5.setTop (mkF m 65 #[.val (.ref a0), .val (.int p1), .val (.long q2), .second, .val (.ref va), .val (.long (if (own_rd (1 : Int32) bb (ys.getD (Int32.ofNat i).toNatClampNeg 0)) < ls then (own_rd (1 : Int32) bb (ys.getD (Int32.ofNat i).toNatClampNeg 0)) else ls)), .second, .val (.long gr), .second, .val (.int (Int32.ofNat i)), .unset, .unset, .unset, .unset, .unset] [(.long (own_rd (1 : Int32) bb (ys.getD (Int32.ofNat i).toNatClampNeg 0))), (.long gr)])) _
  refine st7 _ ?_
  show Steps p.tables e below (T7.setTop (mkF m 68 #[.val (.ref a0), .val (.int p1), .val (.long q2), .second, .val (.ref va), .val (.long (if (own_rd (1 : Int32) bb (ys.getD (Int32.ofNat i).toNatClampNeg 0)) < ls then (own_rd (1 : Int32) bb (ys.getD (Int32.ofNat i).toNatClampNeg 0)) else ls)), .second, .val (.long gr), .second, .val (.int (Int32.ofNat i)), .unset, .unset, .unset, .unset, .unset] [(.long (if gr < (own_rd (1 : Int32) bb (ys.getD (Int32.ofNat i).toNatClampNeg 0)) then (own_rd (1 : Int32) bb (ys.getD (Int32.ofNat i).toNatClampNeg 0)) else gr))])) _
  refine XS.lstore X7.here hx rfl (hb hby d9_68) rfl (l' := #[.val (.ref a0), .val (.int p1), .val (.long q2), .second, .val (.ref va), .val (.long (if (own_rd (1 : Int32) bb (ys.getD (Int32.ofNat i).toNatClampNeg 0)) < ls then (own_rd (1 : Int32) bb (ys.getD (Int32.ofNat i).toNatClampNeg 0)) else ls)), .second, .val (.long (if gr < (own_rd (1 : Int32) bb (ys.getD (Int32.ofNat i).toNatClampNeg 0)) then (own_rd (1 : Int32) bb (ys.getD (Int32.ofNat i).toNatClampNeg 0)) else gr)), .second, .val (.int (Int32.ofNat i)), .unset, .unset, .unset, .unset, .unset]) rfl ?_
  refine XS.iinc X7.here hx rfl (hb hby d9_70) rfl (l' := #[.val (.ref a0), .val (.int p1), .val (.long q2), .second, .val (.ref va), .val (.long (if (own_rd (1 : Int32) bb (ys.getD (Int32.ofNat i).toNatClampNeg 0)) < ls then (own_rd (1 : Int32) bb (ys.getD (Int32.ofNat i).toNatClampNeg 0)) else ls)), .second, .val (.long (if gr < (own_rd (1 : Int32) bb (ys.getD (Int32.ofNat i).toNatClampNeg 0)) then (own_rd (1 : Int32) bb (ys.getD (Int32.ofNat i).toNatClampNeg 0)) else gr)), .second, .val (.int ((Int32.ofNat i) + (1 : Int32))), .unset, .unset, .unset, .unset, .unset]) rfl ?_
  refine XS.goto X7.here hx rfl (pc0 := 73) (pc' := 17) rfl (hb hby d9_73) (by decide) (by decide) ?_
  show Steps p.tables e below (T7.setTop (mkF m 17 #[.val (.ref a0), .val (.int p1), .val (.long q2), .second, .val (.ref va), .val (.long (if (own_rd (1 : Int32) bb (ys.getD (Int32.ofNat i).toNatClampNeg 0)) < ls then (own_rd (1 : Int32) bb (ys.getD (Int32.ofNat i).toNatClampNeg 0)) else ls)), .second, .val (.long (if gr < (own_rd (1 : Int32) bb (ys.getD (Int32.ofNat i).toNatClampNeg 0)) then (own_rd (1 : Int32) bb (ys.getD (Int32.ofNat i).toNatClampNeg 0)) else gr)), .second, .val (.int ((Int32.ofNat i) + (1 : Int32))), .unset, .unset, .unset, .unset, .unset] [])) _
  exact kt
set_option maxRecDepth 65536 in
set_option maxHeartbeats 40000000 in
theorem tw2e {p : Program} {l : Launch} {e : Env} {s : State} {m : MethodId} {args : Array Value} {below : List Frame} {meth : Method} {c : Code} {T0 : State} {locs : List Loc} {cells slots : Nat} {Z : State} {A0 : Array Value} {h0 : Heap} {n0 : Nat} (a0 : Addr) (p1 : Int32) (q2 : Int64) (va : Addr) (ls gr : Int64) (i : Nat) (u_based : Value) (u_narrow : Value) (u_wide : Value) (u_nulls : Value) (bb : Int64) (nr : Addr) (kn : ClassId) (nn : Int32) (ys : List Int32) (kv : ClassId) (zs : List Int64) (X0 : Stand p l e ({ frames := 1, cells := 2, slots := 16, locals := 40 } : Room) s m args below meth c T0 locs cells slots) (hx : p.tables.exec = Jvm.exec) (hZ : Z.Warmed39 s.vm) (hw : ∀ d ∈ tables_1, d.before A0 Z = true) (hby : c.code = prog_257_method_15_code) (hml : c.maxLocals = 15) (hown : s.vm.findClass "com/example/wadjet/wadjet/storage/IntegerChunk" = some m.cls) (e0 : T0.heap = h0) (N0 : Fr n0 locs) (Z0 : n0 ≤ h0.size) (E_a0 : Exa Z h0 a0 "com/example/wadjet/wadjet/storage/IntegerChunk") (F_width_a0 : Fld Z h0 a0 "com/example/wadjet/wadjet/storage/IntegerChunk" "width" "I" (.int (2 : Int32))) (F_base_a0 : Fld Z h0 a0 "com/example/wadjet/wadjet/storage/IntegerChunk" "base" "J" (.long bb)) (F_based_a0 : Fld Z h0 a0 "com/example/wadjet/wadjet/storage/IntegerChunk" "based" "Z" u_based) (F_narrow_a0 : Fld Z h0 a0 "com/example/wadjet/wadjet/storage/IntegerChunk" "narrow" "[B" u_narrow) (F_middle_a0 : Fld Z h0 a0 "com/example/wadjet/wadjet/storage/IntegerChunk" "middle" "[C" (.ref nr)) (F_wide_a0 : Fld Z h0 a0 "com/example/wadjet/wadjet/storage/IntegerChunk" "wide" "[I" u_wide) (F_nulls_a0 : Fld Z h0 a0 "com/example/wadjet/wadjet/storage/IntegerChunk" "nulls" "[J" u_nulls) (V_nr : Arv Z h0 nr kn .char nn (ys.map Value.int) (.int (0 : Int32))) (V_va : Arv Z h0 va kv .long nn (zs.map Value.long) (.long (0 : Int64))) (g_va : n0 ≤ va) (ne_a0_va : a0 ≠ va) (ne_nr_va : nr ≠ va) (hn : nn.toInt ≤ 8) (hi : (i : Int) < nn.toInt) (hz : zs.length = nn.toNatClampNeg) (hq : ((Int32.ofNat i) = p1)) (hcl : cells ≤ 2) (hsl : slots ≤ 16) :
    ∃ (T' : State) (h' : Heap) (locs' : List Loc), Stand p l e ({ frames := 1, cells := 2, slots := 16, locals := 40 } : Room) s m args below meth c T' locs' cells slots ∧ T'.heap = h' ∧ Fr n0 locs' ∧ Keep h0 h' [va] ∧ Exa Z h' a0 "com/example/wadjet/wadjet/storage/IntegerChunk" ∧ Fld Z h' a0 "com/example/wadjet/wadjet/storage/IntegerChunk" "width" "I" (.int (2 : Int32)) ∧ Fld Z h' a0 "com/example/wadjet/wadjet/storage/IntegerChunk" "base" "J" (.long bb) ∧ Fld Z h' a0 "com/example/wadjet/wadjet/storage/IntegerChunk" "based" "Z" u_based ∧ Fld Z h' a0 "com/example/wadjet/wadjet/storage/IntegerChunk" "narrow" "[B" u_narrow ∧ Fld Z h' a0 "com/example/wadjet/wadjet/storage/IntegerChunk" "middle" "[C" (.ref nr) ∧ Fld Z h' a0 "com/example/wadjet/wadjet/storage/IntegerChunk" "wide" "[I" u_wide ∧ Fld Z h' a0 "com/example/wadjet/wadjet/storage/IntegerChunk" "nulls" "[J" u_nulls ∧ Arv Z h' nr kn .char nn (ys.map Value.int) (.int (0 : Int32)) ∧ Arv Z h' va kv .long nn ((zs.set i q2).map Value.long) (.long (0 : Int64)) ∧ 
      ∀ target, Steps p.tables e below (T'.setTop (mkF m 17 #[.val (.ref a0), .val (.int p1), .val (.long q2), .second, .val (.ref va), .val (.long (if q2 < ls then q2 else ls)), .second, .val (.long (if gr < q2 then q2 else gr)), .second, .val (.int ((Int32.ofNat i) + (1 : Int32))), .unset, .unset, .unset, .unset, .unset] [])) target → Steps p.tables e below (T0.setTop (mkF m 17 #[.val (.ref a0), .val (.int p1), .val (.long q2), .second, .val (.ref va), .val (.long ls), .second, .val (.long gr), .second, .val (.int (Int32.ofNat i)), .unset, .unset, .unset, .unset, .unset] [])) target := by
  have K0 : Keep h0 h0 [va] := Keep.refl _ _
  obtain ⟨cl1, Ar1, -, SS1, MM1, -, -⟩ := id V_va
  obtain ⟨cl2, Ar2, qq2, SS2, MM2, HH2, GG2⟩ := id V_va
  have hin2 := inb_of SS2 (own_inN hn hi)
  obtain ⟨T2, h2, X2, e2, W2, st2⟩ := stJ X0 hx hZ e0 Ar2 (j := (Int32.ofNat i)) hin2 (g := (mkF m 45 #[.val (.ref a0), .val (.int p1), .val (.long q2), .second, .val (.ref va), .val (.long ls), .second, .val (.long gr), .second, .val (.int (Int32.ofNat i)), .unset, .unset, .unset, .unset, .unset] [(.long q2), (.int (Int32.ofNat i)), (.ref va)])) rfl rfl (hb hby d9_45)
  have V_va : Arv Z h2 va kv .long nn ((zs.set i q2).map Value.long) (.long (0 : Int64)) := by rw [List.map_set]; exact Arv.set Ar2 qq2 SS2 MM2 HH2 GG2 rfl W2 i (own_idx (by omega)) (by rw [List.length_map, hz, own_tn]; omega)
  have E_a0 : Exa Z h2 a0 "com/example/wadjet/wadjet/storage/IntegerChunk" := E_a0.wr W2
  have F_width_a0 : Fld Z h2 a0 "com/example/wadjet/wadjet/storage/IntegerChunk" "width" "I" (.int (2 : Int32)) := F_width_a0.other W2 (Or.inl ne_a0_va)
  have F_base_a0 : Fld Z h2 a0 "com/example/wadjet/wadjet/storage/IntegerChunk" "base" "J" (.long bb) := F_base_a0.other W2 (Or.inl ne_a0_va)
  have F_based_a0 : Fld Z h2 a0 "com/example/wadjet/wadjet/storage/IntegerChunk" "based" "Z" u_based := F_based_a0.other W2 (Or.inl ne_a0_va)
  have F_narrow_a0 : Fld Z h2 a0 "com/example/wadjet/wadjet/storage/IntegerChunk" "narrow" "[B" u_narrow := F_narrow_a0.other W2 (Or.inl ne_a0_va)
  have F_middle_a0 : Fld Z h2 a0 "com/example/wadjet/wadjet/storage/IntegerChunk" "middle" "[C" (.ref nr) := F_middle_a0.other W2 (Or.inl ne_a0_va)
  have F_wide_a0 : Fld Z h2 a0 "com/example/wadjet/wadjet/storage/IntegerChunk" "wide" "[I" u_wide := F_wide_a0.other W2 (Or.inl ne_a0_va)
  have F_nulls_a0 : Fld Z h2 a0 "com/example/wadjet/wadjet/storage/IntegerChunk" "nulls" "[J" u_nulls := F_nulls_a0.other W2 (Or.inl ne_a0_va)
  have V_nr : Arv Z h2 nr kn .char nn (ys.map Value.int) (.int (0 : Int32)) := V_nr.other W2 ne_nr_va
  have Zh2 : n0 ≤ h2.size := Nat.le_trans Z0 (Keep.of_wr W2).1
  have Kh2 : Keep h0 h2 [va] := K0.wr W2 (Or.inl (by simp))
  have N2 := Fr.snoc X2 N0 g_va
  obtain ⟨cl3, Ar3, -, SS3, MM3, HH3, -⟩ := id V_va
  have hin3 := inb_of SS3 (own_inN hn hi)
  have hat3 : cl3.slots[((Int32.ofNat i)).toNatClampNeg]? = some (.long q2) := HH3.at hin3 (own_rb (by omega) (by rw [hz, own_tn]; omega))
  obtain ⟨_, _, ⟨T4, L4, k4, n4⟩, -, X4, ⟨Lc4, hQ4, l4, y4, z4⟩, st4⟩ := Jvm.LawKit.callS X2 hx (y := (⟨"java/lang/Math", "min", "(JJ)J"⟩ : MethodName)) hown (mvT hZ (hw _ (List.mem_of_getElem? (i := 53) rfl))) (mvT hZ (hw _ (List.mem_of_getElem? (i := 54) rfl))) (mvT hZ (hw _ (List.mem_of_getElem? (i := 26) rfl))) (mvT hZ (hw _ (List.mem_of_getElem? (i := 55) rfl))) (by decide) (backOf (W := 0) (rm10 l Z A0 hw [] ls q2  h2 n0 Zh2 ) hZ (hw _ (List.mem_of_getElem? (i := 55) rfl)) (hw _ (List.mem_of_getElem? (i := 26) rfl)) (by decide) (by decide)) (g := (mkF m 53 #[.val (.ref a0), .val (.int p1), .val (.long q2), .second, .val (.ref va), .val (.long ls), .second, .val (.long gr), .second, .val (.int (Int32.ofNat i)), .unset, .unset, .unset, .unset, .unset] [(.long q2), (.long ls)])) rfl (by rw [hml]; rfl) (argsL := [(.long ls), (.long q2)]) (rest := []) (lenOf pd_5 rfl) rfl (by show 2 * 0 + _ ≤ _; exact Nat.le_of_eq rfl) (hb hby d9_53) (fun _ _ => ⟨rfl, e2, (by show cells + 0 ≤ 2; omega), (by show slots + 0 ≤ 16; omega)⟩)
  dsimp only [Pt.U, Pt.locs, Pt.cells, Pt.slots] at X4 l4 y4 z4 st4 hQ4
  rw [y4, z4] at X4
  obtain ⟨rfl, N4q, eh4⟩ := hQ4
  have N4 : Fr n0 L4 := by rw [l4]; exact Fr.app N2 N4q
  clear l4
  obtain ⟨cl5, Ar5, -, SS5, MM5, HH5, -⟩ := id V_va
  have hin5 := inb_of SS5 (own_inN hn hi)
  have hat5 : cl5.slots[((Int32.ofNat i)).toNatClampNeg]? = some (.long q2) := HH5.at hin5 (own_rb (by omega) (by rw [hz, own_tn]; omega))
  obtain ⟨_, _, ⟨T6, L6, k6, n6⟩, -, X6, ⟨Lc6, hQ6, l6, y6, z6⟩, st6⟩ := Jvm.LawKit.callS X4 hx (y := (⟨"java/lang/Math", "max", "(JJ)J"⟩ : MethodName)) hown (mvT hZ (hw _ (List.mem_of_getElem? (i := 56) rfl))) (mvT hZ (hw _ (List.mem_of_getElem? (i := 57) rfl))) (mvT hZ (hw _ (List.mem_of_getElem? (i := 26) rfl))) (mvT hZ (hw _ (List.mem_of_getElem? (i := 58) rfl))) (by decide) (backOf (W := 0) (rm11 l Z A0 hw [] gr q2  h2 n0 Zh2 ) hZ (hw _ (List.mem_of_getElem? (i := 58) rfl)) (hw _ (List.mem_of_getElem? (i := 26) rfl)) (by decide) (by decide)) (g := (mkF m 65 #[.val (.ref a0), .val (.int p1), .val (.long q2), .second, .val (.ref va), .val (.long (if q2 < ls then q2 else ls)), .second, .val (.long gr), .second, .val (.int (Int32.ofNat i)), .unset, .unset, .unset, .unset, .unset] [(.long q2), (.long gr)])) rfl (by rw [hml]; rfl) (argsL := [(.long gr), (.long q2)]) (rest := []) (lenOf pd_5 rfl) rfl (by show 2 * 0 + _ ≤ _; exact Nat.le_of_eq rfl) (hb hby d9_65) (fun _ _ => ⟨rfl, eh4, (by show cells + 0 ≤ 2; omega), (by show slots + 0 ≤ 16; omega)⟩)
  dsimp only [Pt.U, Pt.locs, Pt.cells, Pt.slots] at X6 l6 y6 z6 st6 hQ6
  rw [y6, z6] at X6
  obtain ⟨rfl, N6q, eh6⟩ := hQ6
  have N6 : Fr n0 L6 := by rw [l6]; exact Fr.app N4 N6q
  clear l6
  refine ⟨T6, _, _, X6, eh6, N6, Kh2, E_a0, F_width_a0, F_base_a0, F_based_a0, F_narrow_a0, F_middle_a0, F_wide_a0, F_nulls_a0, V_nr, V_va, fun target kt => ?_⟩
  show Steps p.tables e below (T0.setTop (mkF m 17 #[.val (.ref a0), .val (.int p1), .val (.long q2), .second, .val (.ref va), .val (.long ls), .second, .val (.long gr), .second, .val (.int (Int32.ofNat i)), .unset, .unset, .unset, .unset, .unset] [])) _
  refine XS.iload X0.here hx rfl (hb hby d9_17) rfl ?_
  refine XS.aload X0.here hx rfl (hb hby d9_19) rfl rfl ?_
  refine X0.arraylength hx (by rw [e0]; exact Ar1.1) (State.isArrayOf_alike hZ.alike Ar1.2.1) (g := (mkF m 21 #[.val (.ref a0), .val (.int p1), .val (.long q2), .second, .val (.ref va), .val (.long ls), .second, .val (.long gr), .second, .val (.int (Int32.ofNat i)), .unset, .unset, .unset, .unset, .unset] [(.ref va), (.int (Int32.ofNat i))])) rfl rfl (hb hby d9_21) _ ?_
  rw [len_of SS1 MM1]
  show Steps p.tables e below (T0.setTop (mkF m 22 #[.val (.ref a0), .val (.int p1), .val (.long q2), .second, .val (.ref va), .val (.long ls), .second, .val (.long gr), .second, .val (.int (Int32.ofNat i)), .unset, .unset, .unset, .unset, .unset] [(.int nn), (.int (Int32.ofNat i))])) _
  refine XS.icmpNo X0.here hx rfl (hb hby d9_22) rfl (tlt ((own_inN hn hi).2 : (Int32.ofNat i) < nn)).2.1 ?_
  refine XS.aload X0.here hx rfl (hb hby d9_25) rfl rfl ?_
  refine XS.iload X0.here hx rfl (hb hby d9_27) rfl ?_
  refine XS.iload X0.here hx rfl (hb hby d9_29) rfl ?_
  show Steps p.tables e below (T0.setTop (mkF m 31 #[.val (.ref a0), .val (.int p1), .val (.long q2), .second, .val (.ref va), .val (.long ls), .second, .val (.long gr), .second, .val (.int (Int32.ofNat i)), .unset, .unset, .unset, .unset, .unset] [(.int (Int32.ofNat i)), (.int (Int32.ofNat i)), (.ref va)])) _
  refine XS.iloadN X0.here hx rfl (hb hby d9_31) rfl ?_
  refine XS.icmpNo X0.here hx rfl (hb hby d9_32) rfl (teq (hq : (Int32.ofNat i) = p1)).2 ?_
  refine XS.lloadN X0.here hx rfl (hb hby d9_35) rfl ?_
  refine XS.goto X0.here hx rfl (pc0 := 36) (pc' := 45) rfl (hb hby d9_36) (by decide) (by decide) ?_
  show Steps p.tables e below (T0.setTop (mkF m 45 #[.val (.ref a0), .val (.int p1), .val (.long q2), .second, .val (.ref va), .val (.long ls), .second, .val (.long gr), .second, .val (.int (Int32.ofNat i)), .unset, .unset, .unset, .unset, .unset] [(.long q2), (.int (Int32.ofNat i)), (.ref va)])) _
  refine st2 _ ?_
  show Steps p.tables e below (T2.setTop (mkF m 46 #[.val (.ref a0), .val (.int p1), .val (.long q2), .second, .val (.ref va), .val (.long ls), .second, .val (.long gr), .second, .val (.int (Int32.ofNat i)), .unset, .unset, .unset, .unset, .unset] [])) _
  refine XS.lload X2.here hx rfl (hb hby d9_46) rfl ?_
  refine XS.aload X2.here hx rfl (hb hby d9_48) rfl rfl ?_
  refine XS.iload X2.here hx rfl (hb hby d9_50) rfl ?_
  show Steps p.tables e below (T2.setTop (mkF m 52 #[.val (.ref a0), .val (.int p1), .val (.long q2), .second, .val (.ref va), .val (.long ls), .second, .val (.long gr), .second, .val (.int (Int32.ofNat i)), .unset, .unset, .unset, .unset, .unset] [(.int (Int32.ofNat i)), (.ref va), (.long ls)])) _
  refine X2.laload hx (j := (Int32.ofNat i)) (v := (.long q2)) (by rw [e2]; exact Ar3.1) (State.isArrayOf_alike hZ.alike Ar3.2.1) Ar3.2.2 hin3 hat3 (g := (mkF m 52 #[.val (.ref a0), .val (.int p1), .val (.long q2), .second, .val (.ref va), .val (.long ls), .second, .val (.long gr), .second, .val (.int (Int32.ofNat i)), .unset, .unset, .unset, .unset, .unset] [(.int (Int32.ofNat i)), (.ref va), (.long ls)])) rfl rfl (hb hby d9_52) _ ?_
  show Steps p.tables e below (T2.setTop (mkF m 53 #[.val (.ref a0), .val (.int p1), .val (.long q2), .second, .val (.ref va), .val (.long ls), .second, .val (.long gr), .second, .val (.int (Int32.ofNat i)), .unset, .unset, .unset, .unset, .unset] [(.long q2), (.long ls)])) _
  refine st4 _ ?_
  show Steps p.tables e below (T4.setTop (mkF m 56 #[.val (.ref a0), .val (.int p1), .val (.long q2), .second, .val (.ref va), .val (.long ls), .second, .val (.long gr), .second, .val (.int (Int32.ofNat i)), .unset, .unset, .unset, .unset, .unset] [(.long (if q2 < ls then q2 else ls))])) _
  refine XS.lstore X4.here hx rfl (hb hby d9_56) rfl (l' := #[.val (.ref a0), .val (.int p1), .val (.long q2), .second, .val (.ref va), .val (.long (if q2 < ls then q2 else ls)), .second, .val (.long gr), .second, .val (.int (Int32.ofNat i)), .unset, .unset, .unset, .unset, .unset]) rfl ?_
  refine XS.lload X4.here hx rfl (hb hby d9_58) rfl ?_
  show Steps p.tables e below (T4.setTop (mkF m 60 #[.val (.ref a0), .val (.int p1), .val (.long q2), .second, .val (.ref va), .val (.long (if q2 < ls then q2 else ls)), .second, .val (.long gr), .second, .val (.int (Int32.ofNat i)), .unset, .unset, .unset, .unset, .unset] [(.long gr)])) _
  refine XS.aload X4.here hx rfl (hb hby d9_60) rfl rfl ?_
  refine XS.iload X4.here hx rfl (hb hby d9_62) rfl ?_
  refine X4.laload hx (j := (Int32.ofNat i)) (v := (.long q2)) (by rw [eh4]; exact Ar5.1) (State.isArrayOf_alike hZ.alike Ar5.2.1) Ar5.2.2 hin5 hat5 (g := (mkF m 64 #[.val (.ref a0), .val (.int p1), .val (.long q2), .second, .val (.ref va), .val (.long (if q2 < ls then q2 else ls)), .second, .val (.long gr), .second, .val (.int (Int32.ofNat i)), .unset, .unset, .unset, .unset, .unset] [(.int (Int32.ofNat i)), (.ref va), (.long gr)])) rfl rfl (hb hby d9_64) _ ?_
  show Steps p.tables e below (T4.setTop (mkF m 65 #[.val (.ref a0), .val (.int p1), .val (.long q2), .second, .val (.ref va), .val (.long (if q2 < ls then q2 else ls)), .second, .val (.long gr), .second, .val (.int (Int32.ofNat i)), .unset, .unset, .unset, .unset, .unset] [(.long q2), (.long gr)])) _
  refine st6 _ ?_
  show Steps p.tables e below (T6.setTop (mkF m 68 #[.val (.ref a0), .val (.int p1), .val (.long q2), .second, .val (.ref va), .val (.long (if q2 < ls then q2 else ls)), .second, .val (.long gr), .second, .val (.int (Int32.ofNat i)), .unset, .unset, .unset, .unset, .unset] [(.long (if gr < q2 then q2 else gr))])) _
  refine XS.lstore X6.here hx rfl (hb hby d9_68) rfl (l' := #[.val (.ref a0), .val (.int p1), .val (.long q2), .second, .val (.ref va), .val (.long (if q2 < ls then q2 else ls)), .second, .val (.long (if gr < q2 then q2 else gr)), .second, .val (.int (Int32.ofNat i)), .unset, .unset, .unset, .unset, .unset]) rfl ?_
  refine XS.iinc X6.here hx rfl (hb hby d9_70) rfl (l' := #[.val (.ref a0), .val (.int p1), .val (.long q2), .second, .val (.ref va), .val (.long (if q2 < ls then q2 else ls)), .second, .val (.long (if gr < q2 then q2 else gr)), .second, .val (.int ((Int32.ofNat i) + (1 : Int32))), .unset, .unset, .unset, .unset, .unset]) rfl ?_
  refine XS.goto X6.here hx rfl (pc0 := 73) (pc' := 17) rfl (hb hby d9_73) (by decide) (by decide) ?_
  show Steps p.tables e below (T6.setTop (mkF m 17 #[.val (.ref a0), .val (.int p1), .val (.long q2), .second, .val (.ref va), .val (.long (if q2 < ls then q2 else ls)), .second, .val (.long (if gr < q2 then q2 else gr)), .second, .val (.int ((Int32.ofNat i) + (1 : Int32))), .unset, .unset, .unset, .unset, .unset] [])) _
  exact kt
set_option maxRecDepth 65536 in
set_option maxHeartbeats 40000000 in
theorem tw2n {p : Program} {l : Launch} {e : Env} {s : State} {m : MethodId} {args : Array Value} {below : List Frame} {meth : Method} {c : Code} {T0 : State} {locs : List Loc} {cells slots : Nat} {Z : State} {A0 : Array Value} {h0 : Heap} {n0 : Nat} (a0 : Addr) (p1 : Int32) (q2 : Int64) (va : Addr) (ls gr : Int64) (i : Nat) (u_based : Value) (u_narrow : Value) (u_wide : Value) (u_nulls : Value) (bb : Int64) (nr : Addr) (kn : ClassId) (nn : Int32) (ys : List Int32) (kv : ClassId) (zs : List Int64) (X0 : Stand p l e ({ frames := 1, cells := 2, slots := 16, locals := 40 } : Room) s m args below meth c T0 locs cells slots) (hx : p.tables.exec = Jvm.exec) (hZ : Z.Warmed39 s.vm) (hw : ∀ d ∈ tables_1, d.before A0 Z = true) (hby : c.code = prog_257_method_15_code) (hml : c.maxLocals = 15) (hown : s.vm.findClass "com/example/wadjet/wadjet/storage/IntegerChunk" = some m.cls) (e0 : T0.heap = h0) (N0 : Fr n0 locs) (Z0 : n0 ≤ h0.size) (E_a0 : Exa Z h0 a0 "com/example/wadjet/wadjet/storage/IntegerChunk") (F_width_a0 : Fld Z h0 a0 "com/example/wadjet/wadjet/storage/IntegerChunk" "width" "I" (.int (2 : Int32))) (F_base_a0 : Fld Z h0 a0 "com/example/wadjet/wadjet/storage/IntegerChunk" "base" "J" (.long bb)) (F_based_a0 : Fld Z h0 a0 "com/example/wadjet/wadjet/storage/IntegerChunk" "based" "Z" u_based) (F_narrow_a0 : Fld Z h0 a0 "com/example/wadjet/wadjet/storage/IntegerChunk" "narrow" "[B" u_narrow) (F_middle_a0 : Fld Z h0 a0 "com/example/wadjet/wadjet/storage/IntegerChunk" "middle" "[C" (.ref nr)) (F_wide_a0 : Fld Z h0 a0 "com/example/wadjet/wadjet/storage/IntegerChunk" "wide" "[I" u_wide) (F_nulls_a0 : Fld Z h0 a0 "com/example/wadjet/wadjet/storage/IntegerChunk" "nulls" "[J" u_nulls) (V_nr : Arv Z h0 nr kn .char nn (ys.map Value.int) (.int (0 : Int32))) (V_va : Arv Z h0 va kv .long nn (zs.map Value.long) (.long (0 : Int64))) (g_va : n0 ≤ va) (ne_a0_va : a0 ≠ va) (ne_nr_va : nr ≠ va) (hn : nn.toInt ≤ 8) (hi : (i : Int) < nn.toInt) (hz : zs.length = nn.toNatClampNeg) (hq : ¬ ((Int32.ofNat i) = p1)) (hcl : cells ≤ 2) (hsl : slots ≤ 16) :
    ∃ (T' : State) (h' : Heap) (locs' : List Loc), Stand p l e ({ frames := 1, cells := 2, slots := 16, locals := 40 } : Room) s m args below meth c T' locs' cells slots ∧ T'.heap = h' ∧ Fr n0 locs' ∧ Keep h0 h' [va] ∧ Exa Z h' a0 "com/example/wadjet/wadjet/storage/IntegerChunk" ∧ Fld Z h' a0 "com/example/wadjet/wadjet/storage/IntegerChunk" "width" "I" (.int (2 : Int32)) ∧ Fld Z h' a0 "com/example/wadjet/wadjet/storage/IntegerChunk" "base" "J" (.long bb) ∧ Fld Z h' a0 "com/example/wadjet/wadjet/storage/IntegerChunk" "based" "Z" u_based ∧ Fld Z h' a0 "com/example/wadjet/wadjet/storage/IntegerChunk" "narrow" "[B" u_narrow ∧ Fld Z h' a0 "com/example/wadjet/wadjet/storage/IntegerChunk" "middle" "[C" (.ref nr) ∧ Fld Z h' a0 "com/example/wadjet/wadjet/storage/IntegerChunk" "wide" "[I" u_wide ∧ Fld Z h' a0 "com/example/wadjet/wadjet/storage/IntegerChunk" "nulls" "[J" u_nulls ∧ Arv Z h' nr kn .char nn (ys.map Value.int) (.int (0 : Int32)) ∧ Arv Z h' va kv .long nn ((zs.set i (own_rd (2 : Int32) bb (ys.getD (Int32.ofNat i).toNatClampNeg 0))).map Value.long) (.long (0 : Int64)) ∧ 
      ∀ target, Steps p.tables e below (T'.setTop (mkF m 17 #[.val (.ref a0), .val (.int p1), .val (.long q2), .second, .val (.ref va), .val (.long (if (own_rd (2 : Int32) bb (ys.getD (Int32.ofNat i).toNatClampNeg 0)) < ls then (own_rd (2 : Int32) bb (ys.getD (Int32.ofNat i).toNatClampNeg 0)) else ls)), .second, .val (.long (if gr < (own_rd (2 : Int32) bb (ys.getD (Int32.ofNat i).toNatClampNeg 0)) then (own_rd (2 : Int32) bb (ys.getD (Int32.ofNat i).toNatClampNeg 0)) else gr)), .second, .val (.int ((Int32.ofNat i) + (1 : Int32))), .unset, .unset, .unset, .unset, .unset] [])) target → Steps p.tables e below (T0.setTop (mkF m 17 #[.val (.ref a0), .val (.int p1), .val (.long q2), .second, .val (.ref va), .val (.long ls), .second, .val (.long gr), .second, .val (.int (Int32.ofNat i)), .unset, .unset, .unset, .unset, .unset] [])) target := by
  have K0 : Keep h0 h0 [va] := Keep.refl _ _
  obtain ⟨cl1, Ar1, -, SS1, MM1, -, -⟩ := id V_va
  obtain ⟨cq2, kq2, q2a, q2b, q2c⟩ := isOf hZ e0 E_a0
  obtain ⟨_, _, ⟨T2, L2, k2, n2⟩, -, X2, ⟨Lc2, hQ2, l2, y2, z2⟩, st2⟩ := X0.virtualBack hx (y := (⟨"com/example/wadjet/wadjet/storage/IntegerChunk", "integer", "(I)J"⟩ : MethodName)) (z := (⟨"com/example/wadjet/wadjet/storage/IntegerChunk", "integer", "(I)J"⟩ : MethodName)) hown (mvT hZ (hw _ (List.mem_of_getElem? (i := 52) rfl))) (mvT hZ (hw _ (List.mem_of_getElem? (i := 39) rfl))) (notFace_of_selects (args := #[]) (mvT hZ (hw _ (List.mem_of_getElem? (i := 41) rfl)))) (mvT hZ (hw _ (List.mem_of_getElem? (i := 41) rfl))) (mvT hZ (hw _ (List.mem_of_getElem? (i := 40) rfl))) (by decide) (backOf (W := 2) (rmI_2 l Z A0 hw [] a0 (Int32.ofNat i) bb nr kn nn ys h0 n0 Z0 F_width_a0 F_base_a0 F_middle_a0 V_nr (own_inN hn hi)) hZ (hw _ (List.mem_of_getElem? (i := 42) rfl)) (hw _ (List.mem_of_getElem? (i := 2) rfl)) (by decide) (by decide)) q2a q2c (g := (mkF m 42 #[.val (.ref a0), .val (.int p1), .val (.long q2), .second, .val (.ref va), .val (.long ls), .second, .val (.long gr), .second, .val (.int (Int32.ofNat i)), .unset, .unset, .unset, .unset, .unset] [(.int (Int32.ofNat i)), (.ref a0), (.int (Int32.ofNat i)), (.ref va)])) rfl (by rw [hml]; rfl) (Steps.refl _) (argsL := [(.int (Int32.ofNat i))]) (rest := [(.int (Int32.ofNat i)), (.ref va)]) (lenOf pd_6 rfl) rfl (by show 2 * 0 + _ ≤ _; exact Nat.le_of_eq rfl) (hb hby d9_42) (fun _ _ => ⟨rfl, e0, (by show cells + 0 ≤ 2; omega), (by show slots + 0 ≤ 16; omega)⟩)
  dsimp only [Pt.U, Pt.locs, Pt.cells, Pt.slots] at X2 l2 y2 z2 st2 hQ2
  rw [y2, z2] at X2
  obtain ⟨rfl, N2q, eh2⟩ := hQ2
  have N2 : Fr n0 L2 := by rw [l2]; exact Fr.app N0 N2q
  clear l2
  obtain ⟨cl3, Ar3, qq3, SS3, MM3, HH3, GG3⟩ := id V_va
  have hin3 := inb_of SS3 (own_inN hn hi)
  obtain ⟨T3, h3, X3, e3, W3, st3⟩ := stJ X2 hx hZ eh2 Ar3 (j := (Int32.ofNat i)) hin3 (g := (mkF m 45 #[.val (.ref a0), .val (.int p1), .val (.long q2), .second, .val (.ref va), .val (.long ls), .second, .val (.long gr), .second, .val (.int (Int32.ofNat i)), .unset, .unset, .unset, .unset, .unset] [(.long (own_rd (2 : Int32) bb (ys.getD (Int32.ofNat i).toNatClampNeg 0))), (.int (Int32.ofNat i)), (.ref va)])) rfl rfl (hb hby d9_45)
  have V_va : Arv Z h3 va kv .long nn ((zs.set i (own_rd (2 : Int32) bb (ys.getD (Int32.ofNat i).toNatClampNeg 0))).map Value.long) (.long (0 : Int64)) := by rw [List.map_set]; exact Arv.set Ar3 qq3 SS3 MM3 HH3 GG3 rfl W3 i (own_idx (by omega)) (by rw [List.length_map, hz, own_tn]; omega)
  have E_a0 : Exa Z h3 a0 "com/example/wadjet/wadjet/storage/IntegerChunk" := E_a0.wr W3
  have F_width_a0 : Fld Z h3 a0 "com/example/wadjet/wadjet/storage/IntegerChunk" "width" "I" (.int (2 : Int32)) := F_width_a0.other W3 (Or.inl ne_a0_va)
  have F_base_a0 : Fld Z h3 a0 "com/example/wadjet/wadjet/storage/IntegerChunk" "base" "J" (.long bb) := F_base_a0.other W3 (Or.inl ne_a0_va)
  have F_based_a0 : Fld Z h3 a0 "com/example/wadjet/wadjet/storage/IntegerChunk" "based" "Z" u_based := F_based_a0.other W3 (Or.inl ne_a0_va)
  have F_narrow_a0 : Fld Z h3 a0 "com/example/wadjet/wadjet/storage/IntegerChunk" "narrow" "[B" u_narrow := F_narrow_a0.other W3 (Or.inl ne_a0_va)
  have F_middle_a0 : Fld Z h3 a0 "com/example/wadjet/wadjet/storage/IntegerChunk" "middle" "[C" (.ref nr) := F_middle_a0.other W3 (Or.inl ne_a0_va)
  have F_wide_a0 : Fld Z h3 a0 "com/example/wadjet/wadjet/storage/IntegerChunk" "wide" "[I" u_wide := F_wide_a0.other W3 (Or.inl ne_a0_va)
  have F_nulls_a0 : Fld Z h3 a0 "com/example/wadjet/wadjet/storage/IntegerChunk" "nulls" "[J" u_nulls := F_nulls_a0.other W3 (Or.inl ne_a0_va)
  have V_nr : Arv Z h3 nr kn .char nn (ys.map Value.int) (.int (0 : Int32)) := V_nr.other W3 ne_nr_va
  have Zh3 : n0 ≤ h3.size := Nat.le_trans Z0 (Keep.of_wr W3).1
  have Kh3 : Keep h0 h3 [va] := K0.wr W3 (Or.inl (by simp))
  have N3 := Fr.snoc X3 N2 g_va
  obtain ⟨cl4, Ar4, -, SS4, MM4, HH4, -⟩ := id V_va
  have hin4 := inb_of SS4 (own_inN hn hi)
  have hat4 : cl4.slots[((Int32.ofNat i)).toNatClampNeg]? = some (.long (own_rd (2 : Int32) bb (ys.getD (Int32.ofNat i).toNatClampNeg 0))) := HH4.at hin4 (own_rb (by omega) (by rw [hz, own_tn]; omega))
  obtain ⟨_, _, ⟨T5, L5, k5, n5⟩, -, X5, ⟨Lc5, hQ5, l5, y5, z5⟩, st5⟩ := Jvm.LawKit.callS X3 hx (y := (⟨"java/lang/Math", "min", "(JJ)J"⟩ : MethodName)) hown (mvT hZ (hw _ (List.mem_of_getElem? (i := 53) rfl))) (mvT hZ (hw _ (List.mem_of_getElem? (i := 54) rfl))) (mvT hZ (hw _ (List.mem_of_getElem? (i := 26) rfl))) (mvT hZ (hw _ (List.mem_of_getElem? (i := 55) rfl))) (by decide) (backOf (W := 0) (rm10 l Z A0 hw [] ls (own_rd (2 : Int32) bb (ys.getD (Int32.ofNat i).toNatClampNeg 0))  h3 n0 Zh3 ) hZ (hw _ (List.mem_of_getElem? (i := 55) rfl)) (hw _ (List.mem_of_getElem? (i := 26) rfl)) (by decide) (by decide)) (g := (mkF m 53 #[.val (.ref a0), .val (.int p1), .val (.long q2), .second, .val (.ref va), .val (.long ls), .second, .val (.long gr), .second, .val (.int (Int32.ofNat i)), .unset, .unset, .unset, .unset, .unset] [(.long (own_rd (2 : Int32) bb (ys.getD (Int32.ofNat i).toNatClampNeg 0))), (.long ls)])) rfl (by rw [hml]; rfl) (argsL := [(.long ls), (.long (own_rd (2 : Int32) bb (ys.getD (Int32.ofNat i).toNatClampNeg 0)))]) (rest := []) (lenOf pd_5 rfl) rfl (by show 2 * 0 + _ ≤ _; exact Nat.le_of_eq rfl) (hb hby d9_53) (fun _ _ => ⟨rfl, e3, (by show cells + 0 ≤ 2; omega), (by show slots + 0 ≤ 16; omega)⟩)
  dsimp only [Pt.U, Pt.locs, Pt.cells, Pt.slots] at X5 l5 y5 z5 st5 hQ5
  rw [y5, z5] at X5
  obtain ⟨rfl, N5q, eh5⟩ := hQ5
  have N5 : Fr n0 L5 := by rw [l5]; exact Fr.app N3 N5q
  clear l5
  obtain ⟨cl6, Ar6, -, SS6, MM6, HH6, -⟩ := id V_va
  have hin6 := inb_of SS6 (own_inN hn hi)
  have hat6 : cl6.slots[((Int32.ofNat i)).toNatClampNeg]? = some (.long (own_rd (2 : Int32) bb (ys.getD (Int32.ofNat i).toNatClampNeg 0))) := HH6.at hin6 (own_rb (by omega) (by rw [hz, own_tn]; omega))
  obtain ⟨_, _, ⟨T7, L7, k7, n7⟩, -, X7, ⟨Lc7, hQ7, l7, y7, z7⟩, st7⟩ := Jvm.LawKit.callS X5 hx (y := (⟨"java/lang/Math", "max", "(JJ)J"⟩ : MethodName)) hown (mvT hZ (hw _ (List.mem_of_getElem? (i := 56) rfl))) (mvT hZ (hw _ (List.mem_of_getElem? (i := 57) rfl))) (mvT hZ (hw _ (List.mem_of_getElem? (i := 26) rfl))) (mvT hZ (hw _ (List.mem_of_getElem? (i := 58) rfl))) (by decide) (backOf (W := 0) (rm11 l Z A0 hw [] gr (own_rd (2 : Int32) bb (ys.getD (Int32.ofNat i).toNatClampNeg 0))  h3 n0 Zh3 ) hZ (hw _ (List.mem_of_getElem? (i := 58) rfl)) (hw _ (List.mem_of_getElem? (i := 26) rfl)) (by decide) (by decide)) (g := (mkF m 65 #[.val (.ref a0), .val (.int p1), .val (.long q2), .second, .val (.ref va), .val (.long (if (own_rd (2 : Int32) bb (ys.getD (Int32.ofNat i).toNatClampNeg 0)) < ls then (own_rd (2 : Int32) bb (ys.getD (Int32.ofNat i).toNatClampNeg 0)) else ls)), .second, .val (.long gr), .second, .val (.int (Int32.ofNat i)), .unset, .unset, .unset, .unset, .unset] [(.long (own_rd (2 : Int32) bb (ys.getD (Int32.ofNat i).toNatClampNeg 0))), (.long gr)])) rfl (by rw [hml]; rfl) (argsL := [(.long gr), (.long (own_rd (2 : Int32) bb (ys.getD (Int32.ofNat i).toNatClampNeg 0)))]) (rest := []) (lenOf pd_5 rfl) rfl (by show 2 * 0 + _ ≤ _; exact Nat.le_of_eq rfl) (hb hby d9_65) (fun _ _ => ⟨rfl, eh5, (by show cells + 0 ≤ 2; omega), (by show slots + 0 ≤ 16; omega)⟩)
  dsimp only [Pt.U, Pt.locs, Pt.cells, Pt.slots] at X7 l7 y7 z7 st7 hQ7
  rw [y7, z7] at X7
  obtain ⟨rfl, N7q, eh7⟩ := hQ7
  have N7 : Fr n0 L7 := by rw [l7]; exact Fr.app N5 N7q
  clear l7
  refine ⟨T7, _, _, X7, eh7, N7, Kh3, E_a0, F_width_a0, F_base_a0, F_based_a0, F_narrow_a0, F_middle_a0, F_wide_a0, F_nulls_a0, V_nr, V_va, fun target kt => ?_⟩
  show Steps p.tables e below (T0.setTop (mkF m 17 #[.val (.ref a0), .val (.int p1), .val (.long q2), .second, .val (.ref va), .val (.long ls), .second, .val (.long gr), .second, .val (.int (Int32.ofNat i)), .unset, .unset, .unset, .unset, .unset] [])) _
  refine XS.iload X0.here hx rfl (hb hby d9_17) rfl ?_
  refine XS.aload X0.here hx rfl (hb hby d9_19) rfl rfl ?_
  refine X0.arraylength hx (by rw [e0]; exact Ar1.1) (State.isArrayOf_alike hZ.alike Ar1.2.1) (g := (mkF m 21 #[.val (.ref a0), .val (.int p1), .val (.long q2), .second, .val (.ref va), .val (.long ls), .second, .val (.long gr), .second, .val (.int (Int32.ofNat i)), .unset, .unset, .unset, .unset, .unset] [(.ref va), (.int (Int32.ofNat i))])) rfl rfl (hb hby d9_21) _ ?_
  rw [len_of SS1 MM1]
  show Steps p.tables e below (T0.setTop (mkF m 22 #[.val (.ref a0), .val (.int p1), .val (.long q2), .second, .val (.ref va), .val (.long ls), .second, .val (.long gr), .second, .val (.int (Int32.ofNat i)), .unset, .unset, .unset, .unset, .unset] [(.int nn), (.int (Int32.ofNat i))])) _
  refine XS.icmpNo X0.here hx rfl (hb hby d9_22) rfl (tlt ((own_inN hn hi).2 : (Int32.ofNat i) < nn)).2.1 ?_
  refine XS.aload X0.here hx rfl (hb hby d9_25) rfl rfl ?_
  refine XS.iload X0.here hx rfl (hb hby d9_27) rfl ?_
  refine XS.iload X0.here hx rfl (hb hby d9_29) rfl ?_
  show Steps p.tables e below (T0.setTop (mkF m 31 #[.val (.ref a0), .val (.int p1), .val (.long q2), .second, .val (.ref va), .val (.long ls), .second, .val (.long gr), .second, .val (.int (Int32.ofNat i)), .unset, .unset, .unset, .unset, .unset] [(.int (Int32.ofNat i)), (.int (Int32.ofNat i)), (.ref va)])) _
  refine XS.iloadN X0.here hx rfl (hb hby d9_31) rfl ?_
  refine XS.icmpYes X0.here hx rfl (pc0 := 32) (pc' := 39) rfl (hb hby d9_32) rfl (feq (hq : ¬ ((Int32.ofNat i) = p1))).2 (by decide) (by decide) ?_
  show Steps p.tables e below (T0.setTop (mkF m 39 #[.val (.ref a0), .val (.int p1), .val (.long q2), .second, .val (.ref va), .val (.long ls), .second, .val (.long gr), .second, .val (.int (Int32.ofNat i)), .unset, .unset, .unset, .unset, .unset] [(.int (Int32.ofNat i)), (.ref va)])) _
  refine XS.aloadN X0.here hx rfl (hb hby d9_39) rfl rfl ?_
  refine XS.iload X0.here hx rfl (hb hby d9_40) rfl ?_
  show Steps p.tables e below (T0.setTop (mkF m 42 #[.val (.ref a0), .val (.int p1), .val (.long q2), .second, .val (.ref va), .val (.long ls), .second, .val (.long gr), .second, .val (.int (Int32.ofNat i)), .unset, .unset, .unset, .unset, .unset] [(.int (Int32.ofNat i)), (.ref a0), (.int (Int32.ofNat i)), (.ref va)])) _
  refine st2.trans ?_
  show Steps p.tables e below (T2.setTop (mkF m 45 #[.val (.ref a0), .val (.int p1), .val (.long q2), .second, .val (.ref va), .val (.long ls), .second, .val (.long gr), .second, .val (.int (Int32.ofNat i)), .unset, .unset, .unset, .unset, .unset] [(.long (own_rd (2 : Int32) bb (ys.getD (Int32.ofNat i).toNatClampNeg 0))), (.int (Int32.ofNat i)), (.ref va)])) _
  refine st3 _ ?_
  show Steps p.tables e below (T3.setTop (mkF m 46 #[.val (.ref a0), .val (.int p1), .val (.long q2), .second, .val (.ref va), .val (.long ls), .second, .val (.long gr), .second, .val (.int (Int32.ofNat i)), .unset, .unset, .unset, .unset, .unset] [])) _
  refine XS.lload X3.here hx rfl (hb hby d9_46) rfl ?_
  refine XS.aload X3.here hx rfl (hb hby d9_48) rfl rfl ?_
  show Steps p.tables e below (T3.setTop (mkF m 50 #[.val (.ref a0), .val (.int p1), .val (.long q2), .second, .val (.ref va), .val (.long ls), .second, .val (.long gr), .second, .val (.int (Int32.ofNat i)), .unset, .unset, .unset, .unset, .unset] [(.ref va), (.long ls)])) _
  refine XS.iload X3.here hx rfl (hb hby d9_50) rfl ?_
  refine X3.laload hx (j := (Int32.ofNat i)) (v := (.long (own_rd (2 : Int32) bb (ys.getD (Int32.ofNat i).toNatClampNeg 0)))) (by rw [e3]; exact Ar4.1) (State.isArrayOf_alike hZ.alike Ar4.2.1) Ar4.2.2 hin4 hat4 (g := (mkF m 52 #[.val (.ref a0), .val (.int p1), .val (.long q2), .second, .val (.ref va), .val (.long ls), .second, .val (.long gr), .second, .val (.int (Int32.ofNat i)), .unset, .unset, .unset, .unset, .unset] [(.int (Int32.ofNat i)), (.ref va), (.long ls)])) rfl rfl (hb hby d9_52) _ ?_
  show Steps p.tables e below (T3.setTop (mkF m 53 #[.val (.ref a0), .val (.int p1), .val (.long q2), .second, .val (.ref va), .val (.long ls), .second, .val (.long gr), .second, .val (.int (Int32.ofNat i)), .unset, .unset, .unset, .unset, .unset] [(.long (own_rd (2 : Int32) bb (ys.getD (Int32.ofNat i).toNatClampNeg 0))), (.long ls)])) _
  refine st5 _ ?_
  show Steps p.tables e below (T5.setTop (mkF m 56 #[.val (.ref a0), .val (.int p1), .val (.long q2), .second, .val (.ref va), .val (.long ls), .second, .val (.long gr), .second, .val (.int (Int32.ofNat i)), .unset, .unset, .unset, .unset, .unset] [(.long (if (own_rd (2 : Int32) bb (ys.getD (Int32.ofNat i).toNatClampNeg 0)) < ls then (own_rd (2 : Int32) bb (ys.getD (Int32.ofNat i).toNatClampNeg 0)) else ls))])) _
  refine XS.lstore X5.here hx rfl (hb hby d9_56) rfl (l' := #[.val (.ref a0), .val (.int p1), .val (.long q2), .second, .val (.ref va), .val (.long (if (own_rd (2 : Int32) bb (ys.getD (Int32.ofNat i).toNatClampNeg 0)) < ls then (own_rd (2 : Int32) bb (ys.getD (Int32.ofNat i).toNatClampNeg 0)) else ls)), .second, .val (.long gr), .second, .val (.int (Int32.ofNat i)), .unset, .unset, .unset, .unset, .unset]) rfl ?_
  show Steps p.tables e below (T5.setTop (mkF m 58 #[.val (.ref a0), .val (.int p1), .val (.long q2), .second, .val (.ref va), .val (.long (if (own_rd (2 : Int32) bb (ys.getD (Int32.ofNat i).toNatClampNeg 0)) < ls then (own_rd (2 : Int32) bb (ys.getD (Int32.ofNat i).toNatClampNeg 0)) else ls)), .second, .val (.long gr), .second, .val (.int (Int32.ofNat i)), .unset, .unset, .unset, .unset, .unset] [])) _
  refine XS.lload X5.here hx rfl (hb hby d9_58) rfl ?_
  refine XS.aload X5.here hx rfl (hb hby d9_60) rfl rfl ?_
  refine XS.iload X5.here hx rfl (hb hby d9_62) rfl ?_
  refine X5.laload hx (j := (Int32.ofNat i)) (v := (.long (own_rd (2 : Int32) bb (ys.getD (Int32.ofNat i).toNatClampNeg 0)))) (by rw [eh5]; exact Ar6.1) (State.isArrayOf_alike hZ.alike Ar6.2.1) Ar6.2.2 hin6 hat6 (g := (mkF m 64 #[.val (.ref a0), .val (.int p1), .val (.long q2), .second, .val (.ref va), .val (.long (if (own_rd (2 : Int32) bb (ys.getD (Int32.ofNat i).toNatClampNeg 0)) < ls then (own_rd (2 : Int32) bb (ys.getD (Int32.ofNat i).toNatClampNeg 0)) else ls)), .second, .val (.long gr), .second, .val (.int (Int32.ofNat i)), .unset, .unset, .unset, .unset, .unset] [(.int (Int32.ofNat i)), (.ref va), (.long gr)])) rfl rfl (hb hby d9_64) _ ?_
  show Steps p.tables e below (T5.setTop (mkF m 65 #[.val (.ref a0), .val (.int p1), .val (.long q2), .second, .val (.ref va), .val (.long (if (own_rd (2 : Int32) bb (ys.getD (Int32.ofNat i).toNatClampNeg 0)) < ls then (own_rd (2 : Int32) bb (ys.getD (Int32.ofNat i).toNatClampNeg 0)) else ls)), .second, .val (.long gr), .second, .val (.int (Int32.ofNat i)), .unset, .unset, .unset, .unset, .unset] [(.long (own_rd (2 : Int32) bb (ys.getD (Int32.ofNat i).toNatClampNeg 0))), (.long gr)])) _
  refine st7 _ ?_
  show Steps p.tables e below (T7.setTop (mkF m 68 #[.val (.ref a0), .val (.int p1), .val (.long q2), .second, .val (.ref va), .val (.long (if (own_rd (2 : Int32) bb (ys.getD (Int32.ofNat i).toNatClampNeg 0)) < ls then (own_rd (2 : Int32) bb (ys.getD (Int32.ofNat i).toNatClampNeg 0)) else ls)), .second, .val (.long gr), .second, .val (.int (Int32.ofNat i)), .unset, .unset, .unset, .unset, .unset] [(.long (if gr < (own_rd (2 : Int32) bb (ys.getD (Int32.ofNat i).toNatClampNeg 0)) then (own_rd (2 : Int32) bb (ys.getD (Int32.ofNat i).toNatClampNeg 0)) else gr))])) _
  refine XS.lstore X7.here hx rfl (hb hby d9_68) rfl (l' := #[.val (.ref a0), .val (.int p1), .val (.long q2), .second, .val (.ref va), .val (.long (if (own_rd (2 : Int32) bb (ys.getD (Int32.ofNat i).toNatClampNeg 0)) < ls then (own_rd (2 : Int32) bb (ys.getD (Int32.ofNat i).toNatClampNeg 0)) else ls)), .second, .val (.long (if gr < (own_rd (2 : Int32) bb (ys.getD (Int32.ofNat i).toNatClampNeg 0)) then (own_rd (2 : Int32) bb (ys.getD (Int32.ofNat i).toNatClampNeg 0)) else gr)), .second, .val (.int (Int32.ofNat i)), .unset, .unset, .unset, .unset, .unset]) rfl ?_
  refine XS.iinc X7.here hx rfl (hb hby d9_70) rfl (l' := #[.val (.ref a0), .val (.int p1), .val (.long q2), .second, .val (.ref va), .val (.long (if (own_rd (2 : Int32) bb (ys.getD (Int32.ofNat i).toNatClampNeg 0)) < ls then (own_rd (2 : Int32) bb (ys.getD (Int32.ofNat i).toNatClampNeg 0)) else ls)), .second, .val (.long (if gr < (own_rd (2 : Int32) bb (ys.getD (Int32.ofNat i).toNatClampNeg 0)) then (own_rd (2 : Int32) bb (ys.getD (Int32.ofNat i).toNatClampNeg 0)) else gr)), .second, .val (.int ((Int32.ofNat i) + (1 : Int32))), .unset, .unset, .unset, .unset, .unset]) rfl ?_
  refine XS.goto X7.here hx rfl (pc0 := 73) (pc' := 17) rfl (hb hby d9_73) (by decide) (by decide) ?_
  show Steps p.tables e below (T7.setTop (mkF m 17 #[.val (.ref a0), .val (.int p1), .val (.long q2), .second, .val (.ref va), .val (.long (if (own_rd (2 : Int32) bb (ys.getD (Int32.ofNat i).toNatClampNeg 0)) < ls then (own_rd (2 : Int32) bb (ys.getD (Int32.ofNat i).toNatClampNeg 0)) else ls)), .second, .val (.long (if gr < (own_rd (2 : Int32) bb (ys.getD (Int32.ofNat i).toNatClampNeg 0)) then (own_rd (2 : Int32) bb (ys.getD (Int32.ofNat i).toNatClampNeg 0)) else gr)), .second, .val (.int ((Int32.ofNat i) + (1 : Int32))), .unset, .unset, .unset, .unset, .unset] [])) _
  exact kt
set_option maxRecDepth 65536 in
set_option maxHeartbeats 40000000 in
theorem tl1 {p : Program} {l : Launch} {e : Env} {s : State} {m : MethodId} {args : Array Value} {below : List Frame} {meth : Method} {c : Code} {T0 : State} {locs : List Loc} {cells slots : Nat} {Z : State} {A0 : Array Value} {h0 : Heap} {n0 : Nat} (a0 : Addr) (p1 : Int32) (q2 : Int64) (va : Addr) (ls gr : Int64) (i : Nat) (nn : Int32) (kv : ClassId) (zs : List Int64) (X0 : Stand p l e ({ frames := 1, cells := 2, slots := 16, locals := 40 } : Room) s m args below meth c T0 locs cells slots) (hx : p.tables.exec = Jvm.exec) (hZ : Z.Warmed39 s.vm) (hw : ∀ d ∈ tables_1, d.before A0 Z = true) (hby : c.code = prog_257_method_15_code) (hml : c.maxLocals = 15) (hown : s.vm.findClass "com/example/wadjet/wadjet/storage/IntegerChunk" = some m.cls) (e0 : T0.heap = h0) (N0 : Fr n0 locs) (Z0 : n0 ≤ h0.size) (V_va : Arv Z h0 va kv .long nn (zs.map Value.long) (.long (0 : Int64))) (hq : ¬ ((Int32.ofNat i) < nn)) :
    ∃ (T' : State), Stand p l e ({ frames := 1, cells := 2, slots := 16, locals := 40 } : Room) s m args below meth c T' locs cells slots ∧ T'.heap = h0 ∧
      ∀ target, Steps p.tables e below (T'.setTop (mkF m 76 #[.val (.ref a0), .val (.int p1), .val (.long q2), .second, .val (.ref va), .val (.long ls), .second, .val (.long gr), .second, .val (.int (Int32.ofNat i)), .unset, .unset, .unset, .unset, .unset] [])) target → Steps p.tables e below (T0.setTop (mkF m 17 #[.val (.ref a0), .val (.int p1), .val (.long q2), .second, .val (.ref va), .val (.long ls), .second, .val (.long gr), .second, .val (.int (Int32.ofNat i)), .unset, .unset, .unset, .unset, .unset] [])) target := by
  have K0 : Keep h0 h0 [] := Keep.refl _ _
  obtain ⟨cl1, Ar1, -, SS1, MM1, -, -⟩ := id V_va
  refine ⟨T0, X0, e0, fun target kt => ?_⟩
  show Steps p.tables e below (T0.setTop (mkF m 17 #[.val (.ref a0), .val (.int p1), .val (.long q2), .second, .val (.ref va), .val (.long ls), .second, .val (.long gr), .second, .val (.int (Int32.ofNat i)), .unset, .unset, .unset, .unset, .unset] [])) _
  refine XS.iload X0.here hx rfl (hb hby d9_17) rfl ?_
  refine XS.aload X0.here hx rfl (hb hby d9_19) rfl rfl ?_
  refine X0.arraylength hx (by rw [e0]; exact Ar1.1) (State.isArrayOf_alike hZ.alike Ar1.2.1) (g := (mkF m 21 #[.val (.ref a0), .val (.int p1), .val (.long q2), .second, .val (.ref va), .val (.long ls), .second, .val (.long gr), .second, .val (.int (Int32.ofNat i)), .unset, .unset, .unset, .unset, .unset] [(.ref va), (.int (Int32.ofNat i))])) rfl rfl (hb hby d9_21) _ ?_
  rw [len_of SS1 MM1]
  show Steps p.tables e below (T0.setTop (mkF m 22 #[.val (.ref a0), .val (.int p1), .val (.long q2), .second, .val (.ref va), .val (.long ls), .second, .val (.long gr), .second, .val (.int (Int32.ofNat i)), .unset, .unset, .unset, .unset, .unset] [(.int nn), (.int (Int32.ofNat i))])) _
  refine XS.icmpYes X0.here hx rfl (pc0 := 22) (pc' := 76) rfl (hb hby d9_22) rfl (flt (hq : ¬ ((Int32.ofNat i) < nn))).2.1 (by decide) (by decide) ?_
  show Steps p.tables e below (T0.setTop (mkF m 76 #[.val (.ref a0), .val (.int p1), .val (.long q2), .second, .val (.ref va), .val (.long ls), .second, .val (.long gr), .second, .val (.int (Int32.ofNat i)), .unset, .unset, .unset, .unset, .unset] [])) _
  exact kt
set_option maxHeartbeats 4000000 in
theorem lp1 {p : Program} {l : Launch} {e : Env} {s : State} {m : MethodId} {args : Array Value} {below : List Frame} {meth : Method} {c : Code} {Z : State} {A0 : Array Value} {n0 : Nat} (a0 : Addr) (p1 : Int32) (q2 : Int64) (va : Addr) (u_based : Value) (u_middle : Value) (u_wide : Value) (u_nulls : Value) (bb : Int64) (nr : Addr) (kn : ClassId) (nn : Int32) (ys : List Int32) (kv : ClassId) (hx : p.tables.exec = Jvm.exec) (hZ : Z.Warmed39 s.vm) (hw : ∀ d ∈ tables_1, d.before A0 Z = true) (hby : c.code = prog_257_method_15_code) (hml : c.maxLocals = 15) (hown : s.vm.findClass "com/example/wadjet/wadjet/storage/IntegerChunk" = some m.cls) (g_va : n0 ≤ va) (ne_a0_va : a0 ≠ va) (ne_nr_va : nr ≠ va) (hn : nn.toInt ≤ 8) : ∀ (t i : Nat) (ls gr : Int64) (zs : List Int64) {T0 : State} {locs : List Loc} {cells slots : Nat} {h0 : Heap} (X0 : Stand p l e ({ frames := 1, cells := 2, slots := 16, locals := 40 } : Room) s m args below meth c T0 locs cells slots) (e0 : T0.heap = h0) (N0 : Fr n0 locs) (Z0 : n0 ≤ h0.size) (E_a0 : Exa Z h0 a0 "com/example/wadjet/wadjet/storage/IntegerChunk") (F_width_a0 : Fld Z h0 a0 "com/example/wadjet/wadjet/storage/IntegerChunk" "width" "I" (.int (1 : Int32))) (F_base_a0 : Fld Z h0 a0 "com/example/wadjet/wadjet/storage/IntegerChunk" "base" "J" (.long bb)) (F_based_a0 : Fld Z h0 a0 "com/example/wadjet/wadjet/storage/IntegerChunk" "based" "Z" u_based) (F_narrow_a0 : Fld Z h0 a0 "com/example/wadjet/wadjet/storage/IntegerChunk" "narrow" "[B" (.ref nr)) (F_middle_a0 : Fld Z h0 a0 "com/example/wadjet/wadjet/storage/IntegerChunk" "middle" "[C" u_middle) (F_wide_a0 : Fld Z h0 a0 "com/example/wadjet/wadjet/storage/IntegerChunk" "wide" "[I" u_wide) (F_nulls_a0 : Fld Z h0 a0 "com/example/wadjet/wadjet/storage/IntegerChunk" "nulls" "[J" u_nulls) (V_nr : Arv Z h0 nr kn .byte nn (ys.map Value.int) (.int (0 : Int32))) (V_va : Arv Z h0 va kv .long nn (zs.map Value.long) (.long (0 : Int64))) (hit : (i : Int) + (t : Int) = nn.toInt) (hz : zs.length = nn.toNatClampNeg) (hcl : cells ≤ 2) (hsl : slots ≤ 16),
    ∃ (T' : State) (h' : Heap) (locs' : List Loc), Stand p l e ({ frames := 1, cells := 2, slots := 16, locals := 40 } : Room) s m args below meth c T' locs' cells slots ∧ T'.heap = h' ∧ Fr n0 locs' ∧ Keep h0 h' [va] ∧ Exa Z h' a0 "com/example/wadjet/wadjet/storage/IntegerChunk" ∧ Fld Z h' a0 "com/example/wadjet/wadjet/storage/IntegerChunk" "width" "I" (.int (1 : Int32)) ∧ Fld Z h' a0 "com/example/wadjet/wadjet/storage/IntegerChunk" "base" "J" (.long bb) ∧ Fld Z h' a0 "com/example/wadjet/wadjet/storage/IntegerChunk" "based" "Z" u_based ∧ Fld Z h' a0 "com/example/wadjet/wadjet/storage/IntegerChunk" "narrow" "[B" (.ref nr) ∧ Fld Z h' a0 "com/example/wadjet/wadjet/storage/IntegerChunk" "middle" "[C" u_middle ∧ Fld Z h' a0 "com/example/wadjet/wadjet/storage/IntegerChunk" "wide" "[I" u_wide ∧ Fld Z h' a0 "com/example/wadjet/wadjet/storage/IntegerChunk" "nulls" "[J" u_nulls ∧ Arv Z h' nr kn .byte nn (ys.map Value.int) (.int (0 : Int32)) ∧ Arv Z h' va kv .long nn ((own_rz (own_X (1 : Int32) bb ys p1 q2) t i zs).map Value.long) (.long (0 : Int64)) ∧
      ∀ target, Steps p.tables e below (T'.setTop (mkF m 76 #[.val (.ref a0), .val (.int p1), .val (.long q2), .second, .val (.ref va), .val (.long (own_rl (own_X (1 : Int32) bb ys p1 q2) t i ls)), .second, .val (.long (own_rg (own_X (1 : Int32) bb ys p1 q2) t i gr)), .second, .val (.int (Int32.ofNat (i + t))), .unset, .unset, .unset, .unset, .unset] [])) target → Steps p.tables e below (T0.setTop (mkF m 17 #[.val (.ref a0), .val (.int p1), .val (.long q2), .second, .val (.ref va), .val (.long ls), .second, .val (.long gr), .second, .val (.int (Int32.ofNat i)), .unset, .unset, .unset, .unset, .unset] [])) target := by
  intro t
  induction t with
  | zero =>
    intro i ls gr zs T0 locs cells slots h0 X0 e0 N0 Z0 E_a0 F_width_a0 F_base_a0 F_based_a0 F_narrow_a0 F_middle_a0 F_wide_a0 F_nulls_a0 V_nr V_va hit hz hcl hsl
    obtain ⟨T1, X1, e1, st1⟩ := tl1 a0 p1 q2 va ls gr i nn kv zs X0 hx hZ hw hby hml hown e0 N0 Z0 V_va (own_endN hn hit)
    exact ⟨T1, h0, locs, X1, e1, N0, Keep.refl _ _, E_a0, F_width_a0, F_base_a0, F_based_a0, F_narrow_a0, F_middle_a0, F_wide_a0, F_nulls_a0, V_nr, V_va, st1⟩
  | succ t ih =>
    intro i ls gr zs T0 locs cells slots h0 X0 e0 N0 Z0 E_a0 F_width_a0 F_base_a0 F_based_a0 F_narrow_a0 F_middle_a0 F_wide_a0 F_nulls_a0 V_nr V_va hit hz hcl hsl
    have heq : (Int32.ofNat i) + (1 : Int32) = Int32.ofNat (i + 1) := (Int32.ofNat_add i 1).symm
    have hq2 : i + 1 + t = i + (t + 1) := by omega
    by_cases hq : (Int32.ofNat i) = p1
    · have hX : (own_X (1 : Int32) bb ys p1 q2) i = q2 := if_pos hq
      simp only [own_rl, own_rg, own_rz, hX]
      obtain ⟨T1, h1, L1, X1, e1, N1, K1, E_a0, F_width_a0, F_base_a0, F_based_a0, F_narrow_a0, F_middle_a0, F_wide_a0, F_nulls_a0, V_nr, V_va, st1⟩ := tw1e a0 p1 q2 va ls gr i u_based u_middle u_wide u_nulls bb nr kn nn ys kv zs X0 hx hZ hw hby hml hown e0 N0 Z0 E_a0 F_width_a0 F_base_a0 F_based_a0 F_narrow_a0 F_middle_a0 F_wide_a0 F_nulls_a0 V_nr V_va g_va ne_a0_va ne_nr_va hn (by omega) hz hq hcl hsl
      rw [heq] at st1
      obtain ⟨T2, h2, L2, X2, e2, N2, K2, E_a0, F_width_a0, F_base_a0, F_based_a0, F_narrow_a0, F_middle_a0, F_wide_a0, F_nulls_a0, V_nr, V_va, st2⟩ := ih (i + 1) (own_mn ls q2) (own_mx gr q2) (zs.set i q2) X1 e1 N1 (Nat.le_trans Z0 K1.1) E_a0 F_width_a0 F_base_a0 F_based_a0 F_narrow_a0 F_middle_a0 F_wide_a0 F_nulls_a0 V_nr V_va (by omega) (by rw [List.length_set]; exact hz) hcl hsl
      rw [hq2] at st2
      exact ⟨T2, h2, L2, X2, e2, N2, K1.trans K2 (allS (Or.inl (by simp)) all0), E_a0, F_width_a0, F_base_a0, F_based_a0, F_narrow_a0, F_middle_a0, F_wide_a0, F_nulls_a0, V_nr, V_va, fun tt kt => st1 tt (st2 tt kt)⟩
    · have hX : (own_X (1 : Int32) bb ys p1 q2) i = own_rd (1 : Int32) bb (ys.getD i 0) := if_neg hq
      simp only [own_rl, own_rg, own_rz, hX]
      obtain ⟨T1, h1, L1, X1, e1, N1, K1, E_a0, F_width_a0, F_base_a0, F_based_a0, F_narrow_a0, F_middle_a0, F_wide_a0, F_nulls_a0, V_nr, V_va, st1⟩ := tw1n a0 p1 q2 va ls gr i u_based u_middle u_wide u_nulls bb nr kn nn ys kv zs X0 hx hZ hw hby hml hown e0 N0 Z0 E_a0 F_width_a0 F_base_a0 F_based_a0 F_narrow_a0 F_middle_a0 F_wide_a0 F_nulls_a0 V_nr V_va g_va ne_a0_va ne_nr_va hn (by omega) hz hq hcl hsl
      rw [heq] at st1
      rw [own_idx (by omega)] at st1 V_va
      obtain ⟨T2, h2, L2, X2, e2, N2, K2, E_a0, F_width_a0, F_base_a0, F_based_a0, F_narrow_a0, F_middle_a0, F_wide_a0, F_nulls_a0, V_nr, V_va, st2⟩ := ih (i + 1) (own_mn ls (own_rd (1 : Int32) bb (ys.getD i 0))) (own_mx gr (own_rd (1 : Int32) bb (ys.getD i 0))) (zs.set i (own_rd (1 : Int32) bb (ys.getD i 0))) X1 e1 N1 (Nat.le_trans Z0 K1.1) E_a0 F_width_a0 F_base_a0 F_based_a0 F_narrow_a0 F_middle_a0 F_wide_a0 F_nulls_a0 V_nr V_va (by omega) (by rw [List.length_set]; exact hz) hcl hsl
      rw [hq2] at st2
      exact ⟨T2, h2, L2, X2, e2, N2, K1.trans K2 (allS (Or.inl (by simp)) all0), E_a0, F_width_a0, F_base_a0, F_based_a0, F_narrow_a0, F_middle_a0, F_wide_a0, F_nulls_a0, V_nr, V_va, fun tt kt => st1 tt (st2 tt kt)⟩
set_option maxRecDepth 65536 in
set_option maxHeartbeats 40000000 in
theorem tl2 {p : Program} {l : Launch} {e : Env} {s : State} {m : MethodId} {args : Array Value} {below : List Frame} {meth : Method} {c : Code} {T0 : State} {locs : List Loc} {cells slots : Nat} {Z : State} {A0 : Array Value} {h0 : Heap} {n0 : Nat} (a0 : Addr) (p1 : Int32) (q2 : Int64) (va : Addr) (ls gr : Int64) (i : Nat) (nn : Int32) (kv : ClassId) (zs : List Int64) (X0 : Stand p l e ({ frames := 1, cells := 2, slots := 16, locals := 40 } : Room) s m args below meth c T0 locs cells slots) (hx : p.tables.exec = Jvm.exec) (hZ : Z.Warmed39 s.vm) (hw : ∀ d ∈ tables_1, d.before A0 Z = true) (hby : c.code = prog_257_method_15_code) (hml : c.maxLocals = 15) (hown : s.vm.findClass "com/example/wadjet/wadjet/storage/IntegerChunk" = some m.cls) (e0 : T0.heap = h0) (N0 : Fr n0 locs) (Z0 : n0 ≤ h0.size) (V_va : Arv Z h0 va kv .long nn (zs.map Value.long) (.long (0 : Int64))) (hq : ¬ ((Int32.ofNat i) < nn)) :
    ∃ (T' : State), Stand p l e ({ frames := 1, cells := 2, slots := 16, locals := 40 } : Room) s m args below meth c T' locs cells slots ∧ T'.heap = h0 ∧
      ∀ target, Steps p.tables e below (T'.setTop (mkF m 76 #[.val (.ref a0), .val (.int p1), .val (.long q2), .second, .val (.ref va), .val (.long ls), .second, .val (.long gr), .second, .val (.int (Int32.ofNat i)), .unset, .unset, .unset, .unset, .unset] [])) target → Steps p.tables e below (T0.setTop (mkF m 17 #[.val (.ref a0), .val (.int p1), .val (.long q2), .second, .val (.ref va), .val (.long ls), .second, .val (.long gr), .second, .val (.int (Int32.ofNat i)), .unset, .unset, .unset, .unset, .unset] [])) target := by
  have K0 : Keep h0 h0 [] := Keep.refl _ _
  obtain ⟨cl1, Ar1, -, SS1, MM1, -, -⟩ := id V_va
  refine ⟨T0, X0, e0, fun target kt => ?_⟩
  show Steps p.tables e below (T0.setTop (mkF m 17 #[.val (.ref a0), .val (.int p1), .val (.long q2), .second, .val (.ref va), .val (.long ls), .second, .val (.long gr), .second, .val (.int (Int32.ofNat i)), .unset, .unset, .unset, .unset, .unset] [])) _
  refine XS.iload X0.here hx rfl (hb hby d9_17) rfl ?_
  refine XS.aload X0.here hx rfl (hb hby d9_19) rfl rfl ?_
  refine X0.arraylength hx (by rw [e0]; exact Ar1.1) (State.isArrayOf_alike hZ.alike Ar1.2.1) (g := (mkF m 21 #[.val (.ref a0), .val (.int p1), .val (.long q2), .second, .val (.ref va), .val (.long ls), .second, .val (.long gr), .second, .val (.int (Int32.ofNat i)), .unset, .unset, .unset, .unset, .unset] [(.ref va), (.int (Int32.ofNat i))])) rfl rfl (hb hby d9_21) _ ?_
  rw [len_of SS1 MM1]
  show Steps p.tables e below (T0.setTop (mkF m 22 #[.val (.ref a0), .val (.int p1), .val (.long q2), .second, .val (.ref va), .val (.long ls), .second, .val (.long gr), .second, .val (.int (Int32.ofNat i)), .unset, .unset, .unset, .unset, .unset] [(.int nn), (.int (Int32.ofNat i))])) _
  refine XS.icmpYes X0.here hx rfl (pc0 := 22) (pc' := 76) rfl (hb hby d9_22) rfl (flt (hq : ¬ ((Int32.ofNat i) < nn))).2.1 (by decide) (by decide) ?_
  show Steps p.tables e below (T0.setTop (mkF m 76 #[.val (.ref a0), .val (.int p1), .val (.long q2), .second, .val (.ref va), .val (.long ls), .second, .val (.long gr), .second, .val (.int (Int32.ofNat i)), .unset, .unset, .unset, .unset, .unset] [])) _
  exact kt
set_option maxHeartbeats 4000000 in
theorem lp2 {p : Program} {l : Launch} {e : Env} {s : State} {m : MethodId} {args : Array Value} {below : List Frame} {meth : Method} {c : Code} {Z : State} {A0 : Array Value} {n0 : Nat} (a0 : Addr) (p1 : Int32) (q2 : Int64) (va : Addr) (u_based : Value) (u_narrow : Value) (u_wide : Value) (u_nulls : Value) (bb : Int64) (nr : Addr) (kn : ClassId) (nn : Int32) (ys : List Int32) (kv : ClassId) (hx : p.tables.exec = Jvm.exec) (hZ : Z.Warmed39 s.vm) (hw : ∀ d ∈ tables_1, d.before A0 Z = true) (hby : c.code = prog_257_method_15_code) (hml : c.maxLocals = 15) (hown : s.vm.findClass "com/example/wadjet/wadjet/storage/IntegerChunk" = some m.cls) (g_va : n0 ≤ va) (ne_a0_va : a0 ≠ va) (ne_nr_va : nr ≠ va) (hn : nn.toInt ≤ 8) : ∀ (t i : Nat) (ls gr : Int64) (zs : List Int64) {T0 : State} {locs : List Loc} {cells slots : Nat} {h0 : Heap} (X0 : Stand p l e ({ frames := 1, cells := 2, slots := 16, locals := 40 } : Room) s m args below meth c T0 locs cells slots) (e0 : T0.heap = h0) (N0 : Fr n0 locs) (Z0 : n0 ≤ h0.size) (E_a0 : Exa Z h0 a0 "com/example/wadjet/wadjet/storage/IntegerChunk") (F_width_a0 : Fld Z h0 a0 "com/example/wadjet/wadjet/storage/IntegerChunk" "width" "I" (.int (2 : Int32))) (F_base_a0 : Fld Z h0 a0 "com/example/wadjet/wadjet/storage/IntegerChunk" "base" "J" (.long bb)) (F_based_a0 : Fld Z h0 a0 "com/example/wadjet/wadjet/storage/IntegerChunk" "based" "Z" u_based) (F_narrow_a0 : Fld Z h0 a0 "com/example/wadjet/wadjet/storage/IntegerChunk" "narrow" "[B" u_narrow) (F_middle_a0 : Fld Z h0 a0 "com/example/wadjet/wadjet/storage/IntegerChunk" "middle" "[C" (.ref nr)) (F_wide_a0 : Fld Z h0 a0 "com/example/wadjet/wadjet/storage/IntegerChunk" "wide" "[I" u_wide) (F_nulls_a0 : Fld Z h0 a0 "com/example/wadjet/wadjet/storage/IntegerChunk" "nulls" "[J" u_nulls) (V_nr : Arv Z h0 nr kn .char nn (ys.map Value.int) (.int (0 : Int32))) (V_va : Arv Z h0 va kv .long nn (zs.map Value.long) (.long (0 : Int64))) (hit : (i : Int) + (t : Int) = nn.toInt) (hz : zs.length = nn.toNatClampNeg) (hcl : cells ≤ 2) (hsl : slots ≤ 16),
    ∃ (T' : State) (h' : Heap) (locs' : List Loc), Stand p l e ({ frames := 1, cells := 2, slots := 16, locals := 40 } : Room) s m args below meth c T' locs' cells slots ∧ T'.heap = h' ∧ Fr n0 locs' ∧ Keep h0 h' [va] ∧ Exa Z h' a0 "com/example/wadjet/wadjet/storage/IntegerChunk" ∧ Fld Z h' a0 "com/example/wadjet/wadjet/storage/IntegerChunk" "width" "I" (.int (2 : Int32)) ∧ Fld Z h' a0 "com/example/wadjet/wadjet/storage/IntegerChunk" "base" "J" (.long bb) ∧ Fld Z h' a0 "com/example/wadjet/wadjet/storage/IntegerChunk" "based" "Z" u_based ∧ Fld Z h' a0 "com/example/wadjet/wadjet/storage/IntegerChunk" "narrow" "[B" u_narrow ∧ Fld Z h' a0 "com/example/wadjet/wadjet/storage/IntegerChunk" "middle" "[C" (.ref nr) ∧ Fld Z h' a0 "com/example/wadjet/wadjet/storage/IntegerChunk" "wide" "[I" u_wide ∧ Fld Z h' a0 "com/example/wadjet/wadjet/storage/IntegerChunk" "nulls" "[J" u_nulls ∧ Arv Z h' nr kn .char nn (ys.map Value.int) (.int (0 : Int32)) ∧ Arv Z h' va kv .long nn ((own_rz (own_X (2 : Int32) bb ys p1 q2) t i zs).map Value.long) (.long (0 : Int64)) ∧
      ∀ target, Steps p.tables e below (T'.setTop (mkF m 76 #[.val (.ref a0), .val (.int p1), .val (.long q2), .second, .val (.ref va), .val (.long (own_rl (own_X (2 : Int32) bb ys p1 q2) t i ls)), .second, .val (.long (own_rg (own_X (2 : Int32) bb ys p1 q2) t i gr)), .second, .val (.int (Int32.ofNat (i + t))), .unset, .unset, .unset, .unset, .unset] [])) target → Steps p.tables e below (T0.setTop (mkF m 17 #[.val (.ref a0), .val (.int p1), .val (.long q2), .second, .val (.ref va), .val (.long ls), .second, .val (.long gr), .second, .val (.int (Int32.ofNat i)), .unset, .unset, .unset, .unset, .unset] [])) target := by
  intro t
  induction t with
  | zero =>
    intro i ls gr zs T0 locs cells slots h0 X0 e0 N0 Z0 E_a0 F_width_a0 F_base_a0 F_based_a0 F_narrow_a0 F_middle_a0 F_wide_a0 F_nulls_a0 V_nr V_va hit hz hcl hsl
    obtain ⟨T1, X1, e1, st1⟩ := tl2 a0 p1 q2 va ls gr i nn kv zs X0 hx hZ hw hby hml hown e0 N0 Z0 V_va (own_endN hn hit)
    exact ⟨T1, h0, locs, X1, e1, N0, Keep.refl _ _, E_a0, F_width_a0, F_base_a0, F_based_a0, F_narrow_a0, F_middle_a0, F_wide_a0, F_nulls_a0, V_nr, V_va, st1⟩
  | succ t ih =>
    intro i ls gr zs T0 locs cells slots h0 X0 e0 N0 Z0 E_a0 F_width_a0 F_base_a0 F_based_a0 F_narrow_a0 F_middle_a0 F_wide_a0 F_nulls_a0 V_nr V_va hit hz hcl hsl
    have heq : (Int32.ofNat i) + (1 : Int32) = Int32.ofNat (i + 1) := (Int32.ofNat_add i 1).symm
    have hq2 : i + 1 + t = i + (t + 1) := by omega
    by_cases hq : (Int32.ofNat i) = p1
    · have hX : (own_X (2 : Int32) bb ys p1 q2) i = q2 := if_pos hq
      simp only [own_rl, own_rg, own_rz, hX]
      obtain ⟨T1, h1, L1, X1, e1, N1, K1, E_a0, F_width_a0, F_base_a0, F_based_a0, F_narrow_a0, F_middle_a0, F_wide_a0, F_nulls_a0, V_nr, V_va, st1⟩ := tw2e a0 p1 q2 va ls gr i u_based u_narrow u_wide u_nulls bb nr kn nn ys kv zs X0 hx hZ hw hby hml hown e0 N0 Z0 E_a0 F_width_a0 F_base_a0 F_based_a0 F_narrow_a0 F_middle_a0 F_wide_a0 F_nulls_a0 V_nr V_va g_va ne_a0_va ne_nr_va hn (by omega) hz hq hcl hsl
      rw [heq] at st1
      obtain ⟨T2, h2, L2, X2, e2, N2, K2, E_a0, F_width_a0, F_base_a0, F_based_a0, F_narrow_a0, F_middle_a0, F_wide_a0, F_nulls_a0, V_nr, V_va, st2⟩ := ih (i + 1) (own_mn ls q2) (own_mx gr q2) (zs.set i q2) X1 e1 N1 (Nat.le_trans Z0 K1.1) E_a0 F_width_a0 F_base_a0 F_based_a0 F_narrow_a0 F_middle_a0 F_wide_a0 F_nulls_a0 V_nr V_va (by omega) (by rw [List.length_set]; exact hz) hcl hsl
      rw [hq2] at st2
      exact ⟨T2, h2, L2, X2, e2, N2, K1.trans K2 (allS (Or.inl (by simp)) all0), E_a0, F_width_a0, F_base_a0, F_based_a0, F_narrow_a0, F_middle_a0, F_wide_a0, F_nulls_a0, V_nr, V_va, fun tt kt => st1 tt (st2 tt kt)⟩
    · have hX : (own_X (2 : Int32) bb ys p1 q2) i = own_rd (2 : Int32) bb (ys.getD i 0) := if_neg hq
      simp only [own_rl, own_rg, own_rz, hX]
      obtain ⟨T1, h1, L1, X1, e1, N1, K1, E_a0, F_width_a0, F_base_a0, F_based_a0, F_narrow_a0, F_middle_a0, F_wide_a0, F_nulls_a0, V_nr, V_va, st1⟩ := tw2n a0 p1 q2 va ls gr i u_based u_narrow u_wide u_nulls bb nr kn nn ys kv zs X0 hx hZ hw hby hml hown e0 N0 Z0 E_a0 F_width_a0 F_base_a0 F_based_a0 F_narrow_a0 F_middle_a0 F_wide_a0 F_nulls_a0 V_nr V_va g_va ne_a0_va ne_nr_va hn (by omega) hz hq hcl hsl
      rw [heq] at st1
      rw [own_idx (by omega)] at st1 V_va
      obtain ⟨T2, h2, L2, X2, e2, N2, K2, E_a0, F_width_a0, F_base_a0, F_based_a0, F_narrow_a0, F_middle_a0, F_wide_a0, F_nulls_a0, V_nr, V_va, st2⟩ := ih (i + 1) (own_mn ls (own_rd (2 : Int32) bb (ys.getD i 0))) (own_mx gr (own_rd (2 : Int32) bb (ys.getD i 0))) (zs.set i (own_rd (2 : Int32) bb (ys.getD i 0))) X1 e1 N1 (Nat.le_trans Z0 K1.1) E_a0 F_width_a0 F_base_a0 F_based_a0 F_narrow_a0 F_middle_a0 F_wide_a0 F_nulls_a0 V_nr V_va (by omega) (by rw [List.length_set]; exact hz) hcl hsl
      rw [hq2] at st2
      exact ⟨T2, h2, L2, X2, e2, N2, K1.trans K2 (allS (Or.inl (by simp)) all0), E_a0, F_width_a0, F_base_a0, F_based_a0, F_narrow_a0, F_middle_a0, F_wide_a0, F_nulls_a0, V_nr, V_va, fun tt kt => st1 tt (st2 tt kt)⟩
theorem d9_240 : decode prog_257_method_15_code 240 = .ok (.iload 14, 2) := by decide +kernel
theorem d9_242 : decode prog_257_method_15_code 242 = .ok (.aload 4, 2) := by decide +kernel
theorem d9_244 : decode prog_257_method_15_code 244 = .ok (.arraylength, 1) := by decide +kernel
theorem d9_245 : decode prog_257_method_15_code 245 = .ok (.if_icmp .ge 82, 3) := by decide +kernel
theorem d9_248 : decode prog_257_method_15_code 248 = .ok (.aload_n 0, 1) := by decide +kernel
theorem d9_249 : decode prog_257_method_15_code 249 = .ok (.getfield 7, 3) := by decide +kernel
theorem d9_252 : decode prog_257_method_15_code 252 = .ok (.iconst 1, 1) := by decide +kernel
theorem d9_253 : decode prog_257_method_15_code 253 = .ok (.if_icmp .ne 25, 3) := by decide +kernel
theorem d9_256 : decode prog_257_method_15_code 256 = .ok (.aload_n 0, 1) := by decide +kernel
theorem d9_257 : decode prog_257_method_15_code 257 = .ok (.getfield 13, 3) := by decide +kernel
theorem d9_260 : decode prog_257_method_15_code 260 = .ok (.iload 14, 2) := by decide +kernel
theorem d9_262 : decode prog_257_method_15_code 262 = .ok (.aload 4, 2) := by decide +kernel
theorem d9_264 : decode prog_257_method_15_code 264 = .ok (.iload 14, 2) := by decide +kernel
theorem d9_266 : decode prog_257_method_15_code 266 = .ok (.laload, 1) := by decide +kernel
theorem d9_267 : decode prog_257_method_15_code 267 = .ok (.aload_n 0, 1) := by decide +kernel
theorem d9_268 : decode prog_257_method_15_code 268 = .ok (.getfield 35, 3) := by decide +kernel
theorem d9_271 : decode prog_257_method_15_code 271 = .ok (.lsub, 1) := by decide +kernel
theorem d9_272 : decode prog_257_method_15_code 272 = .ok (.l2i, 1) := by decide +kernel
theorem d9_273 : decode prog_257_method_15_code 273 = .ok (.i2b, 1) := by decide +kernel
theorem d9_274 : decode prog_257_method_15_code 274 = .ok (.bastore, 1) := by decide +kernel
theorem d9_275 : decode prog_257_method_15_code 275 = .ok (.goto 46, 3) := by decide +kernel
theorem d9_321 : decode prog_257_method_15_code 321 = .ok (.iinc 14 1, 3) := by decide +kernel
theorem d9_324 : decode prog_257_method_15_code 324 = .ok (.goto (-84), 3) := by decide +kernel
set_option maxRecDepth 65536 in
set_option maxHeartbeats 40000000 in
theorem tv1 {p : Program} {l : Launch} {e : Env} {s : State} {m : MethodId} {args : Array Value} {below : List Frame} {meth : Method} {c : Code} {T0 : State} {locs : List Loc} {cells slots : Nat} {Z : State} {A0 : Array Value} {h0 : Heap} {n0 : Nat} (a0 : Addr) (p1 : Int32) (q2 : Int64) (va : Addr) (ls gr rg mo : Int64) (fa : Int32) (i : Nat) (u_based : Value) (u_middle : Value) (u_wide : Value) (u_nulls : Value) (bb : Int64) (nr : Addr) (kn : ClassId) (nn : Int32) (ys : List Int32) (kv : ClassId) (zs : List Int64) (X0 : Stand p l e ({ frames := 1, cells := 2, slots := 16, locals := 40 } : Room) s m args below meth c T0 locs cells slots) (hx : p.tables.exec = Jvm.exec) (hZ : Z.Warmed39 s.vm) (hw : ∀ d ∈ tables_1, d.before A0 Z = true) (hby : c.code = prog_257_method_15_code) (hml : c.maxLocals = 15) (hown : s.vm.findClass "com/example/wadjet/wadjet/storage/IntegerChunk" = some m.cls) (e0 : T0.heap = h0) (N0 : Fr n0 locs) (Z0 : n0 ≤ h0.size) (E_a0 : Exa Z h0 a0 "com/example/wadjet/wadjet/storage/IntegerChunk") (F_width_a0 : Fld Z h0 a0 "com/example/wadjet/wadjet/storage/IntegerChunk" "width" "I" (.int (1 : Int32))) (F_base_a0 : Fld Z h0 a0 "com/example/wadjet/wadjet/storage/IntegerChunk" "base" "J" (.long bb)) (F_based_a0 : Fld Z h0 a0 "com/example/wadjet/wadjet/storage/IntegerChunk" "based" "Z" u_based) (F_narrow_a0 : Fld Z h0 a0 "com/example/wadjet/wadjet/storage/IntegerChunk" "narrow" "[B" (.ref nr)) (F_middle_a0 : Fld Z h0 a0 "com/example/wadjet/wadjet/storage/IntegerChunk" "middle" "[C" u_middle) (F_wide_a0 : Fld Z h0 a0 "com/example/wadjet/wadjet/storage/IntegerChunk" "wide" "[I" u_wide) (F_nulls_a0 : Fld Z h0 a0 "com/example/wadjet/wadjet/storage/IntegerChunk" "nulls" "[J" u_nulls) (V_nr : Arv Z h0 nr kn .byte nn (ys.map Value.int) (.int (0 : Int32))) (V_va : Arv Z h0 va kv .long nn (zs.map Value.long) (.long (0 : Int64))) (g_nr : n0 ≤ nr) (ne_a0_nr : a0 ≠ nr) (ne_va_nr : va ≠ nr) (hn : nn.toInt ≤ 8) (hi : (i : Int) < nn.toInt) (hy : ys.length = nn.toNatClampNeg) :
    ∃ (T' : State) (h' : Heap) (locs' : List Loc), Stand p l e ({ frames := 1, cells := 2, slots := 16, locals := 40 } : Room) s m args below meth c T' locs' cells slots ∧ T'.heap = h' ∧ Fr n0 locs' ∧ Keep h0 h' [nr] ∧ Exa Z h' a0 "com/example/wadjet/wadjet/storage/IntegerChunk" ∧ Fld Z h' a0 "com/example/wadjet/wadjet/storage/IntegerChunk" "width" "I" (.int (1 : Int32)) ∧ Fld Z h' a0 "com/example/wadjet/wadjet/storage/IntegerChunk" "base" "J" (.long bb) ∧ Fld Z h' a0 "com/example/wadjet/wadjet/storage/IntegerChunk" "based" "Z" u_based ∧ Fld Z h' a0 "com/example/wadjet/wadjet/storage/IntegerChunk" "narrow" "[B" (.ref nr) ∧ Fld Z h' a0 "com/example/wadjet/wadjet/storage/IntegerChunk" "middle" "[C" u_middle ∧ Fld Z h' a0 "com/example/wadjet/wadjet/storage/IntegerChunk" "wide" "[I" u_wide ∧ Fld Z h' a0 "com/example/wadjet/wadjet/storage/IntegerChunk" "nulls" "[J" u_nulls ∧ Arv Z h' nr kn .byte nn ((ys.set i (own_en1 bb (zs.getD i 0))).map Value.int) (.int (0 : Int32)) ∧ Arv Z h' va kv .long nn (zs.map Value.long) (.long (0 : Int64)) ∧ 
      ∀ target, Steps p.tables e below (T'.setTop (mkF m 240 #[.val (.ref a0), .val (.int p1), .val (.long q2), .second, .val (.ref va), .val (.long ls), .second, .val (.long gr), .second, .val (.long rg), .second, .val (.int fa), .val (.long mo), .second, .val (.int ((Int32.ofNat i) + (1 : Int32)))] [])) target → Steps p.tables e below (T0.setTop (mkF m 240 #[.val (.ref a0), .val (.int p1), .val (.long q2), .second, .val (.ref va), .val (.long ls), .second, .val (.long gr), .second, .val (.long rg), .second, .val (.int fa), .val (.long mo), .second, .val (.int (Int32.ofNat i))] [])) target := by
  have K0 : Keep h0 h0 [nr] := Keep.refl _ _
  obtain ⟨cl1, Ar1, -, SS1, MM1, -, -⟩ := id V_va
  obtain ⟨T2, X2, e2, st2⟩ := getF X0 hx hZ hown (host := "") (Or.inl (hw _ (List.mem_of_getElem? (i := 14) rfl))) Via.refl e0 F_width_a0 (g := (mkF m 249 #[.val (.ref a0), .val (.int p1), .val (.long q2), .second, .val (.ref va), .val (.long ls), .second, .val (.long gr), .second, .val (.long rg), .second, .val (.int fa), .val (.long mo), .second, .val (.int (Int32.ofNat i))] [(.ref a0)])) rfl rfl (hb hby d9_249)
  obtain ⟨T3, X3, e3, st3⟩ := getF X2 hx hZ hown (host := "") (Or.inl (hw _ (List.mem_of_getElem? (i := 17) rfl))) Via.refl e2 F_narrow_a0 (g := (mkF m 257 #[.val (.ref a0), .val (.int p1), .val (.long q2), .second, .val (.ref va), .val (.long ls), .second, .val (.long gr), .second, .val (.long rg), .second, .val (.int fa), .val (.long mo), .second, .val (.int (Int32.ofNat i))] [(.ref a0)])) rfl rfl (hb hby d9_257)
  obtain ⟨cl4, Ar4, -, SS4, MM4, HH4, -⟩ := id V_va
  have hin4 := inb_of SS4 (own_inN hn hi)
  have hat4 : cl4.slots[((Int32.ofNat i)).toNatClampNeg]? = some (.long (zs.getD i 0)) := HH4.at hin4 (own_zi (by omega))
  obtain ⟨T5, X5, e5, st5⟩ := getF X3 hx hZ hown (host := "") (Or.inl (hw _ (List.mem_of_getElem? (i := 30) rfl))) Via.refl e3 F_base_a0 (g := (mkF m 268 #[.val (.ref a0), .val (.int p1), .val (.long q2), .second, .val (.ref va), .val (.long ls), .second, .val (.long gr), .second, .val (.long rg), .second, .val (.int fa), .val (.long mo), .second, .val (.int (Int32.ofNat i))] [(.ref a0), (.long (zs.getD i 0)), (.int (Int32.ofNat i)), (.ref nr)])) rfl rfl (hb hby d9_268)
  obtain ⟨cl6, Ar6, qq6, SS6, MM6, HH6, GG6⟩ := id V_nr
  have hin6 := inb_of SS6 (own_inN hn hi)
  obtain ⟨T6, h6, X6, e6, W6, st6⟩ := stB X5 hx hZ e5 Ar6 (j := (Int32.ofNat i)) hin6 (g := (mkF m 274 #[.val (.ref a0), .val (.int p1), .val (.long q2), .second, .val (.ref va), .val (.long ls), .second, .val (.long gr), .second, .val (.long rg), .second, .val (.int fa), .val (.long mo), .second, .val (.int (Int32.ofNat i))] [(.int ((((zs.getD i 0) - bb).toInt32).toInt8.toInt32)), (.int (Int32.ofNat i)), (.ref nr)])) rfl rfl (hb hby d9_274)
  have V_nr : Arv Z h6 nr kn .byte nn ((ys.set i (own_en1 bb (zs.getD i 0))).map Value.int) (.int (0 : Int32)) := by rw [List.map_set]; exact Arv.set Ar6 qq6 SS6 MM6 HH6 GG6 (fits_nar_byte _) W6 i (own_idx (by omega)) (by rw [List.length_map, hy, own_tn]; omega)
  have E_a0 : Exa Z h6 a0 "com/example/wadjet/wadjet/storage/IntegerChunk" := E_a0.wr W6
  have F_width_a0 : Fld Z h6 a0 "com/example/wadjet/wadjet/storage/IntegerChunk" "width" "I" (.int (1 : Int32)) := F_width_a0.other W6 (Or.inl ne_a0_nr)
  have F_base_a0 : Fld Z h6 a0 "com/example/wadjet/wadjet/storage/IntegerChunk" "base" "J" (.long bb) := F_base_a0.other W6 (Or.inl ne_a0_nr)
  have F_based_a0 : Fld Z h6 a0 "com/example/wadjet/wadjet/storage/IntegerChunk" "based" "Z" u_based := F_based_a0.other W6 (Or.inl ne_a0_nr)
  have F_narrow_a0 : Fld Z h6 a0 "com/example/wadjet/wadjet/storage/IntegerChunk" "narrow" "[B" (.ref nr) := F_narrow_a0.other W6 (Or.inl ne_a0_nr)
  have F_middle_a0 : Fld Z h6 a0 "com/example/wadjet/wadjet/storage/IntegerChunk" "middle" "[C" u_middle := F_middle_a0.other W6 (Or.inl ne_a0_nr)
  have F_wide_a0 : Fld Z h6 a0 "com/example/wadjet/wadjet/storage/IntegerChunk" "wide" "[I" u_wide := F_wide_a0.other W6 (Or.inl ne_a0_nr)
  have F_nulls_a0 : Fld Z h6 a0 "com/example/wadjet/wadjet/storage/IntegerChunk" "nulls" "[J" u_nulls := F_nulls_a0.other W6 (Or.inl ne_a0_nr)
  have V_va : Arv Z h6 va kv .long nn (zs.map Value.long) (.long (0 : Int64)) := V_va.other W6 ne_va_nr
  have Zh6 : n0 ≤ h6.size := Nat.le_trans Z0 (Keep.of_wr W6).1
  have Kh6 : Keep h0 h6 [nr] := K0.wr W6 (Or.inl (by simp))
  have N6 := Fr.snoc X6 N0 g_nr
  refine ⟨T6, _, _, X6, e6, N6, Kh6, E_a0, F_width_a0, F_base_a0, F_based_a0, F_narrow_a0, F_middle_a0, F_wide_a0, F_nulls_a0, V_nr, V_va, fun target kt => ?_⟩
  show Steps p.tables e below (T0.setTop (mkF m 240 #[.val (.ref a0), .val (.int p1), .val (.long q2), .second, .val (.ref va), .val (.long ls), .second, .val (.long gr), .second, .val (.long rg), .second, .val (.int fa), .val (.long mo), .second, .val (.int (Int32.ofNat i))] [])) _
  refine XS.iload X0.here hx rfl (hb hby d9_240) rfl ?_
  refine XS.aload X0.here hx rfl (hb hby d9_242) rfl rfl ?_
  refine X0.arraylength hx (by rw [e0]; exact Ar1.1) (State.isArrayOf_alike hZ.alike Ar1.2.1) (g := (mkF m 244 #[.val (.ref a0), .val (.int p1), .val (.long q2), .second, .val (.ref va), .val (.long ls), .second, .val (.long gr), .second, .val (.long rg), .second, .val (.int fa), .val (.long mo), .second, .val (.int (Int32.ofNat i))] [(.ref va), (.int (Int32.ofNat i))])) rfl rfl (hb hby d9_244) _ ?_
  rw [len_of SS1 MM1]
  show Steps p.tables e below (T0.setTop (mkF m 245 #[.val (.ref a0), .val (.int p1), .val (.long q2), .second, .val (.ref va), .val (.long ls), .second, .val (.long gr), .second, .val (.long rg), .second, .val (.int fa), .val (.long mo), .second, .val (.int (Int32.ofNat i))] [(.int nn), (.int (Int32.ofNat i))])) _
  refine XS.icmpNo X0.here hx rfl (hb hby d9_245) rfl (tlt ((own_inN hn hi).2 : (Int32.ofNat i) < nn)).2.1 ?_
  refine XS.aloadN X0.here hx rfl (hb hby d9_248) rfl rfl ?_
  refine st2 _ ?_
  show Steps p.tables e below (T2.setTop (mkF m 252 #[.val (.ref a0), .val (.int p1), .val (.long q2), .second, .val (.ref va), .val (.long ls), .second, .val (.long gr), .second, .val (.long rg), .second, .val (.int fa), .val (.long mo), .second, .val (.int (Int32.ofNat i))] [(.int (1 : Int32))])) _
  refine XS.iconst X2.here hx rfl (hb hby d9_252) ?_
  show Steps p.tables e below (T2.setTop (mkF m 253 #[.val (.ref a0), .val (.int p1), .val (.long q2), .second, .val (.ref va), .val (.long ls), .second, .val (.long gr), .second, .val (.long rg), .second, .val (.int fa), .val (.long mo), .second, .val (.int (Int32.ofNat i))] [(.int (1 : Int32)), (.int (1 : Int32))])) _
  refine XS.icmpNo X2.here hx rfl (hb hby d9_253) rfl (teq (by decide : (1 : Int32) = (1 : Int32))).2 ?_
  refine XS.aloadN X2.here hx rfl (hb hby d9_256) rfl rfl ?_
  refine st3 _ ?_
  show Steps p.tables e below (T3.setTop (mkF m 260 #[.val (.ref a0), .val (.int p1), .val (.long q2), .second, .val (.ref va), .val (.long ls), .second, .val (.long gr), .second, .val (.long rg), .second, .val (.int fa), .val (.long mo), .second, .val (.int (Int32.ofNat i))] [(.ref nr)])) _
  refine XS.iload X3.here hx rfl (hb hby d9_260) rfl ?_
  show Steps p.tables e below (T3.setTop (mkF m 262 #[.val (.ref a0), .val (.int p1), .val (.long q2), .second, .val (.ref va), .val (.long ls), .second, .val (.long gr), .second, .val (.long rg), .second, .val (.int fa), .val (.long mo), .second, .val (.int (Int32.ofNat i))] [(.int (Int32.ofNat i)), (.ref nr)])) _
  refine XS.aload X3.here hx rfl (hb hby d9_262) rfl rfl ?_
  refine XS.iload X3.here hx rfl (hb hby d9_264) rfl ?_
  refine X3.laload hx (j := (Int32.ofNat i)) (v := (.long (zs.getD i 0))) (by rw [e3]; exact Ar4.1) (State.isArrayOf_alike hZ.alike Ar4.2.1) Ar4.2.2 hin4 hat4 (g := (mkF m 266 #[.val (.ref a0), .val (.int p1), .val (.long q2), .second, .val (.ref va), .val (.long ls), .second, .val (.long gr), .second, .val (.long rg), .second, .val (.int fa), .val (.long mo), .second, .val (.int (Int32.ofNat i))] [(.int (Int32.ofNat i)), (.ref va), (.int (Int32.ofNat i)), (.ref nr)])) rfl rfl (hb hby d9_266) _ ?_
  show Steps p.tables e below (T3.setTop (mkF m 267 #[.val (.ref a0), .val (.int p1), .val (.long q2), .second, .val (.ref va), .val (.long ls), .second, .val (.long gr), .second, .val (.long rg), .second, .val (.int fa), .val (.long mo), .second, .val (.int (Int32.ofNat i))] [(.long (zs.getD i 0)), (.int (Int32.ofNat i)), (.ref nr)])) _
  refine XS.aloadN X3.here hx rfl (hb hby d9_267) rfl rfl ?_
  show Steps p.tables e below (T3.setTop (mkF m 268 #[.val (.ref a0), .val (.int p1), .val (.long q2), .second, .val (.ref va), .val (.long ls), .second, .val (.long gr), .second, .val (.long rg), .second, .val (.int fa), .val (.long mo), .second, .val (.int (Int32.ofNat i))] [(.ref a0), (.long (zs.getD i 0)), (.int (Int32.ofNat i)), (.ref nr)])) _
  refine st5 _ ?_
  show Steps p.tables e below (T5.setTop (mkF m 271 #[.val (.ref a0), .val (.int p1), .val (.long q2), .second, .val (.ref va), .val (.long ls), .second, .val (.long gr), .second, .val (.long rg), .second, .val (.int fa), .val (.long mo), .second, .val (.int (Int32.ofNat i))] [(.long bb), (.long (zs.getD i 0)), (.int (Int32.ofNat i)), (.ref nr)])) _
  refine XS.lsub X5.here hx rfl (hb hby d9_271) rfl ?_
  refine XS.l2i X5.here hx rfl (hb hby d9_272) rfl ?_
  refine XS.i2b X5.here hx rfl (hb hby d9_273) rfl ?_
  show Steps p.tables e below (T5.setTop (mkF m 274 #[.val (.ref a0), .val (.int p1), .val (.long q2), .second, .val (.ref va), .val (.long ls), .second, .val (.long gr), .second, .val (.long rg), .second, .val (.int fa), .val (.long mo), .second, .val (.int (Int32.ofNat i))] [(.int ((((zs.getD i 0) - bb).toInt32).toInt8.toInt32)), (.int (Int32.ofNat i)), (.ref nr)])) _
  refine st6 _ ?_
  show Steps p.tables e below (T6.setTop (mkF m 275 #[.val (.ref a0), .val (.int p1), .val (.long q2), .second, .val (.ref va), .val (.long ls), .second, .val (.long gr), .second, .val (.long rg), .second, .val (.int fa), .val (.long mo), .second, .val (.int (Int32.ofNat i))] [])) _
  refine XS.goto X6.here hx rfl (pc0 := 275) (pc' := 321) rfl (hb hby d9_275) (by decide) (by decide) ?_
  show Steps p.tables e below (T6.setTop (mkF m 321 #[.val (.ref a0), .val (.int p1), .val (.long q2), .second, .val (.ref va), .val (.long ls), .second, .val (.long gr), .second, .val (.long rg), .second, .val (.int fa), .val (.long mo), .second, .val (.int (Int32.ofNat i))] [])) _
  refine XS.iinc X6.here hx rfl (hb hby d9_321) rfl (l' := #[.val (.ref a0), .val (.int p1), .val (.long q2), .second, .val (.ref va), .val (.long ls), .second, .val (.long gr), .second, .val (.long rg), .second, .val (.int fa), .val (.long mo), .second, .val (.int ((Int32.ofNat i) + (1 : Int32)))]) rfl ?_
  refine XS.goto X6.here hx rfl (pc0 := 324) (pc' := 240) rfl (hb hby d9_324) (by decide) (by decide) ?_
  show Steps p.tables e below (T6.setTop (mkF m 240 #[.val (.ref a0), .val (.int p1), .val (.long q2), .second, .val (.ref va), .val (.long ls), .second, .val (.long gr), .second, .val (.long rg), .second, .val (.int fa), .val (.long mo), .second, .val (.int ((Int32.ofNat i) + (1 : Int32)))] [])) _
  exact kt
set_option maxRecDepth 65536 in
set_option maxHeartbeats 40000000 in
theorem tu1 {p : Program} {l : Launch} {e : Env} {s : State} {m : MethodId} {args : Array Value} {below : List Frame} {meth : Method} {c : Code} {T0 : State} {locs : List Loc} {cells slots : Nat} {Z : State} {A0 : Array Value} {h0 : Heap} {n0 : Nat} (a0 : Addr) (p1 : Int32) (q2 : Int64) (va : Addr) (ls gr rg mo : Int64) (fa : Int32) (i : Nat) (nn : Int32) (kv : ClassId) (zs : List Int64) (X0 : Stand p l e ({ frames := 1, cells := 2, slots := 16, locals := 40 } : Room) s m args below meth c T0 locs cells slots) (hx : p.tables.exec = Jvm.exec) (hZ : Z.Warmed39 s.vm) (hw : ∀ d ∈ tables_1, d.before A0 Z = true) (hby : c.code = prog_257_method_15_code) (hml : c.maxLocals = 15) (hown : s.vm.findClass "com/example/wadjet/wadjet/storage/IntegerChunk" = some m.cls) (e0 : T0.heap = h0) (N0 : Fr n0 locs) (Z0 : n0 ≤ h0.size) (V_va : Arv Z h0 va kv .long nn (zs.map Value.long) (.long (0 : Int64))) (hq : ¬ ((Int32.ofNat i) < nn)) :
    ∃ (T' : State), Stand p l e ({ frames := 1, cells := 2, slots := 16, locals := 40 } : Room) s m args below meth c T' locs cells slots ∧ T'.heap = h0 ∧
      ∀ target, Steps p.tables e below (T'.setTop (mkF m 327 #[.val (.ref a0), .val (.int p1), .val (.long q2), .second, .val (.ref va), .val (.long ls), .second, .val (.long gr), .second, .val (.long rg), .second, .val (.int fa), .val (.long mo), .second, .val (.int (Int32.ofNat i))] [])) target → Steps p.tables e below (T0.setTop (mkF m 240 #[.val (.ref a0), .val (.int p1), .val (.long q2), .second, .val (.ref va), .val (.long ls), .second, .val (.long gr), .second, .val (.long rg), .second, .val (.int fa), .val (.long mo), .second, .val (.int (Int32.ofNat i))] [])) target := by
  have K0 : Keep h0 h0 [] := Keep.refl _ _
  obtain ⟨cl1, Ar1, -, SS1, MM1, -, -⟩ := id V_va
  refine ⟨T0, X0, e0, fun target kt => ?_⟩
  show Steps p.tables e below (T0.setTop (mkF m 240 #[.val (.ref a0), .val (.int p1), .val (.long q2), .second, .val (.ref va), .val (.long ls), .second, .val (.long gr), .second, .val (.long rg), .second, .val (.int fa), .val (.long mo), .second, .val (.int (Int32.ofNat i))] [])) _
  refine XS.iload X0.here hx rfl (hb hby d9_240) rfl ?_
  refine XS.aload X0.here hx rfl (hb hby d9_242) rfl rfl ?_
  refine X0.arraylength hx (by rw [e0]; exact Ar1.1) (State.isArrayOf_alike hZ.alike Ar1.2.1) (g := (mkF m 244 #[.val (.ref a0), .val (.int p1), .val (.long q2), .second, .val (.ref va), .val (.long ls), .second, .val (.long gr), .second, .val (.long rg), .second, .val (.int fa), .val (.long mo), .second, .val (.int (Int32.ofNat i))] [(.ref va), (.int (Int32.ofNat i))])) rfl rfl (hb hby d9_244) _ ?_
  rw [len_of SS1 MM1]
  show Steps p.tables e below (T0.setTop (mkF m 245 #[.val (.ref a0), .val (.int p1), .val (.long q2), .second, .val (.ref va), .val (.long ls), .second, .val (.long gr), .second, .val (.long rg), .second, .val (.int fa), .val (.long mo), .second, .val (.int (Int32.ofNat i))] [(.int nn), (.int (Int32.ofNat i))])) _
  refine XS.icmpYes X0.here hx rfl (pc0 := 245) (pc' := 327) rfl (hb hby d9_245) rfl (flt (hq : ¬ ((Int32.ofNat i) < nn))).2.1 (by decide) (by decide) ?_
  show Steps p.tables e below (T0.setTop (mkF m 327 #[.val (.ref a0), .val (.int p1), .val (.long q2), .second, .val (.ref va), .val (.long ls), .second, .val (.long gr), .second, .val (.long rg), .second, .val (.int fa), .val (.long mo), .second, .val (.int (Int32.ofNat i))] [])) _
  exact kt
set_option maxHeartbeats 4000000 in
theorem lq1 {p : Program} {l : Launch} {e : Env} {s : State} {m : MethodId} {args : Array Value} {below : List Frame} {meth : Method} {c : Code} {Z : State} {A0 : Array Value} {n0 : Nat} (a0 : Addr) (p1 : Int32) (q2 : Int64) (va : Addr) (ls gr rg mo : Int64) (fa : Int32) (u_based : Value) (u_middle : Value) (u_wide : Value) (u_nulls : Value) (bb : Int64) (nr : Addr) (kn : ClassId) (nn : Int32) (kv : ClassId) (zs : List Int64) (hx : p.tables.exec = Jvm.exec) (hZ : Z.Warmed39 s.vm) (hw : ∀ d ∈ tables_1, d.before A0 Z = true) (hby : c.code = prog_257_method_15_code) (hml : c.maxLocals = 15) (hown : s.vm.findClass "com/example/wadjet/wadjet/storage/IntegerChunk" = some m.cls) (g_nr : n0 ≤ nr) (ne_a0_nr : a0 ≠ nr) (ne_va_nr : va ≠ nr) (hn : nn.toInt ≤ 8) : ∀ (t i : Nat) (wl : List Int32) {T0 : State} {locs : List Loc} {cells slots : Nat} {h0 : Heap} (X0 : Stand p l e ({ frames := 1, cells := 2, slots := 16, locals := 40 } : Room) s m args below meth c T0 locs cells slots) (e0 : T0.heap = h0) (N0 : Fr n0 locs) (Z0 : n0 ≤ h0.size) (E_a0 : Exa Z h0 a0 "com/example/wadjet/wadjet/storage/IntegerChunk") (F_width_a0 : Fld Z h0 a0 "com/example/wadjet/wadjet/storage/IntegerChunk" "width" "I" (.int (1 : Int32))) (F_base_a0 : Fld Z h0 a0 "com/example/wadjet/wadjet/storage/IntegerChunk" "base" "J" (.long bb)) (F_based_a0 : Fld Z h0 a0 "com/example/wadjet/wadjet/storage/IntegerChunk" "based" "Z" u_based) (F_narrow_a0 : Fld Z h0 a0 "com/example/wadjet/wadjet/storage/IntegerChunk" "narrow" "[B" (.ref nr)) (F_middle_a0 : Fld Z h0 a0 "com/example/wadjet/wadjet/storage/IntegerChunk" "middle" "[C" u_middle) (F_wide_a0 : Fld Z h0 a0 "com/example/wadjet/wadjet/storage/IntegerChunk" "wide" "[I" u_wide) (F_nulls_a0 : Fld Z h0 a0 "com/example/wadjet/wadjet/storage/IntegerChunk" "nulls" "[J" u_nulls) (V_nr : Arv Z h0 nr kn .byte nn (wl.map Value.int) (.int (0 : Int32))) (V_va : Arv Z h0 va kv .long nn (zs.map Value.long) (.long (0 : Int64))) (hit : (i : Int) + (t : Int) = nn.toInt) (hy : wl.length = nn.toNatClampNeg),
    ∃ (T' : State) (h' : Heap) (locs' : List Loc), Stand p l e ({ frames := 1, cells := 2, slots := 16, locals := 40 } : Room) s m args below meth c T' locs' cells slots ∧ T'.heap = h' ∧ Fr n0 locs' ∧ Keep h0 h' [nr] ∧ Exa Z h' a0 "com/example/wadjet/wadjet/storage/IntegerChunk" ∧ Fld Z h' a0 "com/example/wadjet/wadjet/storage/IntegerChunk" "width" "I" (.int (1 : Int32)) ∧ Fld Z h' a0 "com/example/wadjet/wadjet/storage/IntegerChunk" "base" "J" (.long bb) ∧ Fld Z h' a0 "com/example/wadjet/wadjet/storage/IntegerChunk" "based" "Z" u_based ∧ Fld Z h' a0 "com/example/wadjet/wadjet/storage/IntegerChunk" "narrow" "[B" (.ref nr) ∧ Fld Z h' a0 "com/example/wadjet/wadjet/storage/IntegerChunk" "middle" "[C" u_middle ∧ Fld Z h' a0 "com/example/wadjet/wadjet/storage/IntegerChunk" "wide" "[I" u_wide ∧ Fld Z h' a0 "com/example/wadjet/wadjet/storage/IntegerChunk" "nulls" "[J" u_nulls ∧ Arv Z h' nr kn .byte nn ((own_rw (fun j => own_en1 bb (zs.getD j 0)) t i wl).map Value.int) (.int (0 : Int32)) ∧ Arv Z h' va kv .long nn (zs.map Value.long) (.long (0 : Int64)) ∧
      ∀ target, Steps p.tables e below (T'.setTop (mkF m 327 #[.val (.ref a0), .val (.int p1), .val (.long q2), .second, .val (.ref va), .val (.long ls), .second, .val (.long gr), .second, .val (.long rg), .second, .val (.int fa), .val (.long mo), .second, .val (.int (Int32.ofNat (i + t)))] [])) target → Steps p.tables e below (T0.setTop (mkF m 240 #[.val (.ref a0), .val (.int p1), .val (.long q2), .second, .val (.ref va), .val (.long ls), .second, .val (.long gr), .second, .val (.long rg), .second, .val (.int fa), .val (.long mo), .second, .val (.int (Int32.ofNat i))] [])) target := by
  intro t
  induction t with
  | zero =>
    intro i wl T0 locs cells slots h0 X0 e0 N0 Z0 E_a0 F_width_a0 F_base_a0 F_based_a0 F_narrow_a0 F_middle_a0 F_wide_a0 F_nulls_a0 V_nr V_va hit hy
    obtain ⟨T1, X1, e1, st1⟩ := tu1 a0 p1 q2 va ls gr rg mo fa i nn kv zs X0 hx hZ hw hby hml hown e0 N0 Z0 V_va (own_endN hn hit)
    exact ⟨T1, h0, locs, X1, e1, N0, Keep.refl _ _, E_a0, F_width_a0, F_base_a0, F_based_a0, F_narrow_a0, F_middle_a0, F_wide_a0, F_nulls_a0, V_nr, V_va, st1⟩
  | succ t ih =>
    intro i wl T0 locs cells slots h0 X0 e0 N0 Z0 E_a0 F_width_a0 F_base_a0 F_based_a0 F_narrow_a0 F_middle_a0 F_wide_a0 F_nulls_a0 V_nr V_va hit hy
    have heq : (Int32.ofNat i) + (1 : Int32) = Int32.ofNat (i + 1) := (Int32.ofNat_add i 1).symm
    have hq2 : i + 1 + t = i + (t + 1) := by omega
    obtain ⟨T1, h1, L1, X1, e1, N1, K1, E_a0, F_width_a0, F_base_a0, F_based_a0, F_narrow_a0, F_middle_a0, F_wide_a0, F_nulls_a0, V_nr, V_va, st1⟩ := tv1 a0 p1 q2 va ls gr rg mo fa i u_based u_middle u_wide u_nulls bb nr kn nn wl kv zs X0 hx hZ hw hby hml hown e0 N0 Z0 E_a0 F_width_a0 F_base_a0 F_based_a0 F_narrow_a0 F_middle_a0 F_wide_a0 F_nulls_a0 V_nr V_va g_nr ne_a0_nr ne_va_nr hn (by omega) hy
    rw [heq] at st1
    obtain ⟨T2, h2, L2, X2, e2, N2, K2, E_a0, F_width_a0, F_base_a0, F_based_a0, F_narrow_a0, F_middle_a0, F_wide_a0, F_nulls_a0, V_nr, V_va, st2⟩ := ih (i + 1) (wl.set i (own_en1 bb (zs.getD i 0))) X1 e1 N1 (Nat.le_trans Z0 K1.1) E_a0 F_width_a0 F_base_a0 F_based_a0 F_narrow_a0 F_middle_a0 F_wide_a0 F_nulls_a0 V_nr V_va (by omega) (by rw [List.length_set]; exact hy)
    rw [hq2] at st2
    exact ⟨T2, h2, L2, X2, e2, N2, K1.trans K2 (allS (Or.inl (by simp)) all0), E_a0, F_width_a0, F_base_a0, F_based_a0, F_narrow_a0, F_middle_a0, F_wide_a0, F_nulls_a0, V_nr, V_va, fun tt kt => st1 tt (st2 tt kt)⟩
theorem d9_278 : decode prog_257_method_15_code 278 = .ok (.aload_n 0, 1) := by decide +kernel
theorem d9_279 : decode prog_257_method_15_code 279 = .ok (.getfield 7, 3) := by decide +kernel
theorem d9_282 : decode prog_257_method_15_code 282 = .ok (.iconst 2, 1) := by decide +kernel
theorem d9_283 : decode prog_257_method_15_code 283 = .ok (.if_icmp .ne 25, 3) := by decide +kernel
theorem d9_286 : decode prog_257_method_15_code 286 = .ok (.aload_n 0, 1) := by decide +kernel
theorem d9_287 : decode prog_257_method_15_code 287 = .ok (.getfield 39, 3) := by decide +kernel
theorem d9_290 : decode prog_257_method_15_code 290 = .ok (.iload 14, 2) := by decide +kernel
theorem d9_292 : decode prog_257_method_15_code 292 = .ok (.aload 4, 2) := by decide +kernel
theorem d9_294 : decode prog_257_method_15_code 294 = .ok (.iload 14, 2) := by decide +kernel
theorem d9_296 : decode prog_257_method_15_code 296 = .ok (.laload, 1) := by decide +kernel
theorem d9_297 : decode prog_257_method_15_code 297 = .ok (.aload_n 0, 1) := by decide +kernel
theorem d9_298 : decode prog_257_method_15_code 298 = .ok (.getfield 35, 3) := by decide +kernel
theorem d9_301 : decode prog_257_method_15_code 301 = .ok (.lsub, 1) := by decide +kernel
theorem d9_302 : decode prog_257_method_15_code 302 = .ok (.l2i, 1) := by decide +kernel
theorem d9_303 : decode prog_257_method_15_code 303 = .ok (.i2c, 1) := by decide +kernel
theorem d9_304 : decode prog_257_method_15_code 304 = .ok (.castore, 1) := by decide +kernel
theorem d9_305 : decode prog_257_method_15_code 305 = .ok (.goto 16, 3) := by decide +kernel
set_option maxRecDepth 65536 in
set_option maxHeartbeats 40000000 in
theorem tv2 {p : Program} {l : Launch} {e : Env} {s : State} {m : MethodId} {args : Array Value} {below : List Frame} {meth : Method} {c : Code} {T0 : State} {locs : List Loc} {cells slots : Nat} {Z : State} {A0 : Array Value} {h0 : Heap} {n0 : Nat} (a0 : Addr) (p1 : Int32) (q2 : Int64) (va : Addr) (ls gr rg mo : Int64) (fa : Int32) (i : Nat) (u_based : Value) (u_narrow : Value) (u_wide : Value) (u_nulls : Value) (bb : Int64) (nr : Addr) (kn : ClassId) (nn : Int32) (ys : List Int32) (kv : ClassId) (zs : List Int64) (X0 : Stand p l e ({ frames := 1, cells := 2, slots := 16, locals := 40 } : Room) s m args below meth c T0 locs cells slots) (hx : p.tables.exec = Jvm.exec) (hZ : Z.Warmed39 s.vm) (hw : ∀ d ∈ tables_1, d.before A0 Z = true) (hby : c.code = prog_257_method_15_code) (hml : c.maxLocals = 15) (hown : s.vm.findClass "com/example/wadjet/wadjet/storage/IntegerChunk" = some m.cls) (e0 : T0.heap = h0) (N0 : Fr n0 locs) (Z0 : n0 ≤ h0.size) (E_a0 : Exa Z h0 a0 "com/example/wadjet/wadjet/storage/IntegerChunk") (F_width_a0 : Fld Z h0 a0 "com/example/wadjet/wadjet/storage/IntegerChunk" "width" "I" (.int (2 : Int32))) (F_base_a0 : Fld Z h0 a0 "com/example/wadjet/wadjet/storage/IntegerChunk" "base" "J" (.long bb)) (F_based_a0 : Fld Z h0 a0 "com/example/wadjet/wadjet/storage/IntegerChunk" "based" "Z" u_based) (F_narrow_a0 : Fld Z h0 a0 "com/example/wadjet/wadjet/storage/IntegerChunk" "narrow" "[B" u_narrow) (F_middle_a0 : Fld Z h0 a0 "com/example/wadjet/wadjet/storage/IntegerChunk" "middle" "[C" (.ref nr)) (F_wide_a0 : Fld Z h0 a0 "com/example/wadjet/wadjet/storage/IntegerChunk" "wide" "[I" u_wide) (F_nulls_a0 : Fld Z h0 a0 "com/example/wadjet/wadjet/storage/IntegerChunk" "nulls" "[J" u_nulls) (V_nr : Arv Z h0 nr kn .char nn (ys.map Value.int) (.int (0 : Int32))) (V_va : Arv Z h0 va kv .long nn (zs.map Value.long) (.long (0 : Int64))) (g_nr : n0 ≤ nr) (ne_a0_nr : a0 ≠ nr) (ne_va_nr : va ≠ nr) (hn : nn.toInt ≤ 8) (hi : (i : Int) < nn.toInt) (hy : ys.length = nn.toNatClampNeg) :
    ∃ (T' : State) (h' : Heap) (locs' : List Loc), Stand p l e ({ frames := 1, cells := 2, slots := 16, locals := 40 } : Room) s m args below meth c T' locs' cells slots ∧ T'.heap = h' ∧ Fr n0 locs' ∧ Keep h0 h' [nr] ∧ Exa Z h' a0 "com/example/wadjet/wadjet/storage/IntegerChunk" ∧ Fld Z h' a0 "com/example/wadjet/wadjet/storage/IntegerChunk" "width" "I" (.int (2 : Int32)) ∧ Fld Z h' a0 "com/example/wadjet/wadjet/storage/IntegerChunk" "base" "J" (.long bb) ∧ Fld Z h' a0 "com/example/wadjet/wadjet/storage/IntegerChunk" "based" "Z" u_based ∧ Fld Z h' a0 "com/example/wadjet/wadjet/storage/IntegerChunk" "narrow" "[B" u_narrow ∧ Fld Z h' a0 "com/example/wadjet/wadjet/storage/IntegerChunk" "middle" "[C" (.ref nr) ∧ Fld Z h' a0 "com/example/wadjet/wadjet/storage/IntegerChunk" "wide" "[I" u_wide ∧ Fld Z h' a0 "com/example/wadjet/wadjet/storage/IntegerChunk" "nulls" "[J" u_nulls ∧ Arv Z h' nr kn .char nn ((ys.set i (own_en2 bb (zs.getD i 0))).map Value.int) (.int (0 : Int32)) ∧ Arv Z h' va kv .long nn (zs.map Value.long) (.long (0 : Int64)) ∧ 
      ∀ target, Steps p.tables e below (T'.setTop (mkF m 240 #[.val (.ref a0), .val (.int p1), .val (.long q2), .second, .val (.ref va), .val (.long ls), .second, .val (.long gr), .second, .val (.long rg), .second, .val (.int fa), .val (.long mo), .second, .val (.int ((Int32.ofNat i) + (1 : Int32)))] [])) target → Steps p.tables e below (T0.setTop (mkF m 240 #[.val (.ref a0), .val (.int p1), .val (.long q2), .second, .val (.ref va), .val (.long ls), .second, .val (.long gr), .second, .val (.long rg), .second, .val (.int fa), .val (.long mo), .second, .val (.int (Int32.ofNat i))] [])) target := by
  have K0 : Keep h0 h0 [nr] := Keep.refl _ _
  obtain ⟨cl1, Ar1, -, SS1, MM1, -, -⟩ := id V_va
  obtain ⟨T2, X2, e2, st2⟩ := getF X0 hx hZ hown (host := "") (Or.inl (hw _ (List.mem_of_getElem? (i := 14) rfl))) Via.refl e0 F_width_a0 (g := (mkF m 249 #[.val (.ref a0), .val (.int p1), .val (.long q2), .second, .val (.ref va), .val (.long ls), .second, .val (.long gr), .second, .val (.long rg), .second, .val (.int fa), .val (.long mo), .second, .val (.int (Int32.ofNat i))] [(.ref a0)])) rfl rfl (hb hby d9_249)
  obtain ⟨T3, X3, e3, st3⟩ := getF X2 hx hZ hown (host := "") (Or.inl (hw _ (List.mem_of_getElem? (i := 14) rfl))) Via.refl e2 F_width_a0 (g := (mkF m 279 #[.val (.ref a0), .val (.int p1), .val (.long q2), .second, .val (.ref va), .val (.long ls), .second, .val (.long gr), .second, .val (.long rg), .second, .val (.int fa), .val (.long mo), .second, .val (.int (Int32.ofNat i))] [(.ref a0)])) rfl rfl (hb hby d9_279)
  obtain ⟨T4, X4, e4, st4⟩ := getF X3 hx hZ hown (host := "") (Or.inl (hw _ (List.mem_of_getElem? (i := 60) rfl))) Via.refl e3 F_middle_a0 (g := (mkF m 287 #[.val (.ref a0), .val (.int p1), .val (.long q2), .second, .val (.ref va), .val (.long ls), .second, .val (.long gr), .second, .val (.long rg), .second, .val (.int fa), .val (.long mo), .second, .val (.int (Int32.ofNat i))] [(.ref a0)])) rfl rfl (hb hby d9_287)
  obtain ⟨cl5, Ar5, -, SS5, MM5, HH5, -⟩ := id V_va
  have hin5 := inb_of SS5 (own_inN hn hi)
  have hat5 : cl5.slots[((Int32.ofNat i)).toNatClampNeg]? = some (.long (zs.getD i 0)) := HH5.at hin5 (own_zi (by omega))
  obtain ⟨T6, X6, e6, st6⟩ := getF X4 hx hZ hown (host := "") (Or.inl (hw _ (List.mem_of_getElem? (i := 30) rfl))) Via.refl e4 F_base_a0 (g := (mkF m 298 #[.val (.ref a0), .val (.int p1), .val (.long q2), .second, .val (.ref va), .val (.long ls), .second, .val (.long gr), .second, .val (.long rg), .second, .val (.int fa), .val (.long mo), .second, .val (.int (Int32.ofNat i))] [(.ref a0), (.long (zs.getD i 0)), (.int (Int32.ofNat i)), (.ref nr)])) rfl rfl (hb hby d9_298)
  obtain ⟨cl7, Ar7, qq7, SS7, MM7, HH7, GG7⟩ := id V_nr
  have hin7 := inb_of SS7 (own_inN hn hi)
  obtain ⟨T7, h7, X7, e7, W7, st7⟩ := stC X6 hx hZ e6 Ar7 (j := (Int32.ofNat i)) hin7 (g := (mkF m 304 #[.val (.ref a0), .val (.int p1), .val (.long q2), .second, .val (.ref va), .val (.long ls), .second, .val (.long gr), .second, .val (.long rg), .second, .val (.int fa), .val (.long mo), .second, .val (.int (Int32.ofNat i))] [(.int ((((zs.getD i 0) - bb).toInt32).toUInt32.toUInt16.toUInt32.toInt32)), (.int (Int32.ofNat i)), (.ref nr)])) rfl rfl (hb hby d9_304)
  have V_nr : Arv Z h7 nr kn .char nn ((ys.set i (own_en2 bb (zs.getD i 0))).map Value.int) (.int (0 : Int32)) := by rw [List.map_set]; exact Arv.set Ar7 qq7 SS7 MM7 HH7 GG7 (fits_nar_char _) W7 i (own_idx (by omega)) (by rw [List.length_map, hy, own_tn]; omega)
  have E_a0 : Exa Z h7 a0 "com/example/wadjet/wadjet/storage/IntegerChunk" := E_a0.wr W7
  have F_width_a0 : Fld Z h7 a0 "com/example/wadjet/wadjet/storage/IntegerChunk" "width" "I" (.int (2 : Int32)) := F_width_a0.other W7 (Or.inl ne_a0_nr)
  have F_base_a0 : Fld Z h7 a0 "com/example/wadjet/wadjet/storage/IntegerChunk" "base" "J" (.long bb) := F_base_a0.other W7 (Or.inl ne_a0_nr)
  have F_based_a0 : Fld Z h7 a0 "com/example/wadjet/wadjet/storage/IntegerChunk" "based" "Z" u_based := F_based_a0.other W7 (Or.inl ne_a0_nr)
  have F_narrow_a0 : Fld Z h7 a0 "com/example/wadjet/wadjet/storage/IntegerChunk" "narrow" "[B" u_narrow := F_narrow_a0.other W7 (Or.inl ne_a0_nr)
  have F_middle_a0 : Fld Z h7 a0 "com/example/wadjet/wadjet/storage/IntegerChunk" "middle" "[C" (.ref nr) := F_middle_a0.other W7 (Or.inl ne_a0_nr)
  have F_wide_a0 : Fld Z h7 a0 "com/example/wadjet/wadjet/storage/IntegerChunk" "wide" "[I" u_wide := F_wide_a0.other W7 (Or.inl ne_a0_nr)
  have F_nulls_a0 : Fld Z h7 a0 "com/example/wadjet/wadjet/storage/IntegerChunk" "nulls" "[J" u_nulls := F_nulls_a0.other W7 (Or.inl ne_a0_nr)
  have V_va : Arv Z h7 va kv .long nn (zs.map Value.long) (.long (0 : Int64)) := V_va.other W7 ne_va_nr
  have Zh7 : n0 ≤ h7.size := Nat.le_trans Z0 (Keep.of_wr W7).1
  have Kh7 : Keep h0 h7 [nr] := K0.wr W7 (Or.inl (by simp))
  have N7 := Fr.snoc X7 N0 g_nr
  refine ⟨T7, _, _, X7, e7, N7, Kh7, E_a0, F_width_a0, F_base_a0, F_based_a0, F_narrow_a0, F_middle_a0, F_wide_a0, F_nulls_a0, V_nr, V_va, fun target kt => ?_⟩
  show Steps p.tables e below (T0.setTop (mkF m 240 #[.val (.ref a0), .val (.int p1), .val (.long q2), .second, .val (.ref va), .val (.long ls), .second, .val (.long gr), .second, .val (.long rg), .second, .val (.int fa), .val (.long mo), .second, .val (.int (Int32.ofNat i))] [])) _
  refine XS.iload X0.here hx rfl (hb hby d9_240) rfl ?_
  refine XS.aload X0.here hx rfl (hb hby d9_242) rfl rfl ?_
  refine X0.arraylength hx (by rw [e0]; exact Ar1.1) (State.isArrayOf_alike hZ.alike Ar1.2.1) (g := (mkF m 244 #[.val (.ref a0), .val (.int p1), .val (.long q2), .second, .val (.ref va), .val (.long ls), .second, .val (.long gr), .second, .val (.long rg), .second, .val (.int fa), .val (.long mo), .second, .val (.int (Int32.ofNat i))] [(.ref va), (.int (Int32.ofNat i))])) rfl rfl (hb hby d9_244) _ ?_
  rw [len_of SS1 MM1]
  show Steps p.tables e below (T0.setTop (mkF m 245 #[.val (.ref a0), .val (.int p1), .val (.long q2), .second, .val (.ref va), .val (.long ls), .second, .val (.long gr), .second, .val (.long rg), .second, .val (.int fa), .val (.long mo), .second, .val (.int (Int32.ofNat i))] [(.int nn), (.int (Int32.ofNat i))])) _
  refine XS.icmpNo X0.here hx rfl (hb hby d9_245) rfl (tlt ((own_inN hn hi).2 : (Int32.ofNat i) < nn)).2.1 ?_
  refine XS.aloadN X0.here hx rfl (hb hby d9_248) rfl rfl ?_
  refine st2 _ ?_
  show Steps p.tables e below (T2.setTop (mkF m 252 #[.val (.ref a0), .val (.int p1), .val (.long q2), .second, .val (.ref va), .val (.long ls), .second, .val (.long gr), .second, .val (.long rg), .second, .val (.int fa), .val (.long mo), .second, .val (.int (Int32.ofNat i))] [(.int (2 : Int32))])) _
  refine XS.iconst X2.here hx rfl (hb hby d9_252) ?_
  show Steps p.tables e below (T2.setTop (mkF m 253 #[.val (.ref a0), .val (.int p1), .val (.long q2), .second, .val (.ref va), .val (.long ls), .second, .val (.long gr), .second, .val (.long rg), .second, .val (.int fa), .val (.long mo), .second, .val (.int (Int32.ofNat i))] [(.int (1 : Int32)), (.int (2 : Int32))])) _
  refine XS.icmpYes X2.here hx rfl (pc0 := 253) (pc' := 278) rfl (hb hby d9_253) rfl (feq (by decide : ¬ ((2 : Int32) = (1 : Int32)))).2 (by decide) (by decide) ?_
  show Steps p.tables e below (T2.setTop (mkF m 278 #[.val (.ref a0), .val (.int p1), .val (.long q2), .second, .val (.ref va), .val (.long ls), .second, .val (.long gr), .second, .val (.long rg), .second, .val (.int fa), .val (.long mo), .second, .val (.int (Int32.ofNat i))] [])) _
  refine XS.aloadN X2.here hx rfl (hb hby d9_278) rfl rfl ?_
  refine st3 _ ?_
  show Steps p.tables e below (T3.setTop (mkF m 282 #[.val (.ref a0), .val (.int p1), .val (.long q2), .second, .val (.ref va), .val (.long ls), .second, .val (.long gr), .second, .val (.long rg), .second, .val (.int fa), .val (.long mo), .second, .val (.int (Int32.ofNat i))] [(.int (2 : Int32))])) _
  refine XS.iconst X3.here hx rfl (hb hby d9_282) ?_
  show Steps p.tables e below (T3.setTop (mkF m 283 #[.val (.ref a0), .val (.int p1), .val (.long q2), .second, .val (.ref va), .val (.long ls), .second, .val (.long gr), .second, .val (.long rg), .second, .val (.int fa), .val (.long mo), .second, .val (.int (Int32.ofNat i))] [(.int (2 : Int32)), (.int (2 : Int32))])) _
  refine XS.icmpNo X3.here hx rfl (hb hby d9_283) rfl (teq (by decide : (2 : Int32) = (2 : Int32))).2 ?_
  refine XS.aloadN X3.here hx rfl (hb hby d9_286) rfl rfl ?_
  refine st4 _ ?_
  show Steps p.tables e below (T4.setTop (mkF m 290 #[.val (.ref a0), .val (.int p1), .val (.long q2), .second, .val (.ref va), .val (.long ls), .second, .val (.long gr), .second, .val (.long rg), .second, .val (.int fa), .val (.long mo), .second, .val (.int (Int32.ofNat i))] [(.ref nr)])) _
  refine XS.iload X4.here hx rfl (hb hby d9_290) rfl ?_
  show Steps p.tables e below (T4.setTop (mkF m 292 #[.val (.ref a0), .val (.int p1), .val (.long q2), .second, .val (.ref va), .val (.long ls), .second, .val (.long gr), .second, .val (.long rg), .second, .val (.int fa), .val (.long mo), .second, .val (.int (Int32.ofNat i))] [(.int (Int32.ofNat i)), (.ref nr)])) _
  refine XS.aload X4.here hx rfl (hb hby d9_292) rfl rfl ?_
  refine XS.iload X4.here hx rfl (hb hby d9_294) rfl ?_
  refine X4.laload hx (j := (Int32.ofNat i)) (v := (.long (zs.getD i 0))) (by rw [e4]; exact Ar5.1) (State.isArrayOf_alike hZ.alike Ar5.2.1) Ar5.2.2 hin5 hat5 (g := (mkF m 296 #[.val (.ref a0), .val (.int p1), .val (.long q2), .second, .val (.ref va), .val (.long ls), .second, .val (.long gr), .second, .val (.long rg), .second, .val (.int fa), .val (.long mo), .second, .val (.int (Int32.ofNat i))] [(.int (Int32.ofNat i)), (.ref va), (.int (Int32.ofNat i)), (.ref nr)])) rfl rfl (hb hby d9_296) _ ?_
  show Steps p.tables e below (T4.setTop (mkF m 297 #[.val (.ref a0), .val (.int p1), .val (.long q2), .second, .val (.ref va), .val (.long ls), .second, .val (.long gr), .second, .val (.long rg), .second, .val (.int fa), .val (.long mo), .second, .val (.int (Int32.ofNat i))] [(.long (zs.getD i 0)), (.int (Int32.ofNat i)), (.ref nr)])) _
  refine XS.aloadN X4.here hx rfl (hb hby d9_297) rfl rfl ?_
  show Steps p.tables e below (T4.setTop (mkF m 298 #[.val (.ref a0), .val (.int p1), .val (.long q2), .second, .val (.ref va), .val (.long ls), .second, .val (.long gr), .second, .val (.long rg), .second, .val (.int fa), .val (.long mo), .second, .val (.int (Int32.ofNat i))] [(.ref a0), (.long (zs.getD i 0)), (.int (Int32.ofNat i)), (.ref nr)])) _
  refine st6 _ ?_
  show Steps p.tables e below (T6.setTop (mkF m 301 #[.val (.ref a0), .val (.int p1), .val (.long q2), .second, .val (.ref va), .val (.long ls), .second, .val (.long gr), .second, .val (.long rg), .second, .val (.int fa), .val (.long mo), .second, .val (.int (Int32.ofNat i))] [(.long bb), (.long (zs.getD i 0)), (.int (Int32.ofNat i)), (.ref nr)])) _
  refine XS.lsub X6.here hx rfl (hb hby d9_301) rfl ?_
  refine XS.l2i X6.here hx rfl (hb hby d9_302) rfl ?_
  refine XS.i2c X6.here hx rfl (hb hby d9_303) rfl ?_
  show Steps p.tables e below (T6.setTop (mkF m 304 #[.val (.ref a0), .val (.int p1), .val (.long q2), .second, .val (.ref va), .val (.long ls), .second, .val (.long gr), .second, .val (.long rg), .second, .val (.int fa), .val (.long mo), .second, .val (.int (Int32.ofNat i))] [(.int ((((zs.getD i 0) - bb).toInt32).toUInt32.toUInt16.toUInt32.toInt32)), (.int (Int32.ofNat i)), (.ref nr)])) _
  refine st7 _ ?_
  show Steps p.tables e below (T7.setTop (mkF m 305 #[.val (.ref a0), .val (.int p1), .val (.long q2), .second, .val (.ref va), .val (.long ls), .second, .val (.long gr), .second, .val (.long rg), .second, .val (.int fa), .val (.long mo), .second, .val (.int (Int32.ofNat i))] [])) _
  refine XS.goto X7.here hx rfl (pc0 := 305) (pc' := 321) rfl (hb hby d9_305) (by decide) (by decide) ?_
  show Steps p.tables e below (T7.setTop (mkF m 321 #[.val (.ref a0), .val (.int p1), .val (.long q2), .second, .val (.ref va), .val (.long ls), .second, .val (.long gr), .second, .val (.long rg), .second, .val (.int fa), .val (.long mo), .second, .val (.int (Int32.ofNat i))] [])) _
  refine XS.iinc X7.here hx rfl (hb hby d9_321) rfl (l' := #[.val (.ref a0), .val (.int p1), .val (.long q2), .second, .val (.ref va), .val (.long ls), .second, .val (.long gr), .second, .val (.long rg), .second, .val (.int fa), .val (.long mo), .second, .val (.int ((Int32.ofNat i) + (1 : Int32)))]) rfl ?_
  refine XS.goto X7.here hx rfl (pc0 := 324) (pc' := 240) rfl (hb hby d9_324) (by decide) (by decide) ?_
  show Steps p.tables e below (T7.setTop (mkF m 240 #[.val (.ref a0), .val (.int p1), .val (.long q2), .second, .val (.ref va), .val (.long ls), .second, .val (.long gr), .second, .val (.long rg), .second, .val (.int fa), .val (.long mo), .second, .val (.int ((Int32.ofNat i) + (1 : Int32)))] [])) _
  exact kt
set_option maxRecDepth 65536 in
set_option maxHeartbeats 40000000 in
theorem tu2 {p : Program} {l : Launch} {e : Env} {s : State} {m : MethodId} {args : Array Value} {below : List Frame} {meth : Method} {c : Code} {T0 : State} {locs : List Loc} {cells slots : Nat} {Z : State} {A0 : Array Value} {h0 : Heap} {n0 : Nat} (a0 : Addr) (p1 : Int32) (q2 : Int64) (va : Addr) (ls gr rg mo : Int64) (fa : Int32) (i : Nat) (nn : Int32) (kv : ClassId) (zs : List Int64) (X0 : Stand p l e ({ frames := 1, cells := 2, slots := 16, locals := 40 } : Room) s m args below meth c T0 locs cells slots) (hx : p.tables.exec = Jvm.exec) (hZ : Z.Warmed39 s.vm) (hw : ∀ d ∈ tables_1, d.before A0 Z = true) (hby : c.code = prog_257_method_15_code) (hml : c.maxLocals = 15) (hown : s.vm.findClass "com/example/wadjet/wadjet/storage/IntegerChunk" = some m.cls) (e0 : T0.heap = h0) (N0 : Fr n0 locs) (Z0 : n0 ≤ h0.size) (V_va : Arv Z h0 va kv .long nn (zs.map Value.long) (.long (0 : Int64))) (hq : ¬ ((Int32.ofNat i) < nn)) :
    ∃ (T' : State), Stand p l e ({ frames := 1, cells := 2, slots := 16, locals := 40 } : Room) s m args below meth c T' locs cells slots ∧ T'.heap = h0 ∧
      ∀ target, Steps p.tables e below (T'.setTop (mkF m 327 #[.val (.ref a0), .val (.int p1), .val (.long q2), .second, .val (.ref va), .val (.long ls), .second, .val (.long gr), .second, .val (.long rg), .second, .val (.int fa), .val (.long mo), .second, .val (.int (Int32.ofNat i))] [])) target → Steps p.tables e below (T0.setTop (mkF m 240 #[.val (.ref a0), .val (.int p1), .val (.long q2), .second, .val (.ref va), .val (.long ls), .second, .val (.long gr), .second, .val (.long rg), .second, .val (.int fa), .val (.long mo), .second, .val (.int (Int32.ofNat i))] [])) target := by
  have K0 : Keep h0 h0 [] := Keep.refl _ _
  obtain ⟨cl1, Ar1, -, SS1, MM1, -, -⟩ := id V_va
  refine ⟨T0, X0, e0, fun target kt => ?_⟩
  show Steps p.tables e below (T0.setTop (mkF m 240 #[.val (.ref a0), .val (.int p1), .val (.long q2), .second, .val (.ref va), .val (.long ls), .second, .val (.long gr), .second, .val (.long rg), .second, .val (.int fa), .val (.long mo), .second, .val (.int (Int32.ofNat i))] [])) _
  refine XS.iload X0.here hx rfl (hb hby d9_240) rfl ?_
  refine XS.aload X0.here hx rfl (hb hby d9_242) rfl rfl ?_
  refine X0.arraylength hx (by rw [e0]; exact Ar1.1) (State.isArrayOf_alike hZ.alike Ar1.2.1) (g := (mkF m 244 #[.val (.ref a0), .val (.int p1), .val (.long q2), .second, .val (.ref va), .val (.long ls), .second, .val (.long gr), .second, .val (.long rg), .second, .val (.int fa), .val (.long mo), .second, .val (.int (Int32.ofNat i))] [(.ref va), (.int (Int32.ofNat i))])) rfl rfl (hb hby d9_244) _ ?_
  rw [len_of SS1 MM1]
  show Steps p.tables e below (T0.setTop (mkF m 245 #[.val (.ref a0), .val (.int p1), .val (.long q2), .second, .val (.ref va), .val (.long ls), .second, .val (.long gr), .second, .val (.long rg), .second, .val (.int fa), .val (.long mo), .second, .val (.int (Int32.ofNat i))] [(.int nn), (.int (Int32.ofNat i))])) _
  refine XS.icmpYes X0.here hx rfl (pc0 := 245) (pc' := 327) rfl (hb hby d9_245) rfl (flt (hq : ¬ ((Int32.ofNat i) < nn))).2.1 (by decide) (by decide) ?_
  show Steps p.tables e below (T0.setTop (mkF m 327 #[.val (.ref a0), .val (.int p1), .val (.long q2), .second, .val (.ref va), .val (.long ls), .second, .val (.long gr), .second, .val (.long rg), .second, .val (.int fa), .val (.long mo), .second, .val (.int (Int32.ofNat i))] [])) _
  exact kt
set_option maxHeartbeats 4000000 in
theorem lq2 {p : Program} {l : Launch} {e : Env} {s : State} {m : MethodId} {args : Array Value} {below : List Frame} {meth : Method} {c : Code} {Z : State} {A0 : Array Value} {n0 : Nat} (a0 : Addr) (p1 : Int32) (q2 : Int64) (va : Addr) (ls gr rg mo : Int64) (fa : Int32) (u_based : Value) (u_narrow : Value) (u_wide : Value) (u_nulls : Value) (bb : Int64) (nr : Addr) (kn : ClassId) (nn : Int32) (kv : ClassId) (zs : List Int64) (hx : p.tables.exec = Jvm.exec) (hZ : Z.Warmed39 s.vm) (hw : ∀ d ∈ tables_1, d.before A0 Z = true) (hby : c.code = prog_257_method_15_code) (hml : c.maxLocals = 15) (hown : s.vm.findClass "com/example/wadjet/wadjet/storage/IntegerChunk" = some m.cls) (g_nr : n0 ≤ nr) (ne_a0_nr : a0 ≠ nr) (ne_va_nr : va ≠ nr) (hn : nn.toInt ≤ 8) : ∀ (t i : Nat) (wl : List Int32) {T0 : State} {locs : List Loc} {cells slots : Nat} {h0 : Heap} (X0 : Stand p l e ({ frames := 1, cells := 2, slots := 16, locals := 40 } : Room) s m args below meth c T0 locs cells slots) (e0 : T0.heap = h0) (N0 : Fr n0 locs) (Z0 : n0 ≤ h0.size) (E_a0 : Exa Z h0 a0 "com/example/wadjet/wadjet/storage/IntegerChunk") (F_width_a0 : Fld Z h0 a0 "com/example/wadjet/wadjet/storage/IntegerChunk" "width" "I" (.int (2 : Int32))) (F_base_a0 : Fld Z h0 a0 "com/example/wadjet/wadjet/storage/IntegerChunk" "base" "J" (.long bb)) (F_based_a0 : Fld Z h0 a0 "com/example/wadjet/wadjet/storage/IntegerChunk" "based" "Z" u_based) (F_narrow_a0 : Fld Z h0 a0 "com/example/wadjet/wadjet/storage/IntegerChunk" "narrow" "[B" u_narrow) (F_middle_a0 : Fld Z h0 a0 "com/example/wadjet/wadjet/storage/IntegerChunk" "middle" "[C" (.ref nr)) (F_wide_a0 : Fld Z h0 a0 "com/example/wadjet/wadjet/storage/IntegerChunk" "wide" "[I" u_wide) (F_nulls_a0 : Fld Z h0 a0 "com/example/wadjet/wadjet/storage/IntegerChunk" "nulls" "[J" u_nulls) (V_nr : Arv Z h0 nr kn .char nn (wl.map Value.int) (.int (0 : Int32))) (V_va : Arv Z h0 va kv .long nn (zs.map Value.long) (.long (0 : Int64))) (hit : (i : Int) + (t : Int) = nn.toInt) (hy : wl.length = nn.toNatClampNeg),
    ∃ (T' : State) (h' : Heap) (locs' : List Loc), Stand p l e ({ frames := 1, cells := 2, slots := 16, locals := 40 } : Room) s m args below meth c T' locs' cells slots ∧ T'.heap = h' ∧ Fr n0 locs' ∧ Keep h0 h' [nr] ∧ Exa Z h' a0 "com/example/wadjet/wadjet/storage/IntegerChunk" ∧ Fld Z h' a0 "com/example/wadjet/wadjet/storage/IntegerChunk" "width" "I" (.int (2 : Int32)) ∧ Fld Z h' a0 "com/example/wadjet/wadjet/storage/IntegerChunk" "base" "J" (.long bb) ∧ Fld Z h' a0 "com/example/wadjet/wadjet/storage/IntegerChunk" "based" "Z" u_based ∧ Fld Z h' a0 "com/example/wadjet/wadjet/storage/IntegerChunk" "narrow" "[B" u_narrow ∧ Fld Z h' a0 "com/example/wadjet/wadjet/storage/IntegerChunk" "middle" "[C" (.ref nr) ∧ Fld Z h' a0 "com/example/wadjet/wadjet/storage/IntegerChunk" "wide" "[I" u_wide ∧ Fld Z h' a0 "com/example/wadjet/wadjet/storage/IntegerChunk" "nulls" "[J" u_nulls ∧ Arv Z h' nr kn .char nn ((own_rw (fun j => own_en2 bb (zs.getD j 0)) t i wl).map Value.int) (.int (0 : Int32)) ∧ Arv Z h' va kv .long nn (zs.map Value.long) (.long (0 : Int64)) ∧
      ∀ target, Steps p.tables e below (T'.setTop (mkF m 327 #[.val (.ref a0), .val (.int p1), .val (.long q2), .second, .val (.ref va), .val (.long ls), .second, .val (.long gr), .second, .val (.long rg), .second, .val (.int fa), .val (.long mo), .second, .val (.int (Int32.ofNat (i + t)))] [])) target → Steps p.tables e below (T0.setTop (mkF m 240 #[.val (.ref a0), .val (.int p1), .val (.long q2), .second, .val (.ref va), .val (.long ls), .second, .val (.long gr), .second, .val (.long rg), .second, .val (.int fa), .val (.long mo), .second, .val (.int (Int32.ofNat i))] [])) target := by
  intro t
  induction t with
  | zero =>
    intro i wl T0 locs cells slots h0 X0 e0 N0 Z0 E_a0 F_width_a0 F_base_a0 F_based_a0 F_narrow_a0 F_middle_a0 F_wide_a0 F_nulls_a0 V_nr V_va hit hy
    obtain ⟨T1, X1, e1, st1⟩ := tu2 a0 p1 q2 va ls gr rg mo fa i nn kv zs X0 hx hZ hw hby hml hown e0 N0 Z0 V_va (own_endN hn hit)
    exact ⟨T1, h0, locs, X1, e1, N0, Keep.refl _ _, E_a0, F_width_a0, F_base_a0, F_based_a0, F_narrow_a0, F_middle_a0, F_wide_a0, F_nulls_a0, V_nr, V_va, st1⟩
  | succ t ih =>
    intro i wl T0 locs cells slots h0 X0 e0 N0 Z0 E_a0 F_width_a0 F_base_a0 F_based_a0 F_narrow_a0 F_middle_a0 F_wide_a0 F_nulls_a0 V_nr V_va hit hy
    have heq : (Int32.ofNat i) + (1 : Int32) = Int32.ofNat (i + 1) := (Int32.ofNat_add i 1).symm
    have hq2 : i + 1 + t = i + (t + 1) := by omega
    obtain ⟨T1, h1, L1, X1, e1, N1, K1, E_a0, F_width_a0, F_base_a0, F_based_a0, F_narrow_a0, F_middle_a0, F_wide_a0, F_nulls_a0, V_nr, V_va, st1⟩ := tv2 a0 p1 q2 va ls gr rg mo fa i u_based u_narrow u_wide u_nulls bb nr kn nn wl kv zs X0 hx hZ hw hby hml hown e0 N0 Z0 E_a0 F_width_a0 F_base_a0 F_based_a0 F_narrow_a0 F_middle_a0 F_wide_a0 F_nulls_a0 V_nr V_va g_nr ne_a0_nr ne_va_nr hn (by omega) hy
    rw [heq] at st1
    obtain ⟨T2, h2, L2, X2, e2, N2, K2, E_a0, F_width_a0, F_base_a0, F_based_a0, F_narrow_a0, F_middle_a0, F_wide_a0, F_nulls_a0, V_nr, V_va, st2⟩ := ih (i + 1) (wl.set i (own_en2 bb (zs.getD i 0))) X1 e1 N1 (Nat.le_trans Z0 K1.1) E_a0 F_width_a0 F_base_a0 F_based_a0 F_narrow_a0 F_middle_a0 F_wide_a0 F_nulls_a0 V_nr V_va (by omega) (by rw [List.length_set]; exact hy)
    rw [hq2] at st2
    exact ⟨T2, h2, L2, X2, e2, N2, K1.trans K2 (allS (Or.inl (by simp)) all0), E_a0, F_width_a0, F_base_a0, F_based_a0, F_narrow_a0, F_middle_a0, F_wide_a0, F_nulls_a0, V_nr, V_va, fun tt kt => st1 tt (st2 tt kt)⟩
theorem d9_308 : decode prog_257_method_15_code 308 = .ok (.aload_n 0, 1) := by decide +kernel
theorem d9_309 : decode prog_257_method_15_code 309 = .ok (.getfield 43, 3) := by decide +kernel
theorem d9_312 : decode prog_257_method_15_code 312 = .ok (.iload 14, 2) := by decide +kernel
theorem d9_314 : decode prog_257_method_15_code 314 = .ok (.aload 4, 2) := by decide +kernel
theorem d9_316 : decode prog_257_method_15_code 316 = .ok (.iload 14, 2) := by decide +kernel
theorem d9_318 : decode prog_257_method_15_code 318 = .ok (.laload, 1) := by decide +kernel
theorem d9_319 : decode prog_257_method_15_code 319 = .ok (.l2i, 1) := by decide +kernel
theorem d9_320 : decode prog_257_method_15_code 320 = .ok (.iastore, 1) := by decide +kernel
set_option maxRecDepth 65536 in
set_option maxHeartbeats 40000000 in
theorem tv4 {p : Program} {l : Launch} {e : Env} {s : State} {m : MethodId} {args : Array Value} {below : List Frame} {meth : Method} {c : Code} {T0 : State} {locs : List Loc} {cells slots : Nat} {Z : State} {A0 : Array Value} {h0 : Heap} {n0 : Nat} (a0 : Addr) (p1 : Int32) (q2 : Int64) (va : Addr) (ls gr rg mo : Int64) (fa : Int32) (i : Nat) (u_based : Value) (u_narrow : Value) (u_middle : Value) (u_nulls : Value) (bb : Int64) (nr : Addr) (kn : ClassId) (nn : Int32) (ys : List Int32) (kv : ClassId) (zs : List Int64) (X0 : Stand p l e ({ frames := 1, cells := 2, slots := 16, locals := 40 } : Room) s m args below meth c T0 locs cells slots) (hx : p.tables.exec = Jvm.exec) (hZ : Z.Warmed39 s.vm) (hw : ∀ d ∈ tables_1, d.before A0 Z = true) (hby : c.code = prog_257_method_15_code) (hml : c.maxLocals = 15) (hown : s.vm.findClass "com/example/wadjet/wadjet/storage/IntegerChunk" = some m.cls) (e0 : T0.heap = h0) (N0 : Fr n0 locs) (Z0 : n0 ≤ h0.size) (E_a0 : Exa Z h0 a0 "com/example/wadjet/wadjet/storage/IntegerChunk") (F_width_a0 : Fld Z h0 a0 "com/example/wadjet/wadjet/storage/IntegerChunk" "width" "I" (.int (4 : Int32))) (F_base_a0 : Fld Z h0 a0 "com/example/wadjet/wadjet/storage/IntegerChunk" "base" "J" (.long bb)) (F_based_a0 : Fld Z h0 a0 "com/example/wadjet/wadjet/storage/IntegerChunk" "based" "Z" u_based) (F_narrow_a0 : Fld Z h0 a0 "com/example/wadjet/wadjet/storage/IntegerChunk" "narrow" "[B" u_narrow) (F_middle_a0 : Fld Z h0 a0 "com/example/wadjet/wadjet/storage/IntegerChunk" "middle" "[C" u_middle) (F_wide_a0 : Fld Z h0 a0 "com/example/wadjet/wadjet/storage/IntegerChunk" "wide" "[I" (.ref nr)) (F_nulls_a0 : Fld Z h0 a0 "com/example/wadjet/wadjet/storage/IntegerChunk" "nulls" "[J" u_nulls) (V_nr : Arv Z h0 nr kn .int nn (ys.map Value.int) (.int (0 : Int32))) (V_va : Arv Z h0 va kv .long nn (zs.map Value.long) (.long (0 : Int64))) (g_nr : n0 ≤ nr) (ne_a0_nr : a0 ≠ nr) (ne_va_nr : va ≠ nr) (hn : nn.toInt ≤ 8) (hi : (i : Int) < nn.toInt) (hy : ys.length = nn.toNatClampNeg) :
    ∃ (T' : State) (h' : Heap) (locs' : List Loc), Stand p l e ({ frames := 1, cells := 2, slots := 16, locals := 40 } : Room) s m args below meth c T' locs' cells slots ∧ T'.heap = h' ∧ Fr n0 locs' ∧ Keep h0 h' [nr] ∧ Exa Z h' a0 "com/example/wadjet/wadjet/storage/IntegerChunk" ∧ Fld Z h' a0 "com/example/wadjet/wadjet/storage/IntegerChunk" "width" "I" (.int (4 : Int32)) ∧ Fld Z h' a0 "com/example/wadjet/wadjet/storage/IntegerChunk" "base" "J" (.long bb) ∧ Fld Z h' a0 "com/example/wadjet/wadjet/storage/IntegerChunk" "based" "Z" u_based ∧ Fld Z h' a0 "com/example/wadjet/wadjet/storage/IntegerChunk" "narrow" "[B" u_narrow ∧ Fld Z h' a0 "com/example/wadjet/wadjet/storage/IntegerChunk" "middle" "[C" u_middle ∧ Fld Z h' a0 "com/example/wadjet/wadjet/storage/IntegerChunk" "wide" "[I" (.ref nr) ∧ Fld Z h' a0 "com/example/wadjet/wadjet/storage/IntegerChunk" "nulls" "[J" u_nulls ∧ Arv Z h' nr kn .int nn ((ys.set i (own_en4 bb (zs.getD i 0))).map Value.int) (.int (0 : Int32)) ∧ Arv Z h' va kv .long nn (zs.map Value.long) (.long (0 : Int64)) ∧ 
      ∀ target, Steps p.tables e below (T'.setTop (mkF m 240 #[.val (.ref a0), .val (.int p1), .val (.long q2), .second, .val (.ref va), .val (.long ls), .second, .val (.long gr), .second, .val (.long rg), .second, .val (.int fa), .val (.long mo), .second, .val (.int ((Int32.ofNat i) + (1 : Int32)))] [])) target → Steps p.tables e below (T0.setTop (mkF m 240 #[.val (.ref a0), .val (.int p1), .val (.long q2), .second, .val (.ref va), .val (.long ls), .second, .val (.long gr), .second, .val (.long rg), .second, .val (.int fa), .val (.long mo), .second, .val (.int (Int32.ofNat i))] [])) target := by
  have K0 : Keep h0 h0 [nr] := Keep.refl _ _
  obtain ⟨cl1, Ar1, -, SS1, MM1, -, -⟩ := id V_va
  obtain ⟨T2, X2, e2, st2⟩ := getF X0 hx hZ hown (host := "") (Or.inl (hw _ (List.mem_of_getElem? (i := 14) rfl))) Via.refl e0 F_width_a0 (g := (mkF m 249 #[.val (.ref a0), .val (.int p1), .val (.long q2), .second, .val (.ref va), .val (.long ls), .second, .val (.long gr), .second, .val (.long rg), .second, .val (.int fa), .val (.long mo), .second, .val (.int (Int32.ofNat i))] [(.ref a0)])) rfl rfl (hb hby d9_249)
  obtain ⟨T3, X3, e3, st3⟩ := getF X2 hx hZ hown (host := "") (Or.inl (hw _ (List.mem_of_getElem? (i := 14) rfl))) Via.refl e2 F_width_a0 (g := (mkF m 279 #[.val (.ref a0), .val (.int p1), .val (.long q2), .second, .val (.ref va), .val (.long ls), .second, .val (.long gr), .second, .val (.long rg), .second, .val (.int fa), .val (.long mo), .second, .val (.int (Int32.ofNat i))] [(.ref a0)])) rfl rfl (hb hby d9_279)
  obtain ⟨T4, X4, e4, st4⟩ := getF X3 hx hZ hown (host := "") (Or.inl (hw _ (List.mem_of_getElem? (i := 62) rfl))) Via.refl e3 F_wide_a0 (g := (mkF m 309 #[.val (.ref a0), .val (.int p1), .val (.long q2), .second, .val (.ref va), .val (.long ls), .second, .val (.long gr), .second, .val (.long rg), .second, .val (.int fa), .val (.long mo), .second, .val (.int (Int32.ofNat i))] [(.ref a0)])) rfl rfl (hb hby d9_309)
  obtain ⟨cl5, Ar5, -, SS5, MM5, HH5, -⟩ := id V_va
  have hin5 := inb_of SS5 (own_inN hn hi)
  have hat5 : cl5.slots[((Int32.ofNat i)).toNatClampNeg]? = some (.long (zs.getD i 0)) := HH5.at hin5 (own_zi (by omega))
  obtain ⟨cl6, Ar6, qq6, SS6, MM6, HH6, GG6⟩ := id V_nr
  have hin6 := inb_of SS6 (own_inN hn hi)
  obtain ⟨T6, h6, X6, e6, W6, st6⟩ := stI X4 hx hZ e4 Ar6 (j := (Int32.ofNat i)) hin6 (g := (mkF m 320 #[.val (.ref a0), .val (.int p1), .val (.long q2), .second, .val (.ref va), .val (.long ls), .second, .val (.long gr), .second, .val (.long rg), .second, .val (.int fa), .val (.long mo), .second, .val (.int (Int32.ofNat i))] [(.int ((zs.getD i 0).toInt32)), (.int (Int32.ofNat i)), (.ref nr)])) rfl rfl (hb hby d9_320)
  have V_nr : Arv Z h6 nr kn .int nn ((ys.set i (own_en4 bb (zs.getD i 0))).map Value.int) (.int (0 : Int32)) := by rw [List.map_set]; exact Arv.set Ar6 qq6 SS6 MM6 HH6 GG6 rfl W6 i (own_idx (by omega)) (by rw [List.length_map, hy, own_tn]; omega)
  have E_a0 : Exa Z h6 a0 "com/example/wadjet/wadjet/storage/IntegerChunk" := E_a0.wr W6
  have F_width_a0 : Fld Z h6 a0 "com/example/wadjet/wadjet/storage/IntegerChunk" "width" "I" (.int (4 : Int32)) := F_width_a0.other W6 (Or.inl ne_a0_nr)
  have F_base_a0 : Fld Z h6 a0 "com/example/wadjet/wadjet/storage/IntegerChunk" "base" "J" (.long bb) := F_base_a0.other W6 (Or.inl ne_a0_nr)
  have F_based_a0 : Fld Z h6 a0 "com/example/wadjet/wadjet/storage/IntegerChunk" "based" "Z" u_based := F_based_a0.other W6 (Or.inl ne_a0_nr)
  have F_narrow_a0 : Fld Z h6 a0 "com/example/wadjet/wadjet/storage/IntegerChunk" "narrow" "[B" u_narrow := F_narrow_a0.other W6 (Or.inl ne_a0_nr)
  have F_middle_a0 : Fld Z h6 a0 "com/example/wadjet/wadjet/storage/IntegerChunk" "middle" "[C" u_middle := F_middle_a0.other W6 (Or.inl ne_a0_nr)
  have F_wide_a0 : Fld Z h6 a0 "com/example/wadjet/wadjet/storage/IntegerChunk" "wide" "[I" (.ref nr) := F_wide_a0.other W6 (Or.inl ne_a0_nr)
  have F_nulls_a0 : Fld Z h6 a0 "com/example/wadjet/wadjet/storage/IntegerChunk" "nulls" "[J" u_nulls := F_nulls_a0.other W6 (Or.inl ne_a0_nr)
  have V_va : Arv Z h6 va kv .long nn (zs.map Value.long) (.long (0 : Int64)) := V_va.other W6 ne_va_nr
  have Zh6 : n0 ≤ h6.size := Nat.le_trans Z0 (Keep.of_wr W6).1
  have Kh6 : Keep h0 h6 [nr] := K0.wr W6 (Or.inl (by simp))
  have N6 := Fr.snoc X6 N0 g_nr
  refine ⟨T6, _, _, X6, e6, N6, Kh6, E_a0, F_width_a0, F_base_a0, F_based_a0, F_narrow_a0, F_middle_a0, F_wide_a0, F_nulls_a0, V_nr, V_va, fun target kt => ?_⟩
  show Steps p.tables e below (T0.setTop (mkF m 240 #[.val (.ref a0), .val (.int p1), .val (.long q2), .second, .val (.ref va), .val (.long ls), .second, .val (.long gr), .second, .val (.long rg), .second, .val (.int fa), .val (.long mo), .second, .val (.int (Int32.ofNat i))] [])) _
  refine XS.iload X0.here hx rfl (hb hby d9_240) rfl ?_
  refine XS.aload X0.here hx rfl (hb hby d9_242) rfl rfl ?_
  refine X0.arraylength hx (by rw [e0]; exact Ar1.1) (State.isArrayOf_alike hZ.alike Ar1.2.1) (g := (mkF m 244 #[.val (.ref a0), .val (.int p1), .val (.long q2), .second, .val (.ref va), .val (.long ls), .second, .val (.long gr), .second, .val (.long rg), .second, .val (.int fa), .val (.long mo), .second, .val (.int (Int32.ofNat i))] [(.ref va), (.int (Int32.ofNat i))])) rfl rfl (hb hby d9_244) _ ?_
  rw [len_of SS1 MM1]
  show Steps p.tables e below (T0.setTop (mkF m 245 #[.val (.ref a0), .val (.int p1), .val (.long q2), .second, .val (.ref va), .val (.long ls), .second, .val (.long gr), .second, .val (.long rg), .second, .val (.int fa), .val (.long mo), .second, .val (.int (Int32.ofNat i))] [(.int nn), (.int (Int32.ofNat i))])) _
  refine XS.icmpNo X0.here hx rfl (hb hby d9_245) rfl (tlt ((own_inN hn hi).2 : (Int32.ofNat i) < nn)).2.1 ?_
  refine XS.aloadN X0.here hx rfl (hb hby d9_248) rfl rfl ?_
  refine st2 _ ?_
  show Steps p.tables e below (T2.setTop (mkF m 252 #[.val (.ref a0), .val (.int p1), .val (.long q2), .second, .val (.ref va), .val (.long ls), .second, .val (.long gr), .second, .val (.long rg), .second, .val (.int fa), .val (.long mo), .second, .val (.int (Int32.ofNat i))] [(.int (4 : Int32))])) _
  refine XS.iconst X2.here hx rfl (hb hby d9_252) ?_
  show Steps p.tables e below (T2.setTop (mkF m 253 #[.val (.ref a0), .val (.int p1), .val (.long q2), .second, .val (.ref va), .val (.long ls), .second, .val (.long gr), .second, .val (.long rg), .second, .val (.int fa), .val (.long mo), .second, .val (.int (Int32.ofNat i))] [(.int (1 : Int32)), (.int (4 : Int32))])) _
  refine XS.icmpYes X2.here hx rfl (pc0 := 253) (pc' := 278) rfl (hb hby d9_253) rfl (feq (by decide : ¬ ((4 : Int32) = (1 : Int32)))).2 (by decide) (by decide) ?_
  show Steps p.tables e below (T2.setTop (mkF m 278 #[.val (.ref a0), .val (.int p1), .val (.long q2), .second, .val (.ref va), .val (.long ls), .second, .val (.long gr), .second, .val (.long rg), .second, .val (.int fa), .val (.long mo), .second, .val (.int (Int32.ofNat i))] [])) _
  refine XS.aloadN X2.here hx rfl (hb hby d9_278) rfl rfl ?_
  refine st3 _ ?_
  show Steps p.tables e below (T3.setTop (mkF m 282 #[.val (.ref a0), .val (.int p1), .val (.long q2), .second, .val (.ref va), .val (.long ls), .second, .val (.long gr), .second, .val (.long rg), .second, .val (.int fa), .val (.long mo), .second, .val (.int (Int32.ofNat i))] [(.int (4 : Int32))])) _
  refine XS.iconst X3.here hx rfl (hb hby d9_282) ?_
  show Steps p.tables e below (T3.setTop (mkF m 283 #[.val (.ref a0), .val (.int p1), .val (.long q2), .second, .val (.ref va), .val (.long ls), .second, .val (.long gr), .second, .val (.long rg), .second, .val (.int fa), .val (.long mo), .second, .val (.int (Int32.ofNat i))] [(.int (2 : Int32)), (.int (4 : Int32))])) _
  refine XS.icmpYes X3.here hx rfl (pc0 := 283) (pc' := 308) rfl (hb hby d9_283) rfl (feq (by decide : ¬ ((4 : Int32) = (2 : Int32)))).2 (by decide) (by decide) ?_
  show Steps p.tables e below (T3.setTop (mkF m 308 #[.val (.ref a0), .val (.int p1), .val (.long q2), .second, .val (.ref va), .val (.long ls), .second, .val (.long gr), .second, .val (.long rg), .second, .val (.int fa), .val (.long mo), .second, .val (.int (Int32.ofNat i))] [])) _
  refine XS.aloadN X3.here hx rfl (hb hby d9_308) rfl rfl ?_
  refine st4 _ ?_
  show Steps p.tables e below (T4.setTop (mkF m 312 #[.val (.ref a0), .val (.int p1), .val (.long q2), .second, .val (.ref va), .val (.long ls), .second, .val (.long gr), .second, .val (.long rg), .second, .val (.int fa), .val (.long mo), .second, .val (.int (Int32.ofNat i))] [(.ref nr)])) _
  refine XS.iload X4.here hx rfl (hb hby d9_312) rfl ?_
  show Steps p.tables e below (T4.setTop (mkF m 314 #[.val (.ref a0), .val (.int p1), .val (.long q2), .second, .val (.ref va), .val (.long ls), .second, .val (.long gr), .second, .val (.long rg), .second, .val (.int fa), .val (.long mo), .second, .val (.int (Int32.ofNat i))] [(.int (Int32.ofNat i)), (.ref nr)])) _
  refine XS.aload X4.here hx rfl (hb hby d9_314) rfl rfl ?_
  refine XS.iload X4.here hx rfl (hb hby d9_316) rfl ?_
  refine X4.laload hx (j := (Int32.ofNat i)) (v := (.long (zs.getD i 0))) (by rw [e4]; exact Ar5.1) (State.isArrayOf_alike hZ.alike Ar5.2.1) Ar5.2.2 hin5 hat5 (g := (mkF m 318 #[.val (.ref a0), .val (.int p1), .val (.long q2), .second, .val (.ref va), .val (.long ls), .second, .val (.long gr), .second, .val (.long rg), .second, .val (.int fa), .val (.long mo), .second, .val (.int (Int32.ofNat i))] [(.int (Int32.ofNat i)), (.ref va), (.int (Int32.ofNat i)), (.ref nr)])) rfl rfl (hb hby d9_318) _ ?_
  show Steps p.tables e below (T4.setTop (mkF m 319 #[.val (.ref a0), .val (.int p1), .val (.long q2), .second, .val (.ref va), .val (.long ls), .second, .val (.long gr), .second, .val (.long rg), .second, .val (.int fa), .val (.long mo), .second, .val (.int (Int32.ofNat i))] [(.long (zs.getD i 0)), (.int (Int32.ofNat i)), (.ref nr)])) _
  refine XS.l2i X4.here hx rfl (hb hby d9_319) rfl ?_
  show Steps p.tables e below (T4.setTop (mkF m 320 #[.val (.ref a0), .val (.int p1), .val (.long q2), .second, .val (.ref va), .val (.long ls), .second, .val (.long gr), .second, .val (.long rg), .second, .val (.int fa), .val (.long mo), .second, .val (.int (Int32.ofNat i))] [(.int ((zs.getD i 0).toInt32)), (.int (Int32.ofNat i)), (.ref nr)])) _
  refine st6 _ ?_
  show Steps p.tables e below (T6.setTop (mkF m 321 #[.val (.ref a0), .val (.int p1), .val (.long q2), .second, .val (.ref va), .val (.long ls), .second, .val (.long gr), .second, .val (.long rg), .second, .val (.int fa), .val (.long mo), .second, .val (.int (Int32.ofNat i))] [])) _
  refine XS.iinc X6.here hx rfl (hb hby d9_321) rfl (l' := #[.val (.ref a0), .val (.int p1), .val (.long q2), .second, .val (.ref va), .val (.long ls), .second, .val (.long gr), .second, .val (.long rg), .second, .val (.int fa), .val (.long mo), .second, .val (.int ((Int32.ofNat i) + (1 : Int32)))]) rfl ?_
  refine XS.goto X6.here hx rfl (pc0 := 324) (pc' := 240) rfl (hb hby d9_324) (by decide) (by decide) ?_
  show Steps p.tables e below (T6.setTop (mkF m 240 #[.val (.ref a0), .val (.int p1), .val (.long q2), .second, .val (.ref va), .val (.long ls), .second, .val (.long gr), .second, .val (.long rg), .second, .val (.int fa), .val (.long mo), .second, .val (.int ((Int32.ofNat i) + (1 : Int32)))] [])) _
  exact kt
set_option maxRecDepth 65536 in
set_option maxHeartbeats 40000000 in
theorem tu4 {p : Program} {l : Launch} {e : Env} {s : State} {m : MethodId} {args : Array Value} {below : List Frame} {meth : Method} {c : Code} {T0 : State} {locs : List Loc} {cells slots : Nat} {Z : State} {A0 : Array Value} {h0 : Heap} {n0 : Nat} (a0 : Addr) (p1 : Int32) (q2 : Int64) (va : Addr) (ls gr rg mo : Int64) (fa : Int32) (i : Nat) (nn : Int32) (kv : ClassId) (zs : List Int64) (X0 : Stand p l e ({ frames := 1, cells := 2, slots := 16, locals := 40 } : Room) s m args below meth c T0 locs cells slots) (hx : p.tables.exec = Jvm.exec) (hZ : Z.Warmed39 s.vm) (hw : ∀ d ∈ tables_1, d.before A0 Z = true) (hby : c.code = prog_257_method_15_code) (hml : c.maxLocals = 15) (hown : s.vm.findClass "com/example/wadjet/wadjet/storage/IntegerChunk" = some m.cls) (e0 : T0.heap = h0) (N0 : Fr n0 locs) (Z0 : n0 ≤ h0.size) (V_va : Arv Z h0 va kv .long nn (zs.map Value.long) (.long (0 : Int64))) (hq : ¬ ((Int32.ofNat i) < nn)) :
    ∃ (T' : State), Stand p l e ({ frames := 1, cells := 2, slots := 16, locals := 40 } : Room) s m args below meth c T' locs cells slots ∧ T'.heap = h0 ∧
      ∀ target, Steps p.tables e below (T'.setTop (mkF m 327 #[.val (.ref a0), .val (.int p1), .val (.long q2), .second, .val (.ref va), .val (.long ls), .second, .val (.long gr), .second, .val (.long rg), .second, .val (.int fa), .val (.long mo), .second, .val (.int (Int32.ofNat i))] [])) target → Steps p.tables e below (T0.setTop (mkF m 240 #[.val (.ref a0), .val (.int p1), .val (.long q2), .second, .val (.ref va), .val (.long ls), .second, .val (.long gr), .second, .val (.long rg), .second, .val (.int fa), .val (.long mo), .second, .val (.int (Int32.ofNat i))] [])) target := by
  have K0 : Keep h0 h0 [] := Keep.refl _ _
  obtain ⟨cl1, Ar1, -, SS1, MM1, -, -⟩ := id V_va
  refine ⟨T0, X0, e0, fun target kt => ?_⟩
  show Steps p.tables e below (T0.setTop (mkF m 240 #[.val (.ref a0), .val (.int p1), .val (.long q2), .second, .val (.ref va), .val (.long ls), .second, .val (.long gr), .second, .val (.long rg), .second, .val (.int fa), .val (.long mo), .second, .val (.int (Int32.ofNat i))] [])) _
  refine XS.iload X0.here hx rfl (hb hby d9_240) rfl ?_
  refine XS.aload X0.here hx rfl (hb hby d9_242) rfl rfl ?_
  refine X0.arraylength hx (by rw [e0]; exact Ar1.1) (State.isArrayOf_alike hZ.alike Ar1.2.1) (g := (mkF m 244 #[.val (.ref a0), .val (.int p1), .val (.long q2), .second, .val (.ref va), .val (.long ls), .second, .val (.long gr), .second, .val (.long rg), .second, .val (.int fa), .val (.long mo), .second, .val (.int (Int32.ofNat i))] [(.ref va), (.int (Int32.ofNat i))])) rfl rfl (hb hby d9_244) _ ?_
  rw [len_of SS1 MM1]
  show Steps p.tables e below (T0.setTop (mkF m 245 #[.val (.ref a0), .val (.int p1), .val (.long q2), .second, .val (.ref va), .val (.long ls), .second, .val (.long gr), .second, .val (.long rg), .second, .val (.int fa), .val (.long mo), .second, .val (.int (Int32.ofNat i))] [(.int nn), (.int (Int32.ofNat i))])) _
  refine XS.icmpYes X0.here hx rfl (pc0 := 245) (pc' := 327) rfl (hb hby d9_245) rfl (flt (hq : ¬ ((Int32.ofNat i) < nn))).2.1 (by decide) (by decide) ?_
  show Steps p.tables e below (T0.setTop (mkF m 327 #[.val (.ref a0), .val (.int p1), .val (.long q2), .second, .val (.ref va), .val (.long ls), .second, .val (.long gr), .second, .val (.long rg), .second, .val (.int fa), .val (.long mo), .second, .val (.int (Int32.ofNat i))] [])) _
  exact kt
set_option maxHeartbeats 4000000 in
theorem lq4 {p : Program} {l : Launch} {e : Env} {s : State} {m : MethodId} {args : Array Value} {below : List Frame} {meth : Method} {c : Code} {Z : State} {A0 : Array Value} {n0 : Nat} (a0 : Addr) (p1 : Int32) (q2 : Int64) (va : Addr) (ls gr rg mo : Int64) (fa : Int32) (u_based : Value) (u_narrow : Value) (u_middle : Value) (u_nulls : Value) (bb : Int64) (nr : Addr) (kn : ClassId) (nn : Int32) (kv : ClassId) (zs : List Int64) (hx : p.tables.exec = Jvm.exec) (hZ : Z.Warmed39 s.vm) (hw : ∀ d ∈ tables_1, d.before A0 Z = true) (hby : c.code = prog_257_method_15_code) (hml : c.maxLocals = 15) (hown : s.vm.findClass "com/example/wadjet/wadjet/storage/IntegerChunk" = some m.cls) (g_nr : n0 ≤ nr) (ne_a0_nr : a0 ≠ nr) (ne_va_nr : va ≠ nr) (hn : nn.toInt ≤ 8) : ∀ (t i : Nat) (wl : List Int32) {T0 : State} {locs : List Loc} {cells slots : Nat} {h0 : Heap} (X0 : Stand p l e ({ frames := 1, cells := 2, slots := 16, locals := 40 } : Room) s m args below meth c T0 locs cells slots) (e0 : T0.heap = h0) (N0 : Fr n0 locs) (Z0 : n0 ≤ h0.size) (E_a0 : Exa Z h0 a0 "com/example/wadjet/wadjet/storage/IntegerChunk") (F_width_a0 : Fld Z h0 a0 "com/example/wadjet/wadjet/storage/IntegerChunk" "width" "I" (.int (4 : Int32))) (F_base_a0 : Fld Z h0 a0 "com/example/wadjet/wadjet/storage/IntegerChunk" "base" "J" (.long bb)) (F_based_a0 : Fld Z h0 a0 "com/example/wadjet/wadjet/storage/IntegerChunk" "based" "Z" u_based) (F_narrow_a0 : Fld Z h0 a0 "com/example/wadjet/wadjet/storage/IntegerChunk" "narrow" "[B" u_narrow) (F_middle_a0 : Fld Z h0 a0 "com/example/wadjet/wadjet/storage/IntegerChunk" "middle" "[C" u_middle) (F_wide_a0 : Fld Z h0 a0 "com/example/wadjet/wadjet/storage/IntegerChunk" "wide" "[I" (.ref nr)) (F_nulls_a0 : Fld Z h0 a0 "com/example/wadjet/wadjet/storage/IntegerChunk" "nulls" "[J" u_nulls) (V_nr : Arv Z h0 nr kn .int nn (wl.map Value.int) (.int (0 : Int32))) (V_va : Arv Z h0 va kv .long nn (zs.map Value.long) (.long (0 : Int64))) (hit : (i : Int) + (t : Int) = nn.toInt) (hy : wl.length = nn.toNatClampNeg),
    ∃ (T' : State) (h' : Heap) (locs' : List Loc), Stand p l e ({ frames := 1, cells := 2, slots := 16, locals := 40 } : Room) s m args below meth c T' locs' cells slots ∧ T'.heap = h' ∧ Fr n0 locs' ∧ Keep h0 h' [nr] ∧ Exa Z h' a0 "com/example/wadjet/wadjet/storage/IntegerChunk" ∧ Fld Z h' a0 "com/example/wadjet/wadjet/storage/IntegerChunk" "width" "I" (.int (4 : Int32)) ∧ Fld Z h' a0 "com/example/wadjet/wadjet/storage/IntegerChunk" "base" "J" (.long bb) ∧ Fld Z h' a0 "com/example/wadjet/wadjet/storage/IntegerChunk" "based" "Z" u_based ∧ Fld Z h' a0 "com/example/wadjet/wadjet/storage/IntegerChunk" "narrow" "[B" u_narrow ∧ Fld Z h' a0 "com/example/wadjet/wadjet/storage/IntegerChunk" "middle" "[C" u_middle ∧ Fld Z h' a0 "com/example/wadjet/wadjet/storage/IntegerChunk" "wide" "[I" (.ref nr) ∧ Fld Z h' a0 "com/example/wadjet/wadjet/storage/IntegerChunk" "nulls" "[J" u_nulls ∧ Arv Z h' nr kn .int nn ((own_rw (fun j => own_en4 bb (zs.getD j 0)) t i wl).map Value.int) (.int (0 : Int32)) ∧ Arv Z h' va kv .long nn (zs.map Value.long) (.long (0 : Int64)) ∧
      ∀ target, Steps p.tables e below (T'.setTop (mkF m 327 #[.val (.ref a0), .val (.int p1), .val (.long q2), .second, .val (.ref va), .val (.long ls), .second, .val (.long gr), .second, .val (.long rg), .second, .val (.int fa), .val (.long mo), .second, .val (.int (Int32.ofNat (i + t)))] [])) target → Steps p.tables e below (T0.setTop (mkF m 240 #[.val (.ref a0), .val (.int p1), .val (.long q2), .second, .val (.ref va), .val (.long ls), .second, .val (.long gr), .second, .val (.long rg), .second, .val (.int fa), .val (.long mo), .second, .val (.int (Int32.ofNat i))] [])) target := by
  intro t
  induction t with
  | zero =>
    intro i wl T0 locs cells slots h0 X0 e0 N0 Z0 E_a0 F_width_a0 F_base_a0 F_based_a0 F_narrow_a0 F_middle_a0 F_wide_a0 F_nulls_a0 V_nr V_va hit hy
    obtain ⟨T1, X1, e1, st1⟩ := tu4 a0 p1 q2 va ls gr rg mo fa i nn kv zs X0 hx hZ hw hby hml hown e0 N0 Z0 V_va (own_endN hn hit)
    exact ⟨T1, h0, locs, X1, e1, N0, Keep.refl _ _, E_a0, F_width_a0, F_base_a0, F_based_a0, F_narrow_a0, F_middle_a0, F_wide_a0, F_nulls_a0, V_nr, V_va, st1⟩
  | succ t ih =>
    intro i wl T0 locs cells slots h0 X0 e0 N0 Z0 E_a0 F_width_a0 F_base_a0 F_based_a0 F_narrow_a0 F_middle_a0 F_wide_a0 F_nulls_a0 V_nr V_va hit hy
    have heq : (Int32.ofNat i) + (1 : Int32) = Int32.ofNat (i + 1) := (Int32.ofNat_add i 1).symm
    have hq2 : i + 1 + t = i + (t + 1) := by omega
    obtain ⟨T1, h1, L1, X1, e1, N1, K1, E_a0, F_width_a0, F_base_a0, F_based_a0, F_narrow_a0, F_middle_a0, F_wide_a0, F_nulls_a0, V_nr, V_va, st1⟩ := tv4 a0 p1 q2 va ls gr rg mo fa i u_based u_narrow u_middle u_nulls bb nr kn nn wl kv zs X0 hx hZ hw hby hml hown e0 N0 Z0 E_a0 F_width_a0 F_base_a0 F_based_a0 F_narrow_a0 F_middle_a0 F_wide_a0 F_nulls_a0 V_nr V_va g_nr ne_a0_nr ne_va_nr hn (by omega) hy
    rw [heq] at st1
    obtain ⟨T2, h2, L2, X2, e2, N2, K2, E_a0, F_width_a0, F_base_a0, F_based_a0, F_narrow_a0, F_middle_a0, F_wide_a0, F_nulls_a0, V_nr, V_va, st2⟩ := ih (i + 1) (wl.set i (own_en4 bb (zs.getD i 0))) X1 e1 N1 (Nat.le_trans Z0 K1.1) E_a0 F_width_a0 F_base_a0 F_based_a0 F_narrow_a0 F_middle_a0 F_wide_a0 F_nulls_a0 V_nr V_va (by omega) (by rw [List.length_set]; exact hy)
    rw [hq2] at st2
    exact ⟨T2, h2, L2, X2, e2, N2, K1.trans K2 (allS (Or.inl (by simp)) all0), E_a0, F_width_a0, F_base_a0, F_based_a0, F_narrow_a0, F_middle_a0, F_wide_a0, F_nulls_a0, V_nr, V_va, fun tt kt => st1 tt (st2 tt kt)⟩
def own_K (Z : State) (h : Heap) (n0 : Nat) (a : Addr) (w : Int32) (b : Int64) (bd : Value) (N : Int32) (ys : List Int32) : Prop := n0 ≤ a ∧ Exa Z h a "com/example/wadjet/wadjet/storage/IntegerChunk" ∧ ∃ (nr : Addr) (kn : ClassId) (vn vm vw : Value), n0 ≤ nr ∧ nr ≠ a ∧
  Fld Z h a "com/example/wadjet/wadjet/storage/IntegerChunk" "width" "I" (.int w) ∧ Fld Z h a "com/example/wadjet/wadjet/storage/IntegerChunk" "base" "J" (.long b) ∧ Fld Z h a "com/example/wadjet/wadjet/storage/IntegerChunk" "based" "Z" bd ∧ Fld Z h a "com/example/wadjet/wadjet/storage/IntegerChunk" "narrow" "[B" vn ∧ Fld Z h a "com/example/wadjet/wadjet/storage/IntegerChunk" "middle" "[C" vm ∧ Fld Z h a "com/example/wadjet/wadjet/storage/IntegerChunk" "wide" "[I" vw ∧ Fld Z h a "com/example/wadjet/wadjet/storage/IntegerChunk" "nulls" "[J" .null ∧
  ((w = 1 ∧ vn = .ref nr ∧ Arv Z h nr kn .byte N (ys.map Value.int) (.int (0 : Int32))) ∨ (w = 2 ∧ vm = .ref nr ∧ Arv Z h nr kn .char N (ys.map Value.int) (.int (0 : Int32))) ∨ (w = 4 ∧ vw = .ref nr ∧ Arv Z h nr kn .int N (ys.map Value.int) (.int (0 : Int32))))
def own_most (k : Int32) : Int64 := (((1 : Int64) <<< (((8 : Int32) * k) &&& 0x3f).toInt64) - (1 : Int64))
def own_nb (q2 bb ls gr mo : Int64) : Int64 := (if (if q2 < bb then (1 : Int32) else (0 : Int32)) = (0 : Int32) then ls else (gr - mo))
def own_zsF (X : Nat → Int64) (n : Nat) : List Int64 := own_rz X n 0 (List.replicate n 0)
def own_wsp (k : Int32) (bb : Int64) (ys : List Int32) (p1 : Int32) (q2 : Int64) (n : Nat) (w' : Int32) (b' : Int64) (ys' : List Int32) : Prop :=
  ∃ (X : Nat → Int64) (ls gr : Int64) (zs : List Int64), X = own_X k bb ys p1 q2 ∧ ls = own_rl X n 0 q2 ∧ gr = own_rg X n 0 q2 ∧ zs = own_rz X n 0 (List.replicate n 0) ∧
  (((gr - ls) < (256 : Int64) ∧ w' = 1 ∧ b' = own_nb q2 bb ls gr (own_most 1) ∧ ys' = own_rw (fun j => own_en1 b' (zs.getD j 0)) n 0 (List.replicate n 0)) ∨
   (¬ ((gr - ls) < (256 : Int64)) ∧ (gr - ls) < (65536 : Int64) ∧ w' = 2 ∧ b' = own_nb q2 bb ls gr (own_most 2) ∧ ys' = own_rw (fun j => own_en2 b' (zs.getD j 0)) n 0 (List.replicate n 0)) ∨
   (w' = 4 ∧ b' = 0 ∧ ys' = own_rw (fun j => own_en4 b' (zs.getD j 0)) n 0 (List.replicate n 0)))

def Qwd (Z : State) (a0 : Addr) (p1 : Int32) (q2 : Int64) (k : Int32) (bb : Int64) (bd : Value) (nn : Int32) (ys : List Int32) (h0 : Heap) (n0 : Nat) (v : Option Value) (h : Heap) (L : List Loc) : Prop := v = none ∧ Fr n0 L ∧ h0.size ≤ h.size ∧ ∃ (w' : Int32) (b' : Int64) (ys' : List Int32), own_wsp k bb ys p1 q2 nn.toNatClampNeg w' b' ys' ∧ own_K Z h n0 a0 w' b' bd nn ys'
theorem pd_7 : parseMethodDescriptor "()I" = some ⟨[], some .int⟩ := by decide +kernel
theorem d9_0 : decode prog_257_method_15_code 0 = .ok (.aload_n 0, 1) := by decide +kernel
theorem d9_1 : decode prog_257_method_15_code 1 = .ok (.invokevirtual 70, 3) := by decide +kernel
theorem d9_4 : decode prog_257_method_15_code 4 = .ok (.newarray .long, 2) := by decide +kernel
theorem d9_6 : decode prog_257_method_15_code 6 = .ok (.astore 4, 2) := by decide +kernel
theorem d9_8 : decode prog_257_method_15_code 8 = .ok (.lload_n 2, 1) := by decide +kernel
theorem d9_9 : decode prog_257_method_15_code 9 = .ok (.lstore 5, 2) := by decide +kernel
theorem d9_11 : decode prog_257_method_15_code 11 = .ok (.lload_n 2, 1) := by decide +kernel
theorem d9_12 : decode prog_257_method_15_code 12 = .ok (.lstore 7, 2) := by decide +kernel
theorem d9_14 : decode prog_257_method_15_code 14 = .ok (.iconst 0, 1) := by decide +kernel
theorem d9_15 : decode prog_257_method_15_code 15 = .ok (.istore 9, 2) := by decide +kernel
theorem d9_76 : decode prog_257_method_15_code 76 = .ok (.lload 7, 2) := by decide +kernel
theorem d9_78 : decode prog_257_method_15_code 78 = .ok (.lload 5, 2) := by decide +kernel
theorem d9_80 : decode prog_257_method_15_code 80 = .ok (.lsub, 1) := by decide +kernel
theorem d9_81 : decode prog_257_method_15_code 81 = .ok (.lstore 9, 2) := by decide +kernel
theorem d9_83 : decode prog_257_method_15_code 83 = .ok (.lload_n 2, 1) := by decide +kernel
theorem d9_84 : decode prog_257_method_15_code 84 = .ok (.aload_n 0, 1) := by decide +kernel
theorem d9_85 : decode prog_257_method_15_code 85 = .ok (.getfield 35, 3) := by decide +kernel
theorem d9_88 : decode prog_257_method_15_code 88 = .ok (.lcmp, 1) := by decide +kernel
theorem d9_89 : decode prog_257_method_15_code 89 = .ok (.ifCond .ge 7, 3) := by decide +kernel
theorem d9_92 : decode prog_257_method_15_code 92 = .ok (.iconst 1, 1) := by decide +kernel
theorem d9_93 : decode prog_257_method_15_code 93 = .ok (.goto 4, 3) := by decide +kernel
theorem d9_96 : decode prog_257_method_15_code 96 = .ok (.iconst 0, 1) := by decide +kernel
theorem d9_97 : decode prog_257_method_15_code 97 = .ok (.istore 11, 2) := by decide +kernel
theorem d9_99 : decode prog_257_method_15_code 99 = .ok (.aload_n 0, 1) := by decide +kernel
theorem d9_100 : decode prog_257_method_15_code 100 = .ok (.lload 9, 2) := by decide +kernel
theorem d9_102 : decode prog_257_method_15_code 102 = .ok (.ldc2_w 119, 3) := by decide +kernel
theorem d9_105 : decode prog_257_method_15_code 105 = .ok (.lcmp, 1) := by decide +kernel
theorem d9_106 : decode prog_257_method_15_code 106 = .ok (.ifCond .ge 7, 3) := by decide +kernel
theorem d9_109 : decode prog_257_method_15_code 109 = .ok (.iconst 1, 1) := by decide +kernel
theorem d9_110 : decode prog_257_method_15_code 110 = .ok (.goto 17, 3) := by decide +kernel
theorem d9_113 : decode prog_257_method_15_code 113 = .ok (.lload 9, 2) := by decide +kernel
theorem d9_115 : decode prog_257_method_15_code 115 = .ok (.ldc2_w 121, 3) := by decide +kernel
theorem d9_118 : decode prog_257_method_15_code 118 = .ok (.lcmp, 1) := by decide +kernel
theorem d9_119 : decode prog_257_method_15_code 119 = .ok (.ifCond .ge 7, 3) := by decide +kernel
theorem d9_122 : decode prog_257_method_15_code 122 = .ok (.iconst 2, 1) := by decide +kernel
theorem d9_123 : decode prog_257_method_15_code 123 = .ok (.goto 4, 3) := by decide +kernel
theorem d9_126 : decode prog_257_method_15_code 126 = .ok (.iconst 4, 1) := by decide +kernel
theorem d9_127 : decode prog_257_method_15_code 127 = .ok (.putfield 7, 3) := by decide +kernel
theorem d9_130 : decode prog_257_method_15_code 130 = .ok (.lconst 1, 1) := by decide +kernel
theorem d9_131 : decode prog_257_method_15_code 131 = .ok (.bipush 8, 2) := by decide +kernel
theorem d9_133 : decode prog_257_method_15_code 133 = .ok (.aload_n 0, 1) := by decide +kernel
theorem d9_134 : decode prog_257_method_15_code 134 = .ok (.getfield 7, 3) := by decide +kernel
theorem d9_137 : decode prog_257_method_15_code 137 = .ok (.imul, 1) := by decide +kernel
theorem d9_138 : decode prog_257_method_15_code 138 = .ok (.lshl, 1) := by decide +kernel
theorem d9_139 : decode prog_257_method_15_code 139 = .ok (.lconst 1, 1) := by decide +kernel
theorem d9_140 : decode prog_257_method_15_code 140 = .ok (.lsub, 1) := by decide +kernel
theorem d9_141 : decode prog_257_method_15_code 141 = .ok (.lstore 12, 2) := by decide +kernel
theorem d9_143 : decode prog_257_method_15_code 143 = .ok (.aload_n 0, 1) := by decide +kernel
theorem d9_144 : decode prog_257_method_15_code 144 = .ok (.aload_n 0, 1) := by decide +kernel
theorem d9_145 : decode prog_257_method_15_code 145 = .ok (.getfield 7, 3) := by decide +kernel
theorem d9_148 : decode prog_257_method_15_code 148 = .ok (.iconst 4, 1) := by decide +kernel
theorem d9_149 : decode prog_257_method_15_code 149 = .ok (.if_icmp .ne 7, 3) := by decide +kernel
theorem d9_152 : decode prog_257_method_15_code 152 = .ok (.lconst 0, 1) := by decide +kernel
theorem d9_153 : decode prog_257_method_15_code 153 = .ok (.goto 18, 3) := by decide +kernel
theorem d9_156 : decode prog_257_method_15_code 156 = .ok (.iload 11, 2) := by decide +kernel
theorem d9_158 : decode prog_257_method_15_code 158 = .ok (.ifCond .eq 11, 3) := by decide +kernel
theorem d9_161 : decode prog_257_method_15_code 161 = .ok (.lload 7, 2) := by decide +kernel
theorem d9_163 : decode prog_257_method_15_code 163 = .ok (.lload 12, 2) := by decide +kernel
theorem d9_165 : decode prog_257_method_15_code 165 = .ok (.lsub, 1) := by decide +kernel
theorem d9_166 : decode prog_257_method_15_code 166 = .ok (.goto 5, 3) := by decide +kernel
theorem d9_169 : decode prog_257_method_15_code 169 = .ok (.lload 5, 2) := by decide +kernel
theorem d9_171 : decode prog_257_method_15_code 171 = .ok (.putfield 35, 3) := by decide +kernel
theorem d9_174 : decode prog_257_method_15_code 174 = .ok (.aload_n 0, 1) := by decide +kernel
theorem d9_175 : decode prog_257_method_15_code 175 = .ok (.aload_n 0, 1) := by decide +kernel
theorem d9_176 : decode prog_257_method_15_code 176 = .ok (.getfield 7, 3) := by decide +kernel
theorem d9_179 : decode prog_257_method_15_code 179 = .ok (.iconst 1, 1) := by decide +kernel
theorem d9_180 : decode prog_257_method_15_code 180 = .ok (.if_icmp .ne 11, 3) := by decide +kernel
theorem d9_183 : decode prog_257_method_15_code 183 = .ok (.aload 4, 2) := by decide +kernel
theorem d9_185 : decode prog_257_method_15_code 185 = .ok (.arraylength, 1) := by decide +kernel
theorem d9_186 : decode prog_257_method_15_code 186 = .ok (.newarray .byte, 2) := by decide +kernel
theorem d9_188 : decode prog_257_method_15_code 188 = .ok (.goto 4, 3) := by decide +kernel
theorem d9_191 : decode prog_257_method_15_code 191 = .ok (.aconst_null, 1) := by decide +kernel
theorem d9_192 : decode prog_257_method_15_code 192 = .ok (.putfield 13, 3) := by decide +kernel
theorem d9_195 : decode prog_257_method_15_code 195 = .ok (.aload_n 0, 1) := by decide +kernel
theorem d9_196 : decode prog_257_method_15_code 196 = .ok (.aload_n 0, 1) := by decide +kernel
theorem d9_197 : decode prog_257_method_15_code 197 = .ok (.getfield 7, 3) := by decide +kernel
theorem d9_200 : decode prog_257_method_15_code 200 = .ok (.iconst 2, 1) := by decide +kernel
theorem d9_201 : decode prog_257_method_15_code 201 = .ok (.if_icmp .ne 11, 3) := by decide +kernel
theorem d9_204 : decode prog_257_method_15_code 204 = .ok (.aload 4, 2) := by decide +kernel
theorem d9_206 : decode prog_257_method_15_code 206 = .ok (.arraylength, 1) := by decide +kernel
theorem d9_207 : decode prog_257_method_15_code 207 = .ok (.newarray .char, 2) := by decide +kernel
theorem d9_209 : decode prog_257_method_15_code 209 = .ok (.goto 4, 3) := by decide +kernel
theorem d9_212 : decode prog_257_method_15_code 212 = .ok (.aconst_null, 1) := by decide +kernel
theorem d9_213 : decode prog_257_method_15_code 213 = .ok (.putfield 39, 3) := by decide +kernel
theorem d9_216 : decode prog_257_method_15_code 216 = .ok (.aload_n 0, 1) := by decide +kernel
theorem d9_217 : decode prog_257_method_15_code 217 = .ok (.aload_n 0, 1) := by decide +kernel
theorem d9_218 : decode prog_257_method_15_code 218 = .ok (.getfield 7, 3) := by decide +kernel
theorem d9_221 : decode prog_257_method_15_code 221 = .ok (.iconst 4, 1) := by decide +kernel
theorem d9_222 : decode prog_257_method_15_code 222 = .ok (.if_icmp .ne 11, 3) := by decide +kernel
theorem d9_225 : decode prog_257_method_15_code 225 = .ok (.aload 4, 2) := by decide +kernel
theorem d9_227 : decode prog_257_method_15_code 227 = .ok (.arraylength, 1) := by decide +kernel
theorem d9_228 : decode prog_257_method_15_code 228 = .ok (.newarray .int, 2) := by decide +kernel
theorem d9_230 : decode prog_257_method_15_code 230 = .ok (.goto 4, 3) := by decide +kernel
theorem d9_233 : decode prog_257_method_15_code 233 = .ok (.aconst_null, 1) := by decide +kernel
theorem d9_234 : decode prog_257_method_15_code 234 = .ok (.putfield 43, 3) := by decide +kernel
theorem d9_237 : decode prog_257_method_15_code 237 = .ok (.iconst 0, 1) := by decide +kernel
theorem d9_238 : decode prog_257_method_15_code 238 = .ok (.istore 14, 2) := by decide +kernel
theorem d9_327 : decode prog_257_method_15_code 327 = .ok (.return_, 1) := by decide +kernel
theorem pn_9 : plainName "com/example/wadjet/wadjet/storage/IntegerChunk" = true := by first | (simp [plainName, overriddenIn]; done) | decide +kernel
theorem ef_rmW_1 (m : MethodId) (a0 : Addr) (p1 : Int32) (q2 : Int64) : entryFrame m #[(.ref a0), (.int p1), (.long q2)] 15 = mkF m 0 #[.val (.ref a0), .val (.int p1), .val (.long q2), .second, .unset, .unset, .unset, .unset, .unset, .unset, .unset, .unset, .unset, .unset, .unset] [] := by first | (simp [entryFrame, mkF, argsToLocals, Value.category]; done) | rfl
set_option maxRecDepth 65536 in
set_option maxHeartbeats 40000000 in
theorem rmW_1 (l : Launch) (Z : State) (A0 : Array Value) (hw : ∀ d ∈ tables_1, d.before A0 Z = true) (ws : List Jvm.Cond) (a0 : Addr) (p1 : Int32) (q2 : Int64) (u_based : Value) (u_middle : Value) (u_wide : Value) (bb : Int64) (nr : Addr) (kn : ClassId) (nn : Int32) (ys : List Int32) (h0 : Heap) (n0 : Nat) (Z0 : n0 ≤ h0.size) (E_a0 : Exa Z h0 a0 "com/example/wadjet/wadjet/storage/IntegerChunk") (F_width_a0 : Fld Z h0 a0 "com/example/wadjet/wadjet/storage/IntegerChunk" "width" "I" (.int (1 : Int32))) (F_base_a0 : Fld Z h0 a0 "com/example/wadjet/wadjet/storage/IntegerChunk" "base" "J" (.long bb)) (F_based_a0 : Fld Z h0 a0 "com/example/wadjet/wadjet/storage/IntegerChunk" "based" "Z" u_based) (F_narrow_a0 : Fld Z h0 a0 "com/example/wadjet/wadjet/storage/IntegerChunk" "narrow" "[B" (.ref nr)) (F_middle_a0 : Fld Z h0 a0 "com/example/wadjet/wadjet/storage/IntegerChunk" "middle" "[C" u_middle) (F_wide_a0 : Fld Z h0 a0 "com/example/wadjet/wadjet/storage/IntegerChunk" "wide" "[I" u_wide) (F_nulls_a0 : Fld Z h0 a0 "com/example/wadjet/wadjet/storage/IntegerChunk" "nulls" "[J" .null) (V_nr : Arv Z h0 nr kn .byte nn (ys.map Value.int) (.int (0 : Int32))) (g_a0 : n0 ≤ a0) (ne_nr_a0 : nr ≠ a0) (hn : 0 ≤ nn.toInt ∧ nn.toInt ≤ 8) :
    MetFree l (⟨"com/example/wadjet/wadjet/storage/IntegerChunk", "widen", "(IJ)V"⟩ : MethodName) (head1 (Jvm.Cond.code (⟨"com/example/wadjet/wadjet/storage/IntegerChunk", "widen", "(IJ)V"⟩ : MethodName) prog_257_method_15_code 15 none :: ws) ({ frames := 1, cells := 2, slots := 16, locals := 40 } : Room)) (fun a U => a = #[(.ref a0), (.int p1), (.long q2)] ∧ Z.Warmed39 U.vm ∧ U.heap = h0) (fun _ _ _ _ _ => True) (fun _ U o U' => ∃ v L, o = .returned v ∧ Qwd Z a0 p1 q2 (1 : Int32) bb u_based nn ys h0 n0 v U'.heap L ∧ FrameEnd U o U' L ({ frames := 1, cells := 2, slots := 16, locals := 40 } : Room).cells ({ frames := 1, cells := 2, slots := 16, locals := 40 } : Room).slots) := by
  refine MetFree.of_bodySF (plainFor_of_name pn_9) hisR ?_
  intro p e s m args below meth c s₁ Bd hml0 hP hK
  obtain ⟨rfl, hZ, hh⟩ := hP
  have hx := Bd.exec
  have hby := Bd.bytes
  have hml : c.maxLocals = 15 := hml0
  have hown : s.vm.findClass "com/example/wadjet/wadjet/storage/IntegerChunk" = some m.cls := findClass_of_methodNamed Bd.named
  have hnm := (name_of_methodNamed Bd.named Bd.method).1
  have X0 : Stand p l e ({ frames := 1, cells := 2, slots := 16, locals := 40 } : Room) s m #[(.ref a0), (.int p1), (.long q2)] below meth c s₁ [] 0 0 := Stand.of_body Bd
  have e0 : s₁.heap = h0 := by rw [← hh, Bd.state]; rfl
  have N0 := Fr.nil n0
  have K0 : Keep h0 h0 [a0] := Keep.refl _ _
  have pre0 : ∀ t, Steps p.tables e below (s₁.setTop (mkF m 0 #[.val (.ref a0), .val (.int p1), .val (.long q2), .second, .unset, .unset, .unset, .unset, .unset, .unset, .unset, .unset, .unset, .unset, .unset] [])) t → Steps p.tables e below (s₁.setTop (entryFrame m #[(.ref a0), (.int p1), (.long q2)] 15)) t := fun t k => castTop (ef_rmW_1 m a0 p1 q2) k
  obtain ⟨cq1, qv1, qv1'⟩ := E_a0.cell
  obtain ⟨_, _, ⟨T1, L1, k1, n1⟩, -, X1, ⟨Lc1, hQ1, l1, y1, z1⟩, st1⟩ := X0.privateBack hx (y := (⟨"com/example/wadjet/wadjet/storage/IntegerChunk", "capacity", "()I"⟩ : MethodName)) hown (mvT hZ (hw _ (List.mem_of_getElem? (i := 32) rfl))) (mvT hZ (hw _ (List.mem_of_getElem? (i := 33) rfl))) (own_selP hZ (hw _ (List.mem_of_getElem? (i := 1) rfl)) (hw _ (List.mem_of_getElem? (i := 34) rfl)) (hw _ (List.mem_of_getElem? (i := 33) rfl)) (by decide)) (Cond.privateMethod_at (mvP hZ (hw _ (List.mem_of_getElem? (i := 34) rfl)) (args := #[]))) (mvT hZ (hw _ (List.mem_of_getElem? (i := 35) rfl))) (by decide) (backOf (W := 0) (rmC_1 l Z A0 hw [] a0 nr kn nn ys h0 n0 Z0 F_width_a0 F_narrow_a0 V_nr) hZ (hw _ (List.mem_of_getElem? (i := 35) rfl)) (hw _ (List.mem_of_getElem? (i := 2) rfl)) (by decide) (by decide)) (g := (mkF m 1 #[.val (.ref a0), .val (.int p1), .val (.long q2), .second, .unset, .unset, .unset, .unset, .unset, .unset, .unset, .unset, .unset, .unset, .unset] [(.ref a0)])) rfl (by rw [hml]; rfl) (Steps.refl _) (a := a0) (by rw [e0]; exact qv1) qv1' (argsL := []) (rest := []) (lenOf pd_7 rfl) rfl (by show 2 * 0 + _ ≤ _; exact Nat.le_of_eq rfl) (hb hby d9_1) (fun _ _ => ⟨rfl, e0, (by decide : 0 + 0 ≤ _), (by decide : 0 + 0 ≤ _)⟩)
  dsimp only [Pt.U, Pt.locs, Pt.cells, Pt.slots] at X1 l1 y1 z1 st1 hQ1
  subst y1 z1
  obtain ⟨rfl, N1q, eh1⟩ := hQ1
  have N1 : Fr n0 L1 := by rw [l1]; exact Fr.app N0 N1q
  clear l1
  obtain ⟨T2, h2, k2, X2, e2, E2, A2, st2⟩ := newP X1 hx hZ (hw _ (List.mem_of_getElem? (i := 51) rfl)) eh1 (g := (mkF m 4 #[.val (.ref a0), .val (.int p1), .val (.long q2), .second, .unset, .unset, .unset, .unset, .unset, .unset, .unset, .unset, .unset, .unset, .unset] [(.int nn)])) rfl (hb hby d9_4) rfl (own_nneg hn.1) (cap := 8) (by rw [own_tn]; omega) (by decide) (by decide) (by decide)
  obtain ⟨va, g2⟩ : ∃ z, z = h0.size := ⟨_, rfl⟩
  rw [← g2] at A2 st2
  have ne_a0_va : a0 ≠ va := Nat.ne_of_lt (Nat.lt_of_lt_of_le E_a0.lt (Nat.le_of_eq g2.symm))
  have ne_nr_va : nr ≠ va := Nat.ne_of_lt (Nat.lt_of_lt_of_le V_nr.lt (Nat.le_of_eq g2.symm))
  have g_va : n0 ≤ va := Nat.le_trans Z0 (Nat.le_of_eq g2.symm)
  have sz_va : h0.size ≤ va := Nat.le_trans K0.1 (Nat.le_of_eq g2.symm)
  have E_a0 : Exa Z h2 a0 "com/example/wadjet/wadjet/storage/IntegerChunk" := E_a0.ext E2
  have F_width_a0 : Fld Z h2 a0 "com/example/wadjet/wadjet/storage/IntegerChunk" "width" "I" (.int (1 : Int32)) := F_width_a0.ext E2
  have F_base_a0 : Fld Z h2 a0 "com/example/wadjet/wadjet/storage/IntegerChunk" "base" "J" (.long bb) := F_base_a0.ext E2
  have F_based_a0 : Fld Z h2 a0 "com/example/wadjet/wadjet/storage/IntegerChunk" "based" "Z" u_based := F_based_a0.ext E2
  have F_narrow_a0 : Fld Z h2 a0 "com/example/wadjet/wadjet/storage/IntegerChunk" "narrow" "[B" (.ref nr) := F_narrow_a0.ext E2
  have F_middle_a0 : Fld Z h2 a0 "com/example/wadjet/wadjet/storage/IntegerChunk" "middle" "[C" u_middle := F_middle_a0.ext E2
  have F_wide_a0 : Fld Z h2 a0 "com/example/wadjet/wadjet/storage/IntegerChunk" "wide" "[I" u_wide := F_wide_a0.ext E2
  have F_nulls_a0 : Fld Z h2 a0 "com/example/wadjet/wadjet/storage/IntegerChunk" "nulls" "[J" .null := F_nulls_a0.ext E2
  have V_nr : Arv Z h2 nr kn .byte nn (ys.map Value.int) (.int (0 : Int32)) := V_nr.ext E2
  have Zh2 : n0 ≤ h2.size := Nat.le_trans Z0 E2.1
  have Kh2 : Keep h0 h2 [a0] := K0.ext E2
  have V_va : Arv Z h2 va k2 .long nn [] (.long (0 : Int64)) := Arv.new A2 (own_nneg hn.1)
  have V_va : Arv Z h2 va k2 .long nn ((List.replicate nn.toNatClampNeg (0 : Int64)).map Value.long) (.long (0 : Int64)) := by rw [List.map_replicate]; exact V_va.pad (pad_rep [] (.long (0 : Int64)) nn.toNatClampNeg)
  obtain ⟨T3, h3, L3, X3, e3, N3, Kc3, E_a0, F_width_a0, F_base_a0, F_based_a0, F_narrow_a0, F_middle_a0, F_wide_a0, F_nulls_a0, V_nr, V_va, st3⟩ := lp1 a0 p1 q2 va u_based u_middle u_wide .null bb nr kn nn ys k2 hx hZ hw hby hml hown g_va ne_a0_va ne_nr_va hn.2 nn.toNatClampNeg 0 q2 q2 (List.replicate nn.toNatClampNeg 0) X2 e2 N1 Zh2 E_a0 F_width_a0 F_base_a0 F_based_a0 F_narrow_a0 F_middle_a0 F_wide_a0 F_nulls_a0 V_nr V_va (by rw [own_tn]; omega) (by rw [List.length_replicate]) (by decide) (by decide)
  have Zh3 : n0 ≤ h3.size := Nat.le_trans Zh2 Kc3.1
  have Kh3 : Keep h0 h3 [a0] := Kh2.trans Kc3 (allS (Or.inr sz_va) all0)
  obtain ⟨ls, h_ls⟩ : ∃ z : Int64, z = own_rl (own_X (1 : Int32) bb ys p1 q2) nn.toNatClampNeg 0 q2 := ⟨_, rfl⟩
  obtain ⟨gr, h_gr⟩ : ∃ z : Int64, z = own_rg (own_X (1 : Int32) bb ys p1 q2) nn.toNatClampNeg 0 q2 := ⟨_, rfl⟩
  obtain ⟨zs, h_zs⟩ : ∃ z : List Int64, z = own_rz (own_X (1 : Int32) bb ys p1 q2) nn.toNatClampNeg 0 (List.replicate nn.toNatClampNeg 0) := ⟨_, rfl⟩
  rw [← h_ls, ← h_gr] at st3
  rw [← h_zs] at V_va
  obtain ⟨rg, h_rg⟩ : ∃ z : Int64, z = (gr - ls) := ⟨_, rfl⟩
  obtain ⟨T4, X4, e4, st4⟩ := getF X3 hx hZ hown (host := "") (Or.inl (hw _ (List.mem_of_getElem? (i := 30) rfl))) Via.refl e3 F_base_a0 (g := (mkF m 85 #[.val (.ref a0), .val (.int p1), .val (.long q2), .second, .val (.ref va), .val (.long ls), .second, .val (.long gr), .second, .val (.long rg), .second, .unset, .unset, .unset, .unset] [(.ref a0), (.long q2)])) rfl rfl (hb hby d9_85)
  obtain ⟨fa, h_fa⟩ : ∃ z : Int32, z = (if q2 < bb then (1 : Int32) else (0 : Int32)) := ⟨_, rfl⟩
  by_cases hc106 : rg < (256 : Int64)
  · obtain ⟨T5, h5, X5, e5, W5, st5⟩ := putF X4 hx hZ hown (host := "") (Or.inl (hw _ (List.mem_of_getElem? (i := 14) rfl))) Via.refl e4 F_width_a0 E_a0 (Or.inl (hw _ (List.mem_of_getElem? (i := 15) rfl))) (hw _ (List.mem_of_getElem? (i := 1) rfl)) (ty := .int) (by decide) rfl rfl (g := (mkF m 127 #[.val (.ref a0), .val (.int p1), .val (.long q2), .second, .val (.ref va), .val (.long ls), .second, .val (.long gr), .second, .val (.long rg), .second, .val (.int fa), .unset, .unset, .unset] [(.int (1 : Int32)), (.ref a0)])) rfl rfl (hb hby d9_127)
    have F_width_a0 : Fld Z h5 a0 "com/example/wadjet/wadjet/storage/IntegerChunk" "width" "I" (.int (1 : Int32)) := F_width_a0.same W5
    have E_a0 : Exa Z h5 a0 "com/example/wadjet/wadjet/storage/IntegerChunk" := E_a0.wr W5
    have F_base_a0 : Fld Z h5 a0 "com/example/wadjet/wadjet/storage/IntegerChunk" "base" "J" (.long bb) := F_base_a0.other W5 (Or.inr (slot_ne (Or.inl (hw _ (List.mem_of_getElem? (i := 31) rfl))) (Or.inl (hw _ (List.mem_of_getElem? (i := 15) rfl))) (by decide) (t := .long) (t' := .int) (by decide) (by decide)))
    have F_based_a0 : Fld Z h5 a0 "com/example/wadjet/wadjet/storage/IntegerChunk" "based" "Z" u_based := F_based_a0.other W5 (Or.inr (slot_ne (Or.inl (hw _ (List.mem_of_getElem? (i := 29) rfl))) (Or.inl (hw _ (List.mem_of_getElem? (i := 15) rfl))) (by decide) (t := .boolean) (t' := .int) (by decide) (by decide)))
    have F_narrow_a0 : Fld Z h5 a0 "com/example/wadjet/wadjet/storage/IntegerChunk" "narrow" "[B" (.ref nr) := F_narrow_a0.other W5 (Or.inr (slot_ne (Or.inl (hw _ (List.mem_of_getElem? (i := 18) rfl))) (Or.inl (hw _ (List.mem_of_getElem? (i := 15) rfl))) (by decide) (t := (.array .byte)) (t' := .int) (by decide) (by decide)))
    have F_middle_a0 : Fld Z h5 a0 "com/example/wadjet/wadjet/storage/IntegerChunk" "middle" "[C" u_middle := F_middle_a0.other W5 (Or.inr (slot_ne (Or.inl (hw _ (List.mem_of_getElem? (i := 61) rfl))) (Or.inl (hw _ (List.mem_of_getElem? (i := 15) rfl))) (by decide) (t := (.array .char)) (t' := .int) (by decide) (by decide)))
    have F_wide_a0 : Fld Z h5 a0 "com/example/wadjet/wadjet/storage/IntegerChunk" "wide" "[I" u_wide := F_wide_a0.other W5 (Or.inr (slot_ne (Or.inl (hw _ (List.mem_of_getElem? (i := 63) rfl))) (Or.inl (hw _ (List.mem_of_getElem? (i := 15) rfl))) (by decide) (t := (.array .int)) (t' := .int) (by decide) (by decide)))
    have F_nulls_a0 : Fld Z h5 a0 "com/example/wadjet/wadjet/storage/IntegerChunk" "nulls" "[J" .null := F_nulls_a0.other W5 (Or.inr (slot_ne (Or.inl (hw _ (List.mem_of_getElem? (i := 37) rfl))) (Or.inl (hw _ (List.mem_of_getElem? (i := 15) rfl))) (by decide) (t := (.array .long)) (t' := .int) (by decide) (by decide)))
    have V_nr : Arv Z h5 nr kn .byte nn (ys.map Value.int) (.int (0 : Int32)) := V_nr.other W5 ne_nr_a0
    have V_va : Arv Z h5 va k2 .long nn (zs.map Value.long) (.long (0 : Int64)) := V_va.other W5 (Ne.symm ne_a0_va)
    have Zh5 : n0 ≤ h5.size := Nat.le_trans Zh3 (Keep.of_wr W5).1
    have Kh5 : Keep h0 h5 [a0] := Kh3.wr W5 (Or.inl (by simp))
    have N5 := Fr.snoc X5 N3 g_a0
    obtain ⟨T6, X6, e6, st6⟩ := getF X5 hx hZ hown (host := "") (Or.inl (hw _ (List.mem_of_getElem? (i := 14) rfl))) Via.refl e5 F_width_a0 (g := (mkF m 134 #[.val (.ref a0), .val (.int p1), .val (.long q2), .second, .val (.ref va), .val (.long ls), .second, .val (.long gr), .second, .val (.long rg), .second, .val (.int fa), .unset, .unset, .unset] [(.ref a0), (.int (8 : Int32)), (.long (1 : Int64))])) rfl rfl (hb hby d9_134)
    obtain ⟨mo, h_mo⟩ : ∃ z : Int64, z = (((1 : Int64) <<< (((8 : Int32) * (1 : Int32)) &&& 0x3f).toInt64) - (1 : Int64)) := ⟨_, rfl⟩
    obtain ⟨T7, X7, e7, st7⟩ := getF X6 hx hZ hown (host := "") (Or.inl (hw _ (List.mem_of_getElem? (i := 14) rfl))) Via.refl e6 F_width_a0 (g := (mkF m 145 #[.val (.ref a0), .val (.int p1), .val (.long q2), .second, .val (.ref va), .val (.long ls), .second, .val (.long gr), .second, .val (.long rg), .second, .val (.int fa), .val (.long mo), .second, .unset] [(.ref a0), (.ref a0)])) rfl rfl (hb hby d9_145)
    obtain ⟨nb, h_nb⟩ : ∃ z : Int64, z = (if fa = (0 : Int32) then ls else (gr - mo)) := ⟨_, rfl⟩
    obtain ⟨T8, h8, X8, e8, W8, st8⟩ := putF X7 hx hZ hown (host := "") (Or.inl (hw _ (List.mem_of_getElem? (i := 30) rfl))) Via.refl e7 F_base_a0 E_a0 (Or.inl (hw _ (List.mem_of_getElem? (i := 31) rfl))) (hw _ (List.mem_of_getElem? (i := 1) rfl)) (ty := .long) (by decide) rfl rfl (g := (mkF m 171 #[.val (.ref a0), .val (.int p1), .val (.long q2), .second, .val (.ref va), .val (.long ls), .second, .val (.long gr), .second, .val (.long rg), .second, .val (.int fa), .val (.long mo), .second, .unset] [(.long nb), (.ref a0)])) rfl rfl (hb hby d9_171)
    have F_base_a0 : Fld Z h8 a0 "com/example/wadjet/wadjet/storage/IntegerChunk" "base" "J" (.long nb) := F_base_a0.same W8
    have E_a0 : Exa Z h8 a0 "com/example/wadjet/wadjet/storage/IntegerChunk" := E_a0.wr W8
    have F_width_a0 : Fld Z h8 a0 "com/example/wadjet/wadjet/storage/IntegerChunk" "width" "I" (.int (1 : Int32)) := F_width_a0.other W8 (Or.inr (slot_ne (Or.inl (hw _ (List.mem_of_getElem? (i := 15) rfl))) (Or.inl (hw _ (List.mem_of_getElem? (i := 31) rfl))) (by decide) (t := .int) (t' := .long) (by decide) (by decide)))
    have F_based_a0 : Fld Z h8 a0 "com/example/wadjet/wadjet/storage/IntegerChunk" "based" "Z" u_based := F_based_a0.other W8 (Or.inr (slot_ne (Or.inl (hw _ (List.mem_of_getElem? (i := 29) rfl))) (Or.inl (hw _ (List.mem_of_getElem? (i := 31) rfl))) (by decide) (t := .boolean) (t' := .long) (by decide) (by decide)))
    have F_narrow_a0 : Fld Z h8 a0 "com/example/wadjet/wadjet/storage/IntegerChunk" "narrow" "[B" (.ref nr) := F_narrow_a0.other W8 (Or.inr (slot_ne (Or.inl (hw _ (List.mem_of_getElem? (i := 18) rfl))) (Or.inl (hw _ (List.mem_of_getElem? (i := 31) rfl))) (by decide) (t := (.array .byte)) (t' := .long) (by decide) (by decide)))
    have F_middle_a0 : Fld Z h8 a0 "com/example/wadjet/wadjet/storage/IntegerChunk" "middle" "[C" u_middle := F_middle_a0.other W8 (Or.inr (slot_ne (Or.inl (hw _ (List.mem_of_getElem? (i := 61) rfl))) (Or.inl (hw _ (List.mem_of_getElem? (i := 31) rfl))) (by decide) (t := (.array .char)) (t' := .long) (by decide) (by decide)))
    have F_wide_a0 : Fld Z h8 a0 "com/example/wadjet/wadjet/storage/IntegerChunk" "wide" "[I" u_wide := F_wide_a0.other W8 (Or.inr (slot_ne (Or.inl (hw _ (List.mem_of_getElem? (i := 63) rfl))) (Or.inl (hw _ (List.mem_of_getElem? (i := 31) rfl))) (by decide) (t := (.array .int)) (t' := .long) (by decide) (by decide)))
    have F_nulls_a0 : Fld Z h8 a0 "com/example/wadjet/wadjet/storage/IntegerChunk" "nulls" "[J" .null := F_nulls_a0.other W8 (Or.inr (slot_ne (Or.inl (hw _ (List.mem_of_getElem? (i := 37) rfl))) (Or.inl (hw _ (List.mem_of_getElem? (i := 31) rfl))) (by decide) (t := (.array .long)) (t' := .long) (by decide) (by decide)))
    have V_nr : Arv Z h8 nr kn .byte nn (ys.map Value.int) (.int (0 : Int32)) := V_nr.other W8 ne_nr_a0
    have V_va : Arv Z h8 va k2 .long nn (zs.map Value.long) (.long (0 : Int64)) := V_va.other W8 (Ne.symm ne_a0_va)
    have Zh8 : n0 ≤ h8.size := Nat.le_trans Zh5 (Keep.of_wr W8).1
    have Kh8 : Keep h0 h8 [a0] := Kh5.wr W8 (Or.inl (by simp))
    have N8 := Fr.snoc X8 N5 g_a0
    obtain ⟨T9, X9, e9, st9⟩ := getF X8 hx hZ hown (host := "") (Or.inl (hw _ (List.mem_of_getElem? (i := 14) rfl))) Via.refl e8 F_width_a0 (g := (mkF m 176 #[.val (.ref a0), .val (.int p1), .val (.long q2), .second, .val (.ref va), .val (.long ls), .second, .val (.long gr), .second, .val (.long rg), .second, .val (.int fa), .val (.long mo), .second, .unset] [(.ref a0), (.ref a0)])) rfl rfl (hb hby d9_176)
    obtain ⟨cl10, Ar10, -, SS10, MM10, -, -⟩ := id V_va
    obtain ⟨T11, h11, k11, X11, e11, E11, A11, st11⟩ := newP X9 hx hZ (hw _ (List.mem_of_getElem? (i := 16) rfl)) e9 (g := (mkF m 186 #[.val (.ref a0), .val (.int p1), .val (.long q2), .second, .val (.ref va), .val (.long ls), .second, .val (.long gr), .second, .val (.long rg), .second, .val (.int fa), .val (.long mo), .second, .unset] [(.int nn), (.ref a0)])) rfl (hb hby d9_186) rfl (own_nneg hn.1) (cap := 8) (by rw [own_tn]; omega) (by decide) (by decide) (by decide)
    obtain ⟨ra, g11⟩ : ∃ z, z = h8.size := ⟨_, rfl⟩
    rw [← g11] at A11 st11
    have ne_a0_ra : a0 ≠ ra := Nat.ne_of_lt (Nat.lt_of_lt_of_le E_a0.lt (Nat.le_of_eq g11.symm))
    have ne_nr_ra : nr ≠ ra := Nat.ne_of_lt (Nat.lt_of_lt_of_le V_nr.lt (Nat.le_of_eq g11.symm))
    have ne_va_ra : va ≠ ra := Nat.ne_of_lt (Nat.lt_of_lt_of_le V_va.lt (Nat.le_of_eq g11.symm))
    have g_ra : n0 ≤ ra := Nat.le_trans Zh8 (Nat.le_of_eq g11.symm)
    have sz_ra : h0.size ≤ ra := Nat.le_trans Kh8.1 (Nat.le_of_eq g11.symm)
    have E_a0 : Exa Z h11 a0 "com/example/wadjet/wadjet/storage/IntegerChunk" := E_a0.ext E11
    have F_width_a0 : Fld Z h11 a0 "com/example/wadjet/wadjet/storage/IntegerChunk" "width" "I" (.int (1 : Int32)) := F_width_a0.ext E11
    have F_base_a0 : Fld Z h11 a0 "com/example/wadjet/wadjet/storage/IntegerChunk" "base" "J" (.long nb) := F_base_a0.ext E11
    have F_based_a0 : Fld Z h11 a0 "com/example/wadjet/wadjet/storage/IntegerChunk" "based" "Z" u_based := F_based_a0.ext E11
    have F_narrow_a0 : Fld Z h11 a0 "com/example/wadjet/wadjet/storage/IntegerChunk" "narrow" "[B" (.ref nr) := F_narrow_a0.ext E11
    have F_middle_a0 : Fld Z h11 a0 "com/example/wadjet/wadjet/storage/IntegerChunk" "middle" "[C" u_middle := F_middle_a0.ext E11
    have F_wide_a0 : Fld Z h11 a0 "com/example/wadjet/wadjet/storage/IntegerChunk" "wide" "[I" u_wide := F_wide_a0.ext E11
    have F_nulls_a0 : Fld Z h11 a0 "com/example/wadjet/wadjet/storage/IntegerChunk" "nulls" "[J" .null := F_nulls_a0.ext E11
    have V_nr : Arv Z h11 nr kn .byte nn (ys.map Value.int) (.int (0 : Int32)) := V_nr.ext E11
    have V_va : Arv Z h11 va k2 .long nn (zs.map Value.long) (.long (0 : Int64)) := V_va.ext E11
    have Zh11 : n0 ≤ h11.size := Nat.le_trans Zh8 E11.1
    have Kh11 : Keep h0 h11 [a0] := Kh8.ext E11
    have V_ra : Arv Z h11 ra k11 .byte nn [] (.int (0 : Int32)) := Arv.new A11 (own_nneg hn.1)
    have V_ra : Arv Z h11 ra k11 .byte nn ((List.replicate nn.toNatClampNeg (0 : Int32)).map Value.int) (.int (0 : Int32)) := by rw [List.map_replicate]; exact V_ra.pad (pad_rep [] (.int (0 : Int32)) nn.toNatClampNeg)
    obtain ⟨T12, h12, X12, e12, W12, st12⟩ := putF X11 hx hZ hown (host := "") (Or.inl (hw _ (List.mem_of_getElem? (i := 17) rfl))) Via.refl e11 F_narrow_a0 E_a0 (Or.inl (hw _ (List.mem_of_getElem? (i := 18) rfl))) (hw _ (List.mem_of_getElem? (i := 1) rfl)) (ty := (.array .byte)) (by decide) rfl rfl (g := (mkF m 192 #[.val (.ref a0), .val (.int p1), .val (.long q2), .second, .val (.ref va), .val (.long ls), .second, .val (.long gr), .second, .val (.long rg), .second, .val (.int fa), .val (.long mo), .second, .unset] [(.ref ra), (.ref a0)])) rfl rfl (hb hby d9_192)
    have F_narrow_a0 : Fld Z h12 a0 "com/example/wadjet/wadjet/storage/IntegerChunk" "narrow" "[B" (.ref ra) := F_narrow_a0.same W12
    have E_a0 : Exa Z h12 a0 "com/example/wadjet/wadjet/storage/IntegerChunk" := E_a0.wr W12
    have F_width_a0 : Fld Z h12 a0 "com/example/wadjet/wadjet/storage/IntegerChunk" "width" "I" (.int (1 : Int32)) := F_width_a0.other W12 (Or.inr (slot_ne (Or.inl (hw _ (List.mem_of_getElem? (i := 15) rfl))) (Or.inl (hw _ (List.mem_of_getElem? (i := 18) rfl))) (by decide) (t := .int) (t' := (.array .byte)) (by decide) (by decide)))
    have F_base_a0 : Fld Z h12 a0 "com/example/wadjet/wadjet/storage/IntegerChunk" "base" "J" (.long nb) := F_base_a0.other W12 (Or.inr (slot_ne (Or.inl (hw _ (List.mem_of_getElem? (i := 31) rfl))) (Or.inl (hw _ (List.mem_of_getElem? (i := 18) rfl))) (by decide) (t := .long) (t' := (.array .byte)) (by decide) (by decide)))
    have F_based_a0 : Fld Z h12 a0 "com/example/wadjet/wadjet/storage/IntegerChunk" "based" "Z" u_based := F_based_a0.other W12 (Or.inr (slot_ne (Or.inl (hw _ (List.mem_of_getElem? (i := 29) rfl))) (Or.inl (hw _ (List.mem_of_getElem? (i := 18) rfl))) (by decide) (t := .boolean) (t' := (.array .byte)) (by decide) (by decide)))
    have F_middle_a0 : Fld Z h12 a0 "com/example/wadjet/wadjet/storage/IntegerChunk" "middle" "[C" u_middle := F_middle_a0.other W12 (Or.inr (slot_ne (Or.inl (hw _ (List.mem_of_getElem? (i := 61) rfl))) (Or.inl (hw _ (List.mem_of_getElem? (i := 18) rfl))) (by decide) (t := (.array .char)) (t' := (.array .byte)) (by decide) (by decide)))
    have F_wide_a0 : Fld Z h12 a0 "com/example/wadjet/wadjet/storage/IntegerChunk" "wide" "[I" u_wide := F_wide_a0.other W12 (Or.inr (slot_ne (Or.inl (hw _ (List.mem_of_getElem? (i := 63) rfl))) (Or.inl (hw _ (List.mem_of_getElem? (i := 18) rfl))) (by decide) (t := (.array .int)) (t' := (.array .byte)) (by decide) (by decide)))
    have F_nulls_a0 : Fld Z h12 a0 "com/example/wadjet/wadjet/storage/IntegerChunk" "nulls" "[J" .null := F_nulls_a0.other W12 (Or.inr (slot_ne (Or.inl (hw _ (List.mem_of_getElem? (i := 37) rfl))) (Or.inl (hw _ (List.mem_of_getElem? (i := 18) rfl))) (by decide) (t := (.array .long)) (t' := (.array .byte)) (by decide) (by decide)))
    have V_nr : Arv Z h12 nr kn .byte nn (ys.map Value.int) (.int (0 : Int32)) := V_nr.other W12 ne_nr_a0
    have V_va : Arv Z h12 va k2 .long nn (zs.map Value.long) (.long (0 : Int64)) := V_va.other W12 (Ne.symm ne_a0_va)
    have V_ra : Arv Z h12 ra k11 .byte nn ((List.replicate nn.toNatClampNeg (0 : Int32)).map Value.int) (.int (0 : Int32)) := V_ra.other W12 (Ne.symm ne_a0_ra)
    have Zh12 : n0 ≤ h12.size := Nat.le_trans Zh11 (Keep.of_wr W12).1
    have Kh12 : Keep h0 h12 [a0] := Kh11.wr W12 (Or.inl (by simp))
    have N12 := Fr.snoc X12 N8 g_a0
    obtain ⟨T13, X13, e13, st13⟩ := getF X12 hx hZ hown (host := "") (Or.inl (hw _ (List.mem_of_getElem? (i := 14) rfl))) Via.refl e12 F_width_a0 (g := (mkF m 197 #[.val (.ref a0), .val (.int p1), .val (.long q2), .second, .val (.ref va), .val (.long ls), .second, .val (.long gr), .second, .val (.long rg), .second, .val (.int fa), .val (.long mo), .second, .unset] [(.ref a0), (.ref a0)])) rfl rfl (hb hby d9_197)
    obtain ⟨T14, h14, X14, e14, W14, st14⟩ := putF X13 hx hZ hown (host := "") (Or.inl (hw _ (List.mem_of_getElem? (i := 60) rfl))) Via.refl e13 F_middle_a0 E_a0 (Or.inl (hw _ (List.mem_of_getElem? (i := 61) rfl))) (hw _ (List.mem_of_getElem? (i := 1) rfl)) (ty := (.array .char)) (by decide) rfl rfl (g := (mkF m 213 #[.val (.ref a0), .val (.int p1), .val (.long q2), .second, .val (.ref va), .val (.long ls), .second, .val (.long gr), .second, .val (.long rg), .second, .val (.int fa), .val (.long mo), .second, .unset] [.null, (.ref a0)])) rfl rfl (hb hby d9_213)
    have F_middle_a0 : Fld Z h14 a0 "com/example/wadjet/wadjet/storage/IntegerChunk" "middle" "[C" .null := F_middle_a0.same W14
    have E_a0 : Exa Z h14 a0 "com/example/wadjet/wadjet/storage/IntegerChunk" := E_a0.wr W14
    have F_width_a0 : Fld Z h14 a0 "com/example/wadjet/wadjet/storage/IntegerChunk" "width" "I" (.int (1 : Int32)) := F_width_a0.other W14 (Or.inr (slot_ne (Or.inl (hw _ (List.mem_of_getElem? (i := 15) rfl))) (Or.inl (hw _ (List.mem_of_getElem? (i := 61) rfl))) (by decide) (t := .int) (t' := (.array .char)) (by decide) (by decide)))
    have F_base_a0 : Fld Z h14 a0 "com/example/wadjet/wadjet/storage/IntegerChunk" "base" "J" (.long nb) := F_base_a0.other W14 (Or.inr (slot_ne (Or.inl (hw _ (List.mem_of_getElem? (i := 31) rfl))) (Or.inl (hw _ (List.mem_of_getElem? (i := 61) rfl))) (by decide) (t := .long) (t' := (.array .char)) (by decide) (by decide)))
    have F_based_a0 : Fld Z h14 a0 "com/example/wadjet/wadjet/storage/IntegerChunk" "based" "Z" u_based := F_based_a0.other W14 (Or.inr (slot_ne (Or.inl (hw _ (List.mem_of_getElem? (i := 29) rfl))) (Or.inl (hw _ (List.mem_of_getElem? (i := 61) rfl))) (by decide) (t := .boolean) (t' := (.array .char)) (by decide) (by decide)))
    have F_narrow_a0 : Fld Z h14 a0 "com/example/wadjet/wadjet/storage/IntegerChunk" "narrow" "[B" (.ref ra) := F_narrow_a0.other W14 (Or.inr (slot_ne (Or.inl (hw _ (List.mem_of_getElem? (i := 18) rfl))) (Or.inl (hw _ (List.mem_of_getElem? (i := 61) rfl))) (by decide) (t := (.array .byte)) (t' := (.array .char)) (by decide) (by decide)))
    have F_wide_a0 : Fld Z h14 a0 "com/example/wadjet/wadjet/storage/IntegerChunk" "wide" "[I" u_wide := F_wide_a0.other W14 (Or.inr (slot_ne (Or.inl (hw _ (List.mem_of_getElem? (i := 63) rfl))) (Or.inl (hw _ (List.mem_of_getElem? (i := 61) rfl))) (by decide) (t := (.array .int)) (t' := (.array .char)) (by decide) (by decide)))
    have F_nulls_a0 : Fld Z h14 a0 "com/example/wadjet/wadjet/storage/IntegerChunk" "nulls" "[J" .null := F_nulls_a0.other W14 (Or.inr (slot_ne (Or.inl (hw _ (List.mem_of_getElem? (i := 37) rfl))) (Or.inl (hw _ (List.mem_of_getElem? (i := 61) rfl))) (by decide) (t := (.array .long)) (t' := (.array .char)) (by decide) (by decide)))
    have V_nr : Arv Z h14 nr kn .byte nn (ys.map Value.int) (.int (0 : Int32)) := V_nr.other W14 ne_nr_a0
    have V_va : Arv Z h14 va k2 .long nn (zs.map Value.long) (.long (0 : Int64)) := V_va.other W14 (Ne.symm ne_a0_va)
    have V_ra : Arv Z h14 ra k11 .byte nn ((List.replicate nn.toNatClampNeg (0 : Int32)).map Value.int) (.int (0 : Int32)) := V_ra.other W14 (Ne.symm ne_a0_ra)
    have Zh14 : n0 ≤ h14.size := Nat.le_trans Zh12 (Keep.of_wr W14).1
    have Kh14 : Keep h0 h14 [a0] := Kh12.wr W14 (Or.inl (by simp))
    have N14 := Fr.snoc X14 N12 g_a0
    obtain ⟨T15, X15, e15, st15⟩ := getF X14 hx hZ hown (host := "") (Or.inl (hw _ (List.mem_of_getElem? (i := 14) rfl))) Via.refl e14 F_width_a0 (g := (mkF m 218 #[.val (.ref a0), .val (.int p1), .val (.long q2), .second, .val (.ref va), .val (.long ls), .second, .val (.long gr), .second, .val (.long rg), .second, .val (.int fa), .val (.long mo), .second, .unset] [(.ref a0), (.ref a0)])) rfl rfl (hb hby d9_218)
    obtain ⟨T16, h16, X16, e16, W16, st16⟩ := putF X15 hx hZ hown (host := "") (Or.inl (hw _ (List.mem_of_getElem? (i := 62) rfl))) Via.refl e15 F_wide_a0 E_a0 (Or.inl (hw _ (List.mem_of_getElem? (i := 63) rfl))) (hw _ (List.mem_of_getElem? (i := 1) rfl)) (ty := (.array .int)) (by decide) rfl rfl (g := (mkF m 234 #[.val (.ref a0), .val (.int p1), .val (.long q2), .second, .val (.ref va), .val (.long ls), .second, .val (.long gr), .second, .val (.long rg), .second, .val (.int fa), .val (.long mo), .second, .unset] [.null, (.ref a0)])) rfl rfl (hb hby d9_234)
    have F_wide_a0 : Fld Z h16 a0 "com/example/wadjet/wadjet/storage/IntegerChunk" "wide" "[I" .null := F_wide_a0.same W16
    have E_a0 : Exa Z h16 a0 "com/example/wadjet/wadjet/storage/IntegerChunk" := E_a0.wr W16
    have F_width_a0 : Fld Z h16 a0 "com/example/wadjet/wadjet/storage/IntegerChunk" "width" "I" (.int (1 : Int32)) := F_width_a0.other W16 (Or.inr (slot_ne (Or.inl (hw _ (List.mem_of_getElem? (i := 15) rfl))) (Or.inl (hw _ (List.mem_of_getElem? (i := 63) rfl))) (by decide) (t := .int) (t' := (.array .int)) (by decide) (by decide)))
    have F_base_a0 : Fld Z h16 a0 "com/example/wadjet/wadjet/storage/IntegerChunk" "base" "J" (.long nb) := F_base_a0.other W16 (Or.inr (slot_ne (Or.inl (hw _ (List.mem_of_getElem? (i := 31) rfl))) (Or.inl (hw _ (List.mem_of_getElem? (i := 63) rfl))) (by decide) (t := .long) (t' := (.array .int)) (by decide) (by decide)))
    have F_based_a0 : Fld Z h16 a0 "com/example/wadjet/wadjet/storage/IntegerChunk" "based" "Z" u_based := F_based_a0.other W16 (Or.inr (slot_ne (Or.inl (hw _ (List.mem_of_getElem? (i := 29) rfl))) (Or.inl (hw _ (List.mem_of_getElem? (i := 63) rfl))) (by decide) (t := .boolean) (t' := (.array .int)) (by decide) (by decide)))
    have F_narrow_a0 : Fld Z h16 a0 "com/example/wadjet/wadjet/storage/IntegerChunk" "narrow" "[B" (.ref ra) := F_narrow_a0.other W16 (Or.inr (slot_ne (Or.inl (hw _ (List.mem_of_getElem? (i := 18) rfl))) (Or.inl (hw _ (List.mem_of_getElem? (i := 63) rfl))) (by decide) (t := (.array .byte)) (t' := (.array .int)) (by decide) (by decide)))
    have F_middle_a0 : Fld Z h16 a0 "com/example/wadjet/wadjet/storage/IntegerChunk" "middle" "[C" .null := F_middle_a0.other W16 (Or.inr (slot_ne (Or.inl (hw _ (List.mem_of_getElem? (i := 61) rfl))) (Or.inl (hw _ (List.mem_of_getElem? (i := 63) rfl))) (by decide) (t := (.array .char)) (t' := (.array .int)) (by decide) (by decide)))
    have F_nulls_a0 : Fld Z h16 a0 "com/example/wadjet/wadjet/storage/IntegerChunk" "nulls" "[J" .null := F_nulls_a0.other W16 (Or.inr (slot_ne (Or.inl (hw _ (List.mem_of_getElem? (i := 37) rfl))) (Or.inl (hw _ (List.mem_of_getElem? (i := 63) rfl))) (by decide) (t := (.array .long)) (t' := (.array .int)) (by decide) (by decide)))
    have V_nr : Arv Z h16 nr kn .byte nn (ys.map Value.int) (.int (0 : Int32)) := V_nr.other W16 ne_nr_a0
    have V_va : Arv Z h16 va k2 .long nn (zs.map Value.long) (.long (0 : Int64)) := V_va.other W16 (Ne.symm ne_a0_va)
    have V_ra : Arv Z h16 ra k11 .byte nn ((List.replicate nn.toNatClampNeg (0 : Int32)).map Value.int) (.int (0 : Int32)) := V_ra.other W16 (Ne.symm ne_a0_ra)
    have Zh16 : n0 ≤ h16.size := Nat.le_trans Zh14 (Keep.of_wr W16).1
    have Kh16 : Keep h0 h16 [a0] := Kh14.wr W16 (Or.inl (by simp))
    have N16 := Fr.snoc X16 N14 g_a0
    obtain ⟨T17, h17, L17, X17, e17, N17, Kc17, E_a0, F_width_a0, F_base_a0, F_based_a0, F_narrow_a0, F_middle_a0, F_wide_a0, F_nulls_a0, V_ra, V_va, st17⟩ := lq1 a0 p1 q2 va ls gr rg mo fa u_based .null .null .null nb ra k11 nn k2 zs hx hZ hw hby hml hown g_ra ne_a0_ra ne_va_ra hn.2 nn.toNatClampNeg 0 (List.replicate nn.toNatClampNeg 0) X16 e16 N16 Zh16 E_a0 F_width_a0 F_base_a0 F_based_a0 F_narrow_a0 F_middle_a0 F_wide_a0 F_nulls_a0 V_ra V_va (by rw [own_tn]; omega) (by rw [List.length_replicate])
    have Zh17 : n0 ≤ h17.size := Nat.le_trans Zh16 Kc17.1
    have Kh17 : Keep h0 h17 [a0] := Kh16.trans Kc17 (allS (Or.inr sz_ra) all0)
    obtain ⟨fs, hr, hrun, hended, hW, hsame⟩ := X17.leave (v := none) (fun _ => rfl)
    refine ⟨_, _, pre0 _ ?_, hrun, hended, _, _, rfl, ?_, ⟨_, rfl⟩, hW, hsame.mono (by decide) (by decide)⟩
    · show Steps p.tables e below (s₁.setTop (mkF m 0 #[.val (.ref a0), .val (.int p1), .val (.long q2), .second, .unset, .unset, .unset, .unset, .unset, .unset, .unset, .unset, .unset, .unset, .unset] [])) _
      refine XS.aloadN X0.here hx rfl (hb hby d9_0) rfl rfl ?_
      refine st1.trans ?_
      show Steps p.tables e below (T1.setTop (mkF m 4 #[.val (.ref a0), .val (.int p1), .val (.long q2), .second, .unset, .unset, .unset, .unset, .unset, .unset, .unset, .unset, .unset, .unset, .unset] [(.int nn)])) _
      refine st2 _ ?_
      show Steps p.tables e below (T2.setTop (mkF m 6 #[.val (.ref a0), .val (.int p1), .val (.long q2), .second, .unset, .unset, .unset, .unset, .unset, .unset, .unset, .unset, .unset, .unset, .unset] [(.ref va)])) _
      refine XS.astore X2.here hx rfl (hb hby d9_6) rfl rfl (l' := #[.val (.ref a0), .val (.int p1), .val (.long q2), .second, .val (.ref va), .unset, .unset, .unset, .unset, .unset, .unset, .unset, .unset, .unset, .unset]) rfl ?_
      refine XS.lloadN X2.here hx rfl (hb hby d9_8) rfl ?_
      refine XS.lstore X2.here hx rfl (hb hby d9_9) rfl (l' := #[.val (.ref a0), .val (.int p1), .val (.long q2), .second, .val (.ref va), .val (.long q2), .second, .unset, .unset, .unset, .unset, .unset, .unset, .unset, .unset]) rfl ?_
      refine XS.lloadN X2.here hx rfl (hb hby d9_11) rfl ?_
      show Steps p.tables e below (T2.setTop (mkF m 12 #[.val (.ref a0), .val (.int p1), .val (.long q2), .second, .val (.ref va), .val (.long q2), .second, .unset, .unset, .unset, .unset, .unset, .unset, .unset, .unset] [(.long q2)])) _
      refine XS.lstore X2.here hx rfl (hb hby d9_12) rfl (l' := #[.val (.ref a0), .val (.int p1), .val (.long q2), .second, .val (.ref va), .val (.long q2), .second, .val (.long q2), .second, .unset, .unset, .unset, .unset, .unset, .unset]) rfl ?_
      refine XS.iconst X2.here hx rfl (hb hby d9_14) ?_
      refine XS.istore X2.here hx rfl (hb hby d9_15) rfl (l' := #[.val (.ref a0), .val (.int p1), .val (.long q2), .second, .val (.ref va), .val (.long q2), .second, .val (.long q2), .second, .val (.int (0 : Int32)), .unset, .unset, .unset, .unset, .unset]) rfl ?_
      refine st3 _ ?_
      show Steps p.tables e below (T3.setTop (mkF m 76 #[.val (.ref a0), .val (.int p1), .val (.long q2), .second, .val (.ref va), .val (.long ls), .second, .val (.long gr), .second, .val (.int (Int32.ofNat (0 + nn.toNatClampNeg))), .unset, .unset, .unset, .unset, .unset] [])) _
      refine XS.lload X3.here hx rfl (hb hby d9_76) rfl ?_
      refine XS.lload X3.here hx rfl (hb hby d9_78) rfl ?_
      refine XS.lsub X3.here hx rfl (hb hby d9_80) rfl ?_
      show Steps p.tables e below (T3.setTop (mkF m 81 #[.val (.ref a0), .val (.int p1), .val (.long q2), .second, .val (.ref va), .val (.long ls), .second, .val (.long gr), .second, .val (.int (Int32.ofNat (0 + nn.toNatClampNeg))), .unset, .unset, .unset, .unset, .unset] [(.long (gr - ls))])) _
      rw [← h_rg]
      show Steps p.tables e below (T3.setTop (mkF m 81 #[.val (.ref a0), .val (.int p1), .val (.long q2), .second, .val (.ref va), .val (.long ls), .second, .val (.long gr), .second, .val (.int (Int32.ofNat (0 + nn.toNatClampNeg))), .unset, .unset, .unset, .unset, .unset] [(.long rg)])) _
      refine XS.lstore X3.here hx rfl (hb hby d9_81) rfl (l' := #[.val (.ref a0), .val (.int p1), .val (.long q2), .second, .val (.ref va), .val (.long ls), .second, .val (.long gr), .second, .val (.long rg), .second, .unset, .unset, .unset, .unset]) rfl ?_
      refine XS.lloadN X3.here hx rfl (hb hby d9_83) rfl ?_
      refine XS.aloadN X3.here hx rfl (hb hby d9_84) rfl rfl ?_
      refine st4 _ ?_
      show Steps p.tables e below (T4.setTop (mkF m 88 #[.val (.ref a0), .val (.int p1), .val (.long q2), .second, .val (.ref va), .val (.long ls), .second, .val (.long gr), .second, .val (.long rg), .second, .unset, .unset, .unset, .unset] [(.long bb), (.long q2)])) _
      refine XS.lcmp X4.here hx rfl (hb hby d9_88) rfl ?_
      refine own_via (T4.setTop (mkF m 97 #[.val (.ref a0), .val (.int p1), .val (.long q2), .second, .val (.ref va), .val (.long ls), .second, .val (.long gr), .second, .val (.long rg), .second, .unset, .unset, .unset, .unset] [(.int (if q2 < bb then (1 : Int32) else (0 : Int32)))])) (fun k => ?_) ?_
      · by_cases hc89 : q2 < bb
        · show Steps p.tables e below (T4.setTop (mkF m 89 #[.val (.ref a0), .val (.int p1), .val (.long q2), .second, .val (.ref va), .val (.long ls), .second, .val (.long gr), .second, .val (.long rg), .second, .unset, .unset, .unset, .unset] [(.int (lcmpW q2 bb))])) _
          refine XS.ifNo X4.here hx rfl (hb hby d9_89) rfl ((if0 _ _).trans (tlt ((lw_lt _ _).mpr hc89)).2.1) ?_
          refine XS.iconst X4.here hx rfl (hb hby d9_92) ?_
          refine XS.goto X4.here hx rfl (pc0 := 93) (pc' := 97) rfl (hb hby d9_93) (by decide) (by decide) ?_
          try simp only [if_pos hc89] at k
          exact k
        · show Steps p.tables e below (T4.setTop (mkF m 89 #[.val (.ref a0), .val (.int p1), .val (.long q2), .second, .val (.ref va), .val (.long ls), .second, .val (.long gr), .second, .val (.long rg), .second, .unset, .unset, .unset, .unset] [(.int (lcmpW q2 bb))])) _
          refine XS.ifYes X4.here hx rfl (pc0 := 89) (pc' := 96) rfl (hb hby d9_89) rfl ((if0 _ _).trans (flt (mt (lw_lt _ _).mp hc89)).2.1) (by decide) (by decide) ?_
          show Steps p.tables e below (T4.setTop (mkF m 96 #[.val (.ref a0), .val (.int p1), .val (.long q2), .second, .val (.ref va), .val (.long ls), .second, .val (.long gr), .second, .val (.long rg), .second, .unset, .unset, .unset, .unset] [])) _
          refine XS.iconst X4.here hx rfl (hb hby d9_96) ?_
          try simp only [if_neg hc89] at k
          exact k
      show Steps p.tables e below (T4.setTop (mkF m 97 #[.val (.ref a0), .val (.int p1), .val (.long q2), .second, .val (.ref va), .val (.long ls), .second, .val (.long gr), .second, .val (.long rg), .second, .unset, .unset, .unset, .unset] [(.int (if q2 < bb then (1 : Int32) else (0 : Int32)))])) _
      rw [← h_fa]
      show Steps p.tables e below (T4.setTop (mkF m 97 #[.val (.ref a0), .val (.int p1), .val (.long q2), .second, .val (.ref va), .val (.long ls), .second, .val (.long gr), .second, .val (.long rg), .second, .unset, .unset, .unset, .unset] [(.int fa)])) _
      refine XS.istore X4.here hx rfl (hb hby d9_97) rfl (l' := #[.val (.ref a0), .val (.int p1), .val (.long q2), .second, .val (.ref va), .val (.long ls), .second, .val (.long gr), .second, .val (.long rg), .second, .val (.int fa), .unset, .unset, .unset]) rfl ?_
      refine XS.aloadN X4.here hx rfl (hb hby d9_99) rfl rfl ?_
      show Steps p.tables e below (T4.setTop (mkF m 100 #[.val (.ref a0), .val (.int p1), .val (.long q2), .second, .val (.ref va), .val (.long ls), .second, .val (.long gr), .second, .val (.long rg), .second, .val (.int fa), .unset, .unset, .unset] [(.ref a0)])) _
      refine XS.lload X4.here hx rfl (hb hby d9_100) rfl ?_
      refine X4.ldc2Long hx hown (mvT hZ (hw _ (List.mem_of_getElem? (i := 59) rfl))) (g := (mkF m 102 #[.val (.ref a0), .val (.int p1), .val (.long q2), .second, .val (.ref va), .val (.long ls), .second, .val (.long gr), .second, .val (.long rg), .second, .val (.int fa), .unset, .unset, .unset] [(.long rg), (.ref a0)])) rfl (hb hby d9_102) _ ?_
      show Steps p.tables e below (T4.setTop (mkF m 105 #[.val (.ref a0), .val (.int p1), .val (.long q2), .second, .val (.ref va), .val (.long ls), .second, .val (.long gr), .second, .val (.long rg), .second, .val (.int fa), .unset, .unset, .unset] [(.long (256 : Int64)), (.long rg), (.ref a0)])) _
      refine XS.lcmp X4.here hx rfl (hb hby d9_105) rfl ?_
      refine XS.ifNo X4.here hx rfl (hb hby d9_106) rfl ((if0 _ _).trans (tlt ((lw_lt _ _).mpr hc106)).2.1) ?_
      show Steps p.tables e below (T4.setTop (mkF m 109 #[.val (.ref a0), .val (.int p1), .val (.long q2), .second, .val (.ref va), .val (.long ls), .second, .val (.long gr), .second, .val (.long rg), .second, .val (.int fa), .unset, .unset, .unset] [(.ref a0)])) _
      refine XS.iconst X4.here hx rfl (hb hby d9_109) ?_
      refine XS.goto X4.here hx rfl (pc0 := 110) (pc' := 127) rfl (hb hby d9_110) (by decide) (by decide) ?_
      show Steps p.tables e below (T4.setTop (mkF m 127 #[.val (.ref a0), .val (.int p1), .val (.long q2), .second, .val (.ref va), .val (.long ls), .second, .val (.long gr), .second, .val (.long rg), .second, .val (.int fa), .unset, .unset, .unset] [(.int (1 : Int32)), (.ref a0)])) _
      refine st5 _ ?_
      show Steps p.tables e below (T5.setTop (mkF m 130 #[.val (.ref a0), .val (.int p1), .val (.long q2), .second, .val (.ref va), .val (.long ls), .second, .val (.long gr), .second, .val (.long rg), .second, .val (.int fa), .unset, .unset, .unset] [])) _
      refine XS.lconst X5.here hx rfl (hb hby d9_130) ?_
      show Steps p.tables e below (T5.setTop (mkF m 131 #[.val (.ref a0), .val (.int p1), .val (.long q2), .second, .val (.ref va), .val (.long ls), .second, .val (.long gr), .second, .val (.long rg), .second, .val (.int fa), .unset, .unset, .unset] [(.long (1 : Int64))])) _
      refine XS.bipush X5.here hx rfl (hb hby d9_131) ?_
      refine XS.aloadN X5.here hx rfl (hb hby d9_133) rfl rfl ?_
      refine st6 _ ?_
      show Steps p.tables e below (T6.setTop (mkF m 137 #[.val (.ref a0), .val (.int p1), .val (.long q2), .second, .val (.ref va), .val (.long ls), .second, .val (.long gr), .second, .val (.long rg), .second, .val (.int fa), .unset, .unset, .unset] [(.int (1 : Int32)), (.int (8 : Int32)), (.long (1 : Int64))])) _
      refine XS.imul X6.here hx rfl (hb hby d9_137) rfl ?_
      show Steps p.tables e below (T6.setTop (mkF m 138 #[.val (.ref a0), .val (.int p1), .val (.long q2), .second, .val (.ref va), .val (.long ls), .second, .val (.long gr), .second, .val (.long rg), .second, .val (.int fa), .unset, .unset, .unset] [(.int ((8 : Int32) * (1 : Int32))), (.long (1 : Int64))])) _
      refine XS.lshl X6.here hx rfl (hb hby d9_138) rfl ?_
      refine XS.lconst X6.here hx rfl (hb hby d9_139) ?_
      refine XS.lsub X6.here hx rfl (hb hby d9_140) rfl ?_
      show Steps p.tables e below (T6.setTop (mkF m 141 #[.val (.ref a0), .val (.int p1), .val (.long q2), .second, .val (.ref va), .val (.long ls), .second, .val (.long gr), .second, .val (.long rg), .second, .val (.int fa), .unset, .unset, .unset] [(.long (((1 : Int64) <<< (((8 : Int32) * (1 : Int32)) &&& 0x3f).toInt64) - (1 : Int64)))])) _
      rw [← h_mo]
      show Steps p.tables e below (T6.setTop (mkF m 141 #[.val (.ref a0), .val (.int p1), .val (.long q2), .second, .val (.ref va), .val (.long ls), .second, .val (.long gr), .second, .val (.long rg), .second, .val (.int fa), .unset, .unset, .unset] [(.long mo)])) _
      refine XS.lstore X6.here hx rfl (hb hby d9_141) rfl (l' := #[.val (.ref a0), .val (.int p1), .val (.long q2), .second, .val (.ref va), .val (.long ls), .second, .val (.long gr), .second, .val (.long rg), .second, .val (.int fa), .val (.long mo), .second, .unset]) rfl ?_
      refine XS.aloadN X6.here hx rfl (hb hby d9_143) rfl rfl ?_
      refine XS.aloadN X6.here hx rfl (hb hby d9_144) rfl rfl ?_
      refine st7 _ ?_
      show Steps p.tables e below (T7.setTop (mkF m 148 #[.val (.ref a0), .val (.int p1), .val (.long q2), .second, .val (.ref va), .val (.long ls), .second, .val (.long gr), .second, .val (.long rg), .second, .val (.int fa), .val (.long mo), .second, .unset] [(.int (1 : Int32)), (.ref a0)])) _
      refine XS.iconst X7.here hx rfl (hb hby d9_148) ?_
      refine XS.icmpYes X7.here hx rfl (pc0 := 149) (pc' := 156) rfl (hb hby d9_149) rfl (feq (by decide : ¬ ((1 : Int32) = (4 : Int32)))).2 (by decide) (by decide) ?_
      show Steps p.tables e below (T7.setTop (mkF m 156 #[.val (.ref a0), .val (.int p1), .val (.long q2), .second, .val (.ref va), .val (.long ls), .second, .val (.long gr), .second, .val (.long rg), .second, .val (.int fa), .val (.long mo), .second, .unset] [(.ref a0)])) _
      refine XS.iload X7.here hx rfl (hb hby d9_156) rfl ?_
      refine own_via (T7.setTop (mkF m 171 #[.val (.ref a0), .val (.int p1), .val (.long q2), .second, .val (.ref va), .val (.long ls), .second, .val (.long gr), .second, .val (.long rg), .second, .val (.int fa), .val (.long mo), .second, .unset] [(.long (if fa = (0 : Int32) then ls else (gr - mo))), (.ref a0)])) (fun k => ?_) ?_
      · by_cases hc158 : fa = (0 : Int32)
        · show Steps p.tables e below (T7.setTop (mkF m 158 #[.val (.ref a0), .val (.int p1), .val (.long q2), .second, .val (.ref va), .val (.long ls), .second, .val (.long gr), .second, .val (.long rg), .second, .val (.int fa), .val (.long mo), .second, .unset] [(.int fa), (.ref a0)])) _
          refine XS.ifYes X7.here hx rfl (pc0 := 158) (pc' := 169) rfl (hb hby d9_158) rfl ((if0 _ _).trans (teq hc158).1) (by decide) (by decide) ?_
          show Steps p.tables e below (T7.setTop (mkF m 169 #[.val (.ref a0), .val (.int p1), .val (.long q2), .second, .val (.ref va), .val (.long ls), .second, .val (.long gr), .second, .val (.long rg), .second, .val (.int fa), .val (.long mo), .second, .unset] [(.ref a0)])) _
          refine XS.lload X7.here hx rfl (hb hby d9_169) rfl ?_
          try simp only [if_pos hc158] at k
          exact k
        · show Steps p.tables e below (T7.setTop (mkF m 158 #[.val (.ref a0), .val (.int p1), .val (.long q2), .second, .val (.ref va), .val (.long ls), .second, .val (.long gr), .second, .val (.long rg), .second, .val (.int fa), .val (.long mo), .second, .unset] [(.int fa), (.ref a0)])) _
          refine XS.ifNo X7.here hx rfl (hb hby d9_158) rfl ((if0 _ _).trans (feq hc158).1) ?_
          show Steps p.tables e below (T7.setTop (mkF m 161 #[.val (.ref a0), .val (.int p1), .val (.long q2), .second, .val (.ref va), .val (.long ls), .second, .val (.long gr), .second, .val (.long rg), .second, .val (.int fa), .val (.long mo), .second, .unset] [(.ref a0)])) _
          refine XS.lload X7.here hx rfl (hb hby d9_161) rfl ?_
          refine XS.lload X7.here hx rfl (hb hby d9_163) rfl ?_
          refine XS.lsub X7.here hx rfl (hb hby d9_165) rfl ?_
          refine XS.goto X7.here hx rfl (pc0 := 166) (pc' := 171) rfl (hb hby d9_166) (by decide) (by decide) ?_
          try simp only [if_neg hc158] at k
          exact k
      show Steps p.tables e below (T7.setTop (mkF m 171 #[.val (.ref a0), .val (.int p1), .val (.long q2), .second, .val (.ref va), .val (.long ls), .second, .val (.long gr), .second, .val (.long rg), .second, .val (.int fa), .val (.long mo), .second, .unset] [(.long (if fa = (0 : Int32) then ls else (gr - mo))), (.ref a0)])) _
      rw [← h_nb]
      show Steps p.tables e below (T7.setTop (mkF m 171 #[.val (.ref a0), .val (.int p1), .val (.long q2), .second, .val (.ref va), .val (.long ls), .second, .val (.long gr), .second, .val (.long rg), .second, .val (.int fa), .val (.long mo), .second, .unset] [(.long nb), (.ref a0)])) _
      refine st8 _ ?_
      show Steps p.tables e below (T8.setTop (mkF m 174 #[.val (.ref a0), .val (.int p1), .val (.long q2), .second, .val (.ref va), .val (.long ls), .second, .val (.long gr), .second, .val (.long rg), .second, .val (.int fa), .val (.long mo), .second, .unset] [])) _
      refine XS.aloadN X8.here hx rfl (hb hby d9_174) rfl rfl ?_
      refine XS.aloadN X8.here hx rfl (hb hby d9_175) rfl rfl ?_
      refine st9 _ ?_
      show Steps p.tables e below (T9.setTop (mkF m 179 #[.val (.ref a0), .val (.int p1), .val (.long q2), .second, .val (.ref va), .val (.long ls), .second, .val (.long gr), .second, .val (.long rg), .second, .val (.int fa), .val (.long mo), .second, .unset] [(.int (1 : Int32)), (.ref a0)])) _
      refine XS.iconst X9.here hx rfl (hb hby d9_179) ?_
      refine XS.icmpNo X9.here hx rfl (hb hby d9_180) rfl (teq (by decide : (1 : Int32) = (1 : Int32))).2 ?_
      refine XS.aload X9.here hx rfl (hb hby d9_183) rfl rfl ?_
      refine X9.arraylength hx (by rw [e9]; exact Ar10.1) (State.isArrayOf_alike hZ.alike Ar10.2.1) (g := (mkF m 185 #[.val (.ref a0), .val (.int p1), .val (.long q2), .second, .val (.ref va), .val (.long ls), .second, .val (.long gr), .second, .val (.long rg), .second, .val (.int fa), .val (.long mo), .second, .unset] [(.ref va), (.ref a0)])) rfl rfl (hb hby d9_185) _ ?_
      rw [len_of SS10 MM10]
      show Steps p.tables e below (T9.setTop (mkF m 186 #[.val (.ref a0), .val (.int p1), .val (.long q2), .second, .val (.ref va), .val (.long ls), .second, .val (.long gr), .second, .val (.long rg), .second, .val (.int fa), .val (.long mo), .second, .unset] [(.int nn), (.ref a0)])) _
      refine st11 _ ?_
      show Steps p.tables e below (T11.setTop (mkF m 188 #[.val (.ref a0), .val (.int p1), .val (.long q2), .second, .val (.ref va), .val (.long ls), .second, .val (.long gr), .second, .val (.long rg), .second, .val (.int fa), .val (.long mo), .second, .unset] [(.ref ra), (.ref a0)])) _
      refine XS.goto X11.here hx rfl (pc0 := 188) (pc' := 192) rfl (hb hby d9_188) (by decide) (by decide) ?_
      show Steps p.tables e below (T11.setTop (mkF m 192 #[.val (.ref a0), .val (.int p1), .val (.long q2), .second, .val (.ref va), .val (.long ls), .second, .val (.long gr), .second, .val (.long rg), .second, .val (.int fa), .val (.long mo), .second, .unset] [(.ref ra), (.ref a0)])) _
      refine st12 _ ?_
      show Steps p.tables e below (T12.setTop (mkF m 195 #[.val (.ref a0), .val (.int p1), .val (.long q2), .second, .val (.ref va), .val (.long ls), .second, .val (.long gr), .second, .val (.long rg), .second, .val (.int fa), .val (.long mo), .second, .unset] [])) _
      refine XS.aloadN X12.here hx rfl (hb hby d9_195) rfl rfl ?_
      show Steps p.tables e below (T12.setTop (mkF m 196 #[.val (.ref a0), .val (.int p1), .val (.long q2), .second, .val (.ref va), .val (.long ls), .second, .val (.long gr), .second, .val (.long rg), .second, .val (.int fa), .val (.long mo), .second, .unset] [(.ref a0)])) _
      refine XS.aloadN X12.here hx rfl (hb hby d9_196) rfl rfl ?_
      refine st13 _ ?_
      show Steps p.tables e below (T13.setTop (mkF m 200 #[.val (.ref a0), .val (.int p1), .val (.long q2), .second, .val (.ref va), .val (.long ls), .second, .val (.long gr), .second, .val (.long rg), .second, .val (.int fa), .val (.long mo), .second, .unset] [(.int (1 : Int32)), (.ref a0)])) _
      refine XS.iconst X13.here hx rfl (hb hby d9_200) ?_
      refine XS.icmpYes X13.here hx rfl (pc0 := 201) (pc' := 212) rfl (hb hby d9_201) rfl (feq (by decide : ¬ ((1 : Int32) = (2 : Int32)))).2 (by decide) (by decide) ?_
      show Steps p.tables e below (T13.setTop (mkF m 212 #[.val (.ref a0), .val (.int p1), .val (.long q2), .second, .val (.ref va), .val (.long ls), .second, .val (.long gr), .second, .val (.long rg), .second, .val (.int fa), .val (.long mo), .second, .unset] [(.ref a0)])) _
      refine XS.aconstNull X13.here hx rfl (hb hby d9_212) ?_
      refine st14 _ ?_
      show Steps p.tables e below (T14.setTop (mkF m 216 #[.val (.ref a0), .val (.int p1), .val (.long q2), .second, .val (.ref va), .val (.long ls), .second, .val (.long gr), .second, .val (.long rg), .second, .val (.int fa), .val (.long mo), .second, .unset] [])) _
      refine XS.aloadN X14.here hx rfl (hb hby d9_216) rfl rfl ?_
      refine XS.aloadN X14.here hx rfl (hb hby d9_217) rfl rfl ?_
      show Steps p.tables e below (T14.setTop (mkF m 218 #[.val (.ref a0), .val (.int p1), .val (.long q2), .second, .val (.ref va), .val (.long ls), .second, .val (.long gr), .second, .val (.long rg), .second, .val (.int fa), .val (.long mo), .second, .unset] [(.ref a0), (.ref a0)])) _
      refine st15 _ ?_
      show Steps p.tables e below (T15.setTop (mkF m 221 #[.val (.ref a0), .val (.int p1), .val (.long q2), .second, .val (.ref va), .val (.long ls), .second, .val (.long gr), .second, .val (.long rg), .second, .val (.int fa), .val (.long mo), .second, .unset] [(.int (1 : Int32)), (.ref a0)])) _
      refine XS.iconst X15.here hx rfl (hb hby d9_221) ?_
      refine XS.icmpYes X15.here hx rfl (pc0 := 222) (pc' := 233) rfl (hb hby d9_222) rfl (feq (by decide : ¬ ((1 : Int32) = (4 : Int32)))).2 (by decide) (by decide) ?_
      show Steps p.tables e below (T15.setTop (mkF m 233 #[.val (.ref a0), .val (.int p1), .val (.long q2), .second, .val (.ref va), .val (.long ls), .second, .val (.long gr), .second, .val (.long rg), .second, .val (.int fa), .val (.long mo), .second, .unset] [(.ref a0)])) _
      refine XS.aconstNull X15.here hx rfl (hb hby d9_233) ?_
      show Steps p.tables e below (T15.setTop (mkF m 234 #[.val (.ref a0), .val (.int p1), .val (.long q2), .second, .val (.ref va), .val (.long ls), .second, .val (.long gr), .second, .val (.long rg), .second, .val (.int fa), .val (.long mo), .second, .unset] [.null, (.ref a0)])) _
      refine st16 _ ?_
      show Steps p.tables e below (T16.setTop (mkF m 237 #[.val (.ref a0), .val (.int p1), .val (.long q2), .second, .val (.ref va), .val (.long ls), .second, .val (.long gr), .second, .val (.long rg), .second, .val (.int fa), .val (.long mo), .second, .unset] [])) _
      refine XS.iconst X16.here hx rfl (hb hby d9_237) ?_
      refine XS.istore X16.here hx rfl (hb hby d9_238) rfl (l' := #[.val (.ref a0), .val (.int p1), .val (.long q2), .second, .val (.ref va), .val (.long ls), .second, .val (.long gr), .second, .val (.long rg), .second, .val (.int fa), .val (.long mo), .second, .val (.int (0 : Int32))]) rfl ?_
      refine st17 _ ?_
      show Steps p.tables e below (T17.setTop (mkF m 327 #[.val (.ref a0), .val (.int p1), .val (.long q2), .second, .val (.ref va), .val (.long ls), .second, .val (.long gr), .second, .val (.long rg), .second, .val (.int fa), .val (.long mo), .second, .val (.int (Int32.ofNat (0 + nn.toNatClampNeg)))] [])) _
      exact X17.returnOut hx Bd.returns (hb hby d9_327) hr
    · show Qwd Z a0 p1 q2 (1 : Int32) bb u_based nn ys h0 n0 _ T17.heap _
      rw [e17]
      exact ⟨rfl, N17, Kh17.1, _, _, _, ⟨_, ls, gr, zs, rfl, h_ls, h_gr, h_zs, Or.inl ⟨by rw [← h_rg]; exact hc106, rfl, by rw [h_nb, h_fa, h_mo]; rfl, rfl⟩⟩, g_a0, E_a0, _, _, _, _, _, g_ra, (Ne.symm ne_a0_ra), F_width_a0, F_base_a0, F_based_a0, F_narrow_a0, F_middle_a0, F_wide_a0, F_nulls_a0, Or.inl ⟨rfl, rfl, V_ra⟩⟩
  · by_cases hc119 : rg < (65536 : Int64)
    · obtain ⟨T18, h18, X18, e18, W18, st18⟩ := putF X4 hx hZ hown (host := "") (Or.inl (hw _ (List.mem_of_getElem? (i := 14) rfl))) Via.refl e4 F_width_a0 E_a0 (Or.inl (hw _ (List.mem_of_getElem? (i := 15) rfl))) (hw _ (List.mem_of_getElem? (i := 1) rfl)) (ty := .int) (by decide) rfl rfl (g := (mkF m 127 #[.val (.ref a0), .val (.int p1), .val (.long q2), .second, .val (.ref va), .val (.long ls), .second, .val (.long gr), .second, .val (.long rg), .second, .val (.int fa), .unset, .unset, .unset] [(.int (2 : Int32)), (.ref a0)])) rfl rfl (hb hby d9_127)
      have F_width_a0 : Fld Z h18 a0 "com/example/wadjet/wadjet/storage/IntegerChunk" "width" "I" (.int (2 : Int32)) := F_width_a0.same W18
      have E_a0 : Exa Z h18 a0 "com/example/wadjet/wadjet/storage/IntegerChunk" := E_a0.wr W18
      have F_base_a0 : Fld Z h18 a0 "com/example/wadjet/wadjet/storage/IntegerChunk" "base" "J" (.long bb) := F_base_a0.other W18 (Or.inr (slot_ne (Or.inl (hw _ (List.mem_of_getElem? (i := 31) rfl))) (Or.inl (hw _ (List.mem_of_getElem? (i := 15) rfl))) (by decide) (t := .long) (t' := .int) (by decide) (by decide)))
      have F_based_a0 : Fld Z h18 a0 "com/example/wadjet/wadjet/storage/IntegerChunk" "based" "Z" u_based := F_based_a0.other W18 (Or.inr (slot_ne (Or.inl (hw _ (List.mem_of_getElem? (i := 29) rfl))) (Or.inl (hw _ (List.mem_of_getElem? (i := 15) rfl))) (by decide) (t := .boolean) (t' := .int) (by decide) (by decide)))
      have F_narrow_a0 : Fld Z h18 a0 "com/example/wadjet/wadjet/storage/IntegerChunk" "narrow" "[B" (.ref nr) := F_narrow_a0.other W18 (Or.inr (slot_ne (Or.inl (hw _ (List.mem_of_getElem? (i := 18) rfl))) (Or.inl (hw _ (List.mem_of_getElem? (i := 15) rfl))) (by decide) (t := (.array .byte)) (t' := .int) (by decide) (by decide)))
      have F_middle_a0 : Fld Z h18 a0 "com/example/wadjet/wadjet/storage/IntegerChunk" "middle" "[C" u_middle := F_middle_a0.other W18 (Or.inr (slot_ne (Or.inl (hw _ (List.mem_of_getElem? (i := 61) rfl))) (Or.inl (hw _ (List.mem_of_getElem? (i := 15) rfl))) (by decide) (t := (.array .char)) (t' := .int) (by decide) (by decide)))
      have F_wide_a0 : Fld Z h18 a0 "com/example/wadjet/wadjet/storage/IntegerChunk" "wide" "[I" u_wide := F_wide_a0.other W18 (Or.inr (slot_ne (Or.inl (hw _ (List.mem_of_getElem? (i := 63) rfl))) (Or.inl (hw _ (List.mem_of_getElem? (i := 15) rfl))) (by decide) (t := (.array .int)) (t' := .int) (by decide) (by decide)))
      have F_nulls_a0 : Fld Z h18 a0 "com/example/wadjet/wadjet/storage/IntegerChunk" "nulls" "[J" .null := F_nulls_a0.other W18 (Or.inr (slot_ne (Or.inl (hw _ (List.mem_of_getElem? (i := 37) rfl))) (Or.inl (hw _ (List.mem_of_getElem? (i := 15) rfl))) (by decide) (t := (.array .long)) (t' := .int) (by decide) (by decide)))
      have V_nr : Arv Z h18 nr kn .byte nn (ys.map Value.int) (.int (0 : Int32)) := V_nr.other W18 ne_nr_a0
      have V_va : Arv Z h18 va k2 .long nn (zs.map Value.long) (.long (0 : Int64)) := V_va.other W18 (Ne.symm ne_a0_va)
      have Zh18 : n0 ≤ h18.size := Nat.le_trans Zh3 (Keep.of_wr W18).1
      have Kh18 : Keep h0 h18 [a0] := Kh3.wr W18 (Or.inl (by simp))
      have N18 := Fr.snoc X18 N3 g_a0
      obtain ⟨T19, X19, e19, st19⟩ := getF X18 hx hZ hown (host := "") (Or.inl (hw _ (List.mem_of_getElem? (i := 14) rfl))) Via.refl e18 F_width_a0 (g := (mkF m 134 #[.val (.ref a0), .val (.int p1), .val (.long q2), .second, .val (.ref va), .val (.long ls), .second, .val (.long gr), .second, .val (.long rg), .second, .val (.int fa), .unset, .unset, .unset] [(.ref a0), (.int (8 : Int32)), (.long (1 : Int64))])) rfl rfl (hb hby d9_134)
      obtain ⟨mo, h_mo⟩ : ∃ z : Int64, z = (((1 : Int64) <<< (((8 : Int32) * (2 : Int32)) &&& 0x3f).toInt64) - (1 : Int64)) := ⟨_, rfl⟩
      obtain ⟨T20, X20, e20, st20⟩ := getF X19 hx hZ hown (host := "") (Or.inl (hw _ (List.mem_of_getElem? (i := 14) rfl))) Via.refl e19 F_width_a0 (g := (mkF m 145 #[.val (.ref a0), .val (.int p1), .val (.long q2), .second, .val (.ref va), .val (.long ls), .second, .val (.long gr), .second, .val (.long rg), .second, .val (.int fa), .val (.long mo), .second, .unset] [(.ref a0), (.ref a0)])) rfl rfl (hb hby d9_145)
      obtain ⟨nb, h_nb⟩ : ∃ z : Int64, z = (if fa = (0 : Int32) then ls else (gr - mo)) := ⟨_, rfl⟩
      obtain ⟨T21, h21, X21, e21, W21, st21⟩ := putF X20 hx hZ hown (host := "") (Or.inl (hw _ (List.mem_of_getElem? (i := 30) rfl))) Via.refl e20 F_base_a0 E_a0 (Or.inl (hw _ (List.mem_of_getElem? (i := 31) rfl))) (hw _ (List.mem_of_getElem? (i := 1) rfl)) (ty := .long) (by decide) rfl rfl (g := (mkF m 171 #[.val (.ref a0), .val (.int p1), .val (.long q2), .second, .val (.ref va), .val (.long ls), .second, .val (.long gr), .second, .val (.long rg), .second, .val (.int fa), .val (.long mo), .second, .unset] [(.long nb), (.ref a0)])) rfl rfl (hb hby d9_171)
      have F_base_a0 : Fld Z h21 a0 "com/example/wadjet/wadjet/storage/IntegerChunk" "base" "J" (.long nb) := F_base_a0.same W21
      have E_a0 : Exa Z h21 a0 "com/example/wadjet/wadjet/storage/IntegerChunk" := E_a0.wr W21
      have F_width_a0 : Fld Z h21 a0 "com/example/wadjet/wadjet/storage/IntegerChunk" "width" "I" (.int (2 : Int32)) := F_width_a0.other W21 (Or.inr (slot_ne (Or.inl (hw _ (List.mem_of_getElem? (i := 15) rfl))) (Or.inl (hw _ (List.mem_of_getElem? (i := 31) rfl))) (by decide) (t := .int) (t' := .long) (by decide) (by decide)))
      have F_based_a0 : Fld Z h21 a0 "com/example/wadjet/wadjet/storage/IntegerChunk" "based" "Z" u_based := F_based_a0.other W21 (Or.inr (slot_ne (Or.inl (hw _ (List.mem_of_getElem? (i := 29) rfl))) (Or.inl (hw _ (List.mem_of_getElem? (i := 31) rfl))) (by decide) (t := .boolean) (t' := .long) (by decide) (by decide)))
      have F_narrow_a0 : Fld Z h21 a0 "com/example/wadjet/wadjet/storage/IntegerChunk" "narrow" "[B" (.ref nr) := F_narrow_a0.other W21 (Or.inr (slot_ne (Or.inl (hw _ (List.mem_of_getElem? (i := 18) rfl))) (Or.inl (hw _ (List.mem_of_getElem? (i := 31) rfl))) (by decide) (t := (.array .byte)) (t' := .long) (by decide) (by decide)))
      have F_middle_a0 : Fld Z h21 a0 "com/example/wadjet/wadjet/storage/IntegerChunk" "middle" "[C" u_middle := F_middle_a0.other W21 (Or.inr (slot_ne (Or.inl (hw _ (List.mem_of_getElem? (i := 61) rfl))) (Or.inl (hw _ (List.mem_of_getElem? (i := 31) rfl))) (by decide) (t := (.array .char)) (t' := .long) (by decide) (by decide)))
      have F_wide_a0 : Fld Z h21 a0 "com/example/wadjet/wadjet/storage/IntegerChunk" "wide" "[I" u_wide := F_wide_a0.other W21 (Or.inr (slot_ne (Or.inl (hw _ (List.mem_of_getElem? (i := 63) rfl))) (Or.inl (hw _ (List.mem_of_getElem? (i := 31) rfl))) (by decide) (t := (.array .int)) (t' := .long) (by decide) (by decide)))
      have F_nulls_a0 : Fld Z h21 a0 "com/example/wadjet/wadjet/storage/IntegerChunk" "nulls" "[J" .null := F_nulls_a0.other W21 (Or.inr (slot_ne (Or.inl (hw _ (List.mem_of_getElem? (i := 37) rfl))) (Or.inl (hw _ (List.mem_of_getElem? (i := 31) rfl))) (by decide) (t := (.array .long)) (t' := .long) (by decide) (by decide)))
      have V_nr : Arv Z h21 nr kn .byte nn (ys.map Value.int) (.int (0 : Int32)) := V_nr.other W21 ne_nr_a0
      have V_va : Arv Z h21 va k2 .long nn (zs.map Value.long) (.long (0 : Int64)) := V_va.other W21 (Ne.symm ne_a0_va)
      have Zh21 : n0 ≤ h21.size := Nat.le_trans Zh18 (Keep.of_wr W21).1
      have Kh21 : Keep h0 h21 [a0] := Kh18.wr W21 (Or.inl (by simp))
      have N21 := Fr.snoc X21 N18 g_a0
      obtain ⟨T22, X22, e22, st22⟩ := getF X21 hx hZ hown (host := "") (Or.inl (hw _ (List.mem_of_getElem? (i := 14) rfl))) Via.refl e21 F_width_a0 (g := (mkF m 176 #[.val (.ref a0), .val (.int p1), .val (.long q2), .second, .val (.ref va), .val (.long ls), .second, .val (.long gr), .second, .val (.long rg), .second, .val (.int fa), .val (.long mo), .second, .unset] [(.ref a0), (.ref a0)])) rfl rfl (hb hby d9_176)
      obtain ⟨T23, h23, X23, e23, W23, st23⟩ := putF X22 hx hZ hown (host := "") (Or.inl (hw _ (List.mem_of_getElem? (i := 17) rfl))) Via.refl e22 F_narrow_a0 E_a0 (Or.inl (hw _ (List.mem_of_getElem? (i := 18) rfl))) (hw _ (List.mem_of_getElem? (i := 1) rfl)) (ty := (.array .byte)) (by decide) rfl rfl (g := (mkF m 192 #[.val (.ref a0), .val (.int p1), .val (.long q2), .second, .val (.ref va), .val (.long ls), .second, .val (.long gr), .second, .val (.long rg), .second, .val (.int fa), .val (.long mo), .second, .unset] [.null, (.ref a0)])) rfl rfl (hb hby d9_192)
      have F_narrow_a0 : Fld Z h23 a0 "com/example/wadjet/wadjet/storage/IntegerChunk" "narrow" "[B" .null := F_narrow_a0.same W23
      have E_a0 : Exa Z h23 a0 "com/example/wadjet/wadjet/storage/IntegerChunk" := E_a0.wr W23
      have F_width_a0 : Fld Z h23 a0 "com/example/wadjet/wadjet/storage/IntegerChunk" "width" "I" (.int (2 : Int32)) := F_width_a0.other W23 (Or.inr (slot_ne (Or.inl (hw _ (List.mem_of_getElem? (i := 15) rfl))) (Or.inl (hw _ (List.mem_of_getElem? (i := 18) rfl))) (by decide) (t := .int) (t' := (.array .byte)) (by decide) (by decide)))
      have F_base_a0 : Fld Z h23 a0 "com/example/wadjet/wadjet/storage/IntegerChunk" "base" "J" (.long nb) := F_base_a0.other W23 (Or.inr (slot_ne (Or.inl (hw _ (List.mem_of_getElem? (i := 31) rfl))) (Or.inl (hw _ (List.mem_of_getElem? (i := 18) rfl))) (by decide) (t := .long) (t' := (.array .byte)) (by decide) (by decide)))
      have F_based_a0 : Fld Z h23 a0 "com/example/wadjet/wadjet/storage/IntegerChunk" "based" "Z" u_based := F_based_a0.other W23 (Or.inr (slot_ne (Or.inl (hw _ (List.mem_of_getElem? (i := 29) rfl))) (Or.inl (hw _ (List.mem_of_getElem? (i := 18) rfl))) (by decide) (t := .boolean) (t' := (.array .byte)) (by decide) (by decide)))
      have F_middle_a0 : Fld Z h23 a0 "com/example/wadjet/wadjet/storage/IntegerChunk" "middle" "[C" u_middle := F_middle_a0.other W23 (Or.inr (slot_ne (Or.inl (hw _ (List.mem_of_getElem? (i := 61) rfl))) (Or.inl (hw _ (List.mem_of_getElem? (i := 18) rfl))) (by decide) (t := (.array .char)) (t' := (.array .byte)) (by decide) (by decide)))
      have F_wide_a0 : Fld Z h23 a0 "com/example/wadjet/wadjet/storage/IntegerChunk" "wide" "[I" u_wide := F_wide_a0.other W23 (Or.inr (slot_ne (Or.inl (hw _ (List.mem_of_getElem? (i := 63) rfl))) (Or.inl (hw _ (List.mem_of_getElem? (i := 18) rfl))) (by decide) (t := (.array .int)) (t' := (.array .byte)) (by decide) (by decide)))
      have F_nulls_a0 : Fld Z h23 a0 "com/example/wadjet/wadjet/storage/IntegerChunk" "nulls" "[J" .null := F_nulls_a0.other W23 (Or.inr (slot_ne (Or.inl (hw _ (List.mem_of_getElem? (i := 37) rfl))) (Or.inl (hw _ (List.mem_of_getElem? (i := 18) rfl))) (by decide) (t := (.array .long)) (t' := (.array .byte)) (by decide) (by decide)))
      have V_nr : Arv Z h23 nr kn .byte nn (ys.map Value.int) (.int (0 : Int32)) := V_nr.other W23 ne_nr_a0
      have V_va : Arv Z h23 va k2 .long nn (zs.map Value.long) (.long (0 : Int64)) := V_va.other W23 (Ne.symm ne_a0_va)
      have Zh23 : n0 ≤ h23.size := Nat.le_trans Zh21 (Keep.of_wr W23).1
      have Kh23 : Keep h0 h23 [a0] := Kh21.wr W23 (Or.inl (by simp))
      have N23 := Fr.snoc X23 N21 g_a0
      obtain ⟨T24, X24, e24, st24⟩ := getF X23 hx hZ hown (host := "") (Or.inl (hw _ (List.mem_of_getElem? (i := 14) rfl))) Via.refl e23 F_width_a0 (g := (mkF m 197 #[.val (.ref a0), .val (.int p1), .val (.long q2), .second, .val (.ref va), .val (.long ls), .second, .val (.long gr), .second, .val (.long rg), .second, .val (.int fa), .val (.long mo), .second, .unset] [(.ref a0), (.ref a0)])) rfl rfl (hb hby d9_197)
      obtain ⟨cl25, Ar25, -, SS25, MM25, -, -⟩ := id V_va
      obtain ⟨T26, h26, k26, X26, e26, E26, A26, st26⟩ := newP X24 hx hZ (hw _ (List.mem_of_getElem? (i := 101) rfl)) e24 (g := (mkF m 207 #[.val (.ref a0), .val (.int p1), .val (.long q2), .second, .val (.ref va), .val (.long ls), .second, .val (.long gr), .second, .val (.long rg), .second, .val (.int fa), .val (.long mo), .second, .unset] [(.int nn), (.ref a0)])) rfl (hb hby d9_207) rfl (own_nneg hn.1) (cap := 8) (by rw [own_tn]; omega) (by decide) (by decide) (by decide)
      obtain ⟨ra, g26⟩ : ∃ z, z = h23.size := ⟨_, rfl⟩
      rw [← g26] at A26 st26
      have ne_a0_ra : a0 ≠ ra := Nat.ne_of_lt (Nat.lt_of_lt_of_le E_a0.lt (Nat.le_of_eq g26.symm))
      have ne_nr_ra : nr ≠ ra := Nat.ne_of_lt (Nat.lt_of_lt_of_le V_nr.lt (Nat.le_of_eq g26.symm))
      have ne_va_ra : va ≠ ra := Nat.ne_of_lt (Nat.lt_of_lt_of_le V_va.lt (Nat.le_of_eq g26.symm))
      have g_ra : n0 ≤ ra := Nat.le_trans Zh23 (Nat.le_of_eq g26.symm)
      have sz_ra : h0.size ≤ ra := Nat.le_trans Kh23.1 (Nat.le_of_eq g26.symm)
      have E_a0 : Exa Z h26 a0 "com/example/wadjet/wadjet/storage/IntegerChunk" := E_a0.ext E26
      have F_width_a0 : Fld Z h26 a0 "com/example/wadjet/wadjet/storage/IntegerChunk" "width" "I" (.int (2 : Int32)) := F_width_a0.ext E26
      have F_base_a0 : Fld Z h26 a0 "com/example/wadjet/wadjet/storage/IntegerChunk" "base" "J" (.long nb) := F_base_a0.ext E26
      have F_based_a0 : Fld Z h26 a0 "com/example/wadjet/wadjet/storage/IntegerChunk" "based" "Z" u_based := F_based_a0.ext E26
      have F_narrow_a0 : Fld Z h26 a0 "com/example/wadjet/wadjet/storage/IntegerChunk" "narrow" "[B" .null := F_narrow_a0.ext E26
      have F_middle_a0 : Fld Z h26 a0 "com/example/wadjet/wadjet/storage/IntegerChunk" "middle" "[C" u_middle := F_middle_a0.ext E26
      have F_wide_a0 : Fld Z h26 a0 "com/example/wadjet/wadjet/storage/IntegerChunk" "wide" "[I" u_wide := F_wide_a0.ext E26
      have F_nulls_a0 : Fld Z h26 a0 "com/example/wadjet/wadjet/storage/IntegerChunk" "nulls" "[J" .null := F_nulls_a0.ext E26
      have V_nr : Arv Z h26 nr kn .byte nn (ys.map Value.int) (.int (0 : Int32)) := V_nr.ext E26
      have V_va : Arv Z h26 va k2 .long nn (zs.map Value.long) (.long (0 : Int64)) := V_va.ext E26
      have Zh26 : n0 ≤ h26.size := Nat.le_trans Zh23 E26.1
      have Kh26 : Keep h0 h26 [a0] := Kh23.ext E26
      have V_ra : Arv Z h26 ra k26 .char nn [] (.int (0 : Int32)) := Arv.new A26 (own_nneg hn.1)
      have V_ra : Arv Z h26 ra k26 .char nn ((List.replicate nn.toNatClampNeg (0 : Int32)).map Value.int) (.int (0 : Int32)) := by rw [List.map_replicate]; exact V_ra.pad (pad_rep [] (.int (0 : Int32)) nn.toNatClampNeg)
      obtain ⟨T27, h27, X27, e27, W27, st27⟩ := putF X26 hx hZ hown (host := "") (Or.inl (hw _ (List.mem_of_getElem? (i := 60) rfl))) Via.refl e26 F_middle_a0 E_a0 (Or.inl (hw _ (List.mem_of_getElem? (i := 61) rfl))) (hw _ (List.mem_of_getElem? (i := 1) rfl)) (ty := (.array .char)) (by decide) rfl rfl (g := (mkF m 213 #[.val (.ref a0), .val (.int p1), .val (.long q2), .second, .val (.ref va), .val (.long ls), .second, .val (.long gr), .second, .val (.long rg), .second, .val (.int fa), .val (.long mo), .second, .unset] [(.ref ra), (.ref a0)])) rfl rfl (hb hby d9_213)
      have F_middle_a0 : Fld Z h27 a0 "com/example/wadjet/wadjet/storage/IntegerChunk" "middle" "[C" (.ref ra) := F_middle_a0.same W27
      have E_a0 : Exa Z h27 a0 "com/example/wadjet/wadjet/storage/IntegerChunk" := E_a0.wr W27
      have F_width_a0 : Fld Z h27 a0 "com/example/wadjet/wadjet/storage/IntegerChunk" "width" "I" (.int (2 : Int32)) := F_width_a0.other W27 (Or.inr (slot_ne (Or.inl (hw _ (List.mem_of_getElem? (i := 15) rfl))) (Or.inl (hw _ (List.mem_of_getElem? (i := 61) rfl))) (by decide) (t := .int) (t' := (.array .char)) (by decide) (by decide)))
      have F_base_a0 : Fld Z h27 a0 "com/example/wadjet/wadjet/storage/IntegerChunk" "base" "J" (.long nb) := F_base_a0.other W27 (Or.inr (slot_ne (Or.inl (hw _ (List.mem_of_getElem? (i := 31) rfl))) (Or.inl (hw _ (List.mem_of_getElem? (i := 61) rfl))) (by decide) (t := .long) (t' := (.array .char)) (by decide) (by decide)))
      have F_based_a0 : Fld Z h27 a0 "com/example/wadjet/wadjet/storage/IntegerChunk" "based" "Z" u_based := F_based_a0.other W27 (Or.inr (slot_ne (Or.inl (hw _ (List.mem_of_getElem? (i := 29) rfl))) (Or.inl (hw _ (List.mem_of_getElem? (i := 61) rfl))) (by decide) (t := .boolean) (t' := (.array .char)) (by decide) (by decide)))
      have F_narrow_a0 : Fld Z h27 a0 "com/example/wadjet/wadjet/storage/IntegerChunk" "narrow" "[B" .null := F_narrow_a0.other W27 (Or.inr (slot_ne (Or.inl (hw _ (List.mem_of_getElem? (i := 18) rfl))) (Or.inl (hw _ (List.mem_of_getElem? (i := 61) rfl))) (by decide) (t := (.array .byte)) (t' := (.array .char)) (by decide) (by decide)))
      have F_wide_a0 : Fld Z h27 a0 "com/example/wadjet/wadjet/storage/IntegerChunk" "wide" "[I" u_wide := F_wide_a0.other W27 (Or.inr (slot_ne (Or.inl (hw _ (List.mem_of_getElem? (i := 63) rfl))) (Or.inl (hw _ (List.mem_of_getElem? (i := 61) rfl))) (by decide) (t := (.array .int)) (t' := (.array .char)) (by decide) (by decide)))
      have F_nulls_a0 : Fld Z h27 a0 "com/example/wadjet/wadjet/storage/IntegerChunk" "nulls" "[J" .null := F_nulls_a0.other W27 (Or.inr (slot_ne (Or.inl (hw _ (List.mem_of_getElem? (i := 37) rfl))) (Or.inl (hw _ (List.mem_of_getElem? (i := 61) rfl))) (by decide) (t := (.array .long)) (t' := (.array .char)) (by decide) (by decide)))
      have V_nr : Arv Z h27 nr kn .byte nn (ys.map Value.int) (.int (0 : Int32)) := V_nr.other W27 ne_nr_a0
      have V_va : Arv Z h27 va k2 .long nn (zs.map Value.long) (.long (0 : Int64)) := V_va.other W27 (Ne.symm ne_a0_va)
      have V_ra : Arv Z h27 ra k26 .char nn ((List.replicate nn.toNatClampNeg (0 : Int32)).map Value.int) (.int (0 : Int32)) := V_ra.other W27 (Ne.symm ne_a0_ra)
      have Zh27 : n0 ≤ h27.size := Nat.le_trans Zh26 (Keep.of_wr W27).1
      have Kh27 : Keep h0 h27 [a0] := Kh26.wr W27 (Or.inl (by simp))
      have N27 := Fr.snoc X27 N23 g_a0
      obtain ⟨T28, X28, e28, st28⟩ := getF X27 hx hZ hown (host := "") (Or.inl (hw _ (List.mem_of_getElem? (i := 14) rfl))) Via.refl e27 F_width_a0 (g := (mkF m 218 #[.val (.ref a0), .val (.int p1), .val (.long q2), .second, .val (.ref va), .val (.long ls), .second, .val (.long gr), .second, .val (.long rg), .second, .val (.int fa), .val (.long mo), .second, .unset] [(.ref a0), (.ref a0)])) rfl rfl (hb hby d9_218)
      obtain ⟨T29, h29, X29, e29, W29, st29⟩ := putF X28 hx hZ hown (host := "") (Or.inl (hw _ (List.mem_of_getElem? (i := 62) rfl))) Via.refl e28 F_wide_a0 E_a0 (Or.inl (hw _ (List.mem_of_getElem? (i := 63) rfl))) (hw _ (List.mem_of_getElem? (i := 1) rfl)) (ty := (.array .int)) (by decide) rfl rfl (g := (mkF m 234 #[.val (.ref a0), .val (.int p1), .val (.long q2), .second, .val (.ref va), .val (.long ls), .second, .val (.long gr), .second, .val (.long rg), .second, .val (.int fa), .val (.long mo), .second, .unset] [.null, (.ref a0)])) rfl rfl (hb hby d9_234)
      have F_wide_a0 : Fld Z h29 a0 "com/example/wadjet/wadjet/storage/IntegerChunk" "wide" "[I" .null := F_wide_a0.same W29
      have E_a0 : Exa Z h29 a0 "com/example/wadjet/wadjet/storage/IntegerChunk" := E_a0.wr W29
      have F_width_a0 : Fld Z h29 a0 "com/example/wadjet/wadjet/storage/IntegerChunk" "width" "I" (.int (2 : Int32)) := F_width_a0.other W29 (Or.inr (slot_ne (Or.inl (hw _ (List.mem_of_getElem? (i := 15) rfl))) (Or.inl (hw _ (List.mem_of_getElem? (i := 63) rfl))) (by decide) (t := .int) (t' := (.array .int)) (by decide) (by decide)))
      have F_base_a0 : Fld Z h29 a0 "com/example/wadjet/wadjet/storage/IntegerChunk" "base" "J" (.long nb) := F_base_a0.other W29 (Or.inr (slot_ne (Or.inl (hw _ (List.mem_of_getElem? (i := 31) rfl))) (Or.inl (hw _ (List.mem_of_getElem? (i := 63) rfl))) (by decide) (t := .long) (t' := (.array .int)) (by decide) (by decide)))
      have F_based_a0 : Fld Z h29 a0 "com/example/wadjet/wadjet/storage/IntegerChunk" "based" "Z" u_based := F_based_a0.other W29 (Or.inr (slot_ne (Or.inl (hw _ (List.mem_of_getElem? (i := 29) rfl))) (Or.inl (hw _ (List.mem_of_getElem? (i := 63) rfl))) (by decide) (t := .boolean) (t' := (.array .int)) (by decide) (by decide)))
      have F_narrow_a0 : Fld Z h29 a0 "com/example/wadjet/wadjet/storage/IntegerChunk" "narrow" "[B" .null := F_narrow_a0.other W29 (Or.inr (slot_ne (Or.inl (hw _ (List.mem_of_getElem? (i := 18) rfl))) (Or.inl (hw _ (List.mem_of_getElem? (i := 63) rfl))) (by decide) (t := (.array .byte)) (t' := (.array .int)) (by decide) (by decide)))
      have F_middle_a0 : Fld Z h29 a0 "com/example/wadjet/wadjet/storage/IntegerChunk" "middle" "[C" (.ref ra) := F_middle_a0.other W29 (Or.inr (slot_ne (Or.inl (hw _ (List.mem_of_getElem? (i := 61) rfl))) (Or.inl (hw _ (List.mem_of_getElem? (i := 63) rfl))) (by decide) (t := (.array .char)) (t' := (.array .int)) (by decide) (by decide)))
      have F_nulls_a0 : Fld Z h29 a0 "com/example/wadjet/wadjet/storage/IntegerChunk" "nulls" "[J" .null := F_nulls_a0.other W29 (Or.inr (slot_ne (Or.inl (hw _ (List.mem_of_getElem? (i := 37) rfl))) (Or.inl (hw _ (List.mem_of_getElem? (i := 63) rfl))) (by decide) (t := (.array .long)) (t' := (.array .int)) (by decide) (by decide)))
      have V_nr : Arv Z h29 nr kn .byte nn (ys.map Value.int) (.int (0 : Int32)) := V_nr.other W29 ne_nr_a0
      have V_va : Arv Z h29 va k2 .long nn (zs.map Value.long) (.long (0 : Int64)) := V_va.other W29 (Ne.symm ne_a0_va)
      have V_ra : Arv Z h29 ra k26 .char nn ((List.replicate nn.toNatClampNeg (0 : Int32)).map Value.int) (.int (0 : Int32)) := V_ra.other W29 (Ne.symm ne_a0_ra)
      have Zh29 : n0 ≤ h29.size := Nat.le_trans Zh27 (Keep.of_wr W29).1
      have Kh29 : Keep h0 h29 [a0] := Kh27.wr W29 (Or.inl (by simp))
      have N29 := Fr.snoc X29 N27 g_a0
      obtain ⟨T30, h30, L30, X30, e30, N30, Kc30, E_a0, F_width_a0, F_base_a0, F_based_a0, F_narrow_a0, F_middle_a0, F_wide_a0, F_nulls_a0, V_ra, V_va, st30⟩ := lq2 a0 p1 q2 va ls gr rg mo fa u_based .null .null .null nb ra k26 nn k2 zs hx hZ hw hby hml hown g_ra ne_a0_ra ne_va_ra hn.2 nn.toNatClampNeg 0 (List.replicate nn.toNatClampNeg 0) X29 e29 N29 Zh29 E_a0 F_width_a0 F_base_a0 F_based_a0 F_narrow_a0 F_middle_a0 F_wide_a0 F_nulls_a0 V_ra V_va (by rw [own_tn]; omega) (by rw [List.length_replicate])
      have Zh30 : n0 ≤ h30.size := Nat.le_trans Zh29 Kc30.1
      have Kh30 : Keep h0 h30 [a0] := Kh29.trans Kc30 (allS (Or.inr sz_ra) all0)
      obtain ⟨fs, hr, hrun, hended, hW, hsame⟩ := X30.leave (v := none) (fun _ => rfl)
      refine ⟨_, _, pre0 _ ?_, hrun, hended, _, _, rfl, ?_, ⟨_, rfl⟩, hW, hsame.mono (by decide) (by decide)⟩
      · show Steps p.tables e below (s₁.setTop (mkF m 0 #[.val (.ref a0), .val (.int p1), .val (.long q2), .second, .unset, .unset, .unset, .unset, .unset, .unset, .unset, .unset, .unset, .unset, .unset] [])) _
        refine XS.aloadN X0.here hx rfl (hb hby d9_0) rfl rfl ?_
        refine st1.trans ?_
        show Steps p.tables e below (T1.setTop (mkF m 4 #[.val (.ref a0), .val (.int p1), .val (.long q2), .second, .unset, .unset, .unset, .unset, .unset, .unset, .unset, .unset, .unset, .unset, .unset] [(.int nn)])) _
        refine st2 _ ?_
        show Steps p.tables e below (T2.setTop (mkF m 6 #[.val (.ref a0), .val (.int p1), .val (.long q2), .second, .unset, .unset, .unset, .unset, .unset, .unset, .unset, .unset, .unset, .unset, .unset] [(.ref va)])) _
        refine XS.astore X2.here hx rfl (hb hby d9_6) rfl rfl (l' := #[.val (.ref a0), .val (.int p1), .val (.long q2), .second, .val (.ref va), .unset, .unset, .unset, .unset, .unset, .unset, .unset, .unset, .unset, .unset]) rfl ?_
        refine XS.lloadN X2.here hx rfl (hb hby d9_8) rfl ?_
        refine XS.lstore X2.here hx rfl (hb hby d9_9) rfl (l' := #[.val (.ref a0), .val (.int p1), .val (.long q2), .second, .val (.ref va), .val (.long q2), .second, .unset, .unset, .unset, .unset, .unset, .unset, .unset, .unset]) rfl ?_
        refine XS.lloadN X2.here hx rfl (hb hby d9_11) rfl ?_
        show Steps p.tables e below (T2.setTop (mkF m 12 #[.val (.ref a0), .val (.int p1), .val (.long q2), .second, .val (.ref va), .val (.long q2), .second, .unset, .unset, .unset, .unset, .unset, .unset, .unset, .unset] [(.long q2)])) _
        refine XS.lstore X2.here hx rfl (hb hby d9_12) rfl (l' := #[.val (.ref a0), .val (.int p1), .val (.long q2), .second, .val (.ref va), .val (.long q2), .second, .val (.long q2), .second, .unset, .unset, .unset, .unset, .unset, .unset]) rfl ?_
        refine XS.iconst X2.here hx rfl (hb hby d9_14) ?_
        refine XS.istore X2.here hx rfl (hb hby d9_15) rfl (l' := #[.val (.ref a0), .val (.int p1), .val (.long q2), .second, .val (.ref va), .val (.long q2), .second, .val (.long q2), .second, .val (.int (0 : Int32)), .unset, .unset, .unset, .unset, .unset]) rfl ?_
        refine st3 _ ?_
        show Steps p.tables e below (T3.setTop (mkF m 76 #[.val (.ref a0), .val (.int p1), .val (.long q2), .second, .val (.ref va), .val (.long ls), .second, .val (.long gr), .second, .val (.int (Int32.ofNat (0 + nn.toNatClampNeg))), .unset, .unset, .unset, .unset, .unset] [])) _
        refine XS.lload X3.here hx rfl (hb hby d9_76) rfl ?_
        refine XS.lload X3.here hx rfl (hb hby d9_78) rfl ?_
        refine XS.lsub X3.here hx rfl (hb hby d9_80) rfl ?_
        show Steps p.tables e below (T3.setTop (mkF m 81 #[.val (.ref a0), .val (.int p1), .val (.long q2), .second, .val (.ref va), .val (.long ls), .second, .val (.long gr), .second, .val (.int (Int32.ofNat (0 + nn.toNatClampNeg))), .unset, .unset, .unset, .unset, .unset] [(.long (gr - ls))])) _
        rw [← h_rg]
        show Steps p.tables e below (T3.setTop (mkF m 81 #[.val (.ref a0), .val (.int p1), .val (.long q2), .second, .val (.ref va), .val (.long ls), .second, .val (.long gr), .second, .val (.int (Int32.ofNat (0 + nn.toNatClampNeg))), .unset, .unset, .unset, .unset, .unset] [(.long rg)])) _
        refine XS.lstore X3.here hx rfl (hb hby d9_81) rfl (l' := #[.val (.ref a0), .val (.int p1), .val (.long q2), .second, .val (.ref va), .val (.long ls), .second, .val (.long gr), .second, .val (.long rg), .second, .unset, .unset, .unset, .unset]) rfl ?_
        refine XS.lloadN X3.here hx rfl (hb hby d9_83) rfl ?_
        refine XS.aloadN X3.here hx rfl (hb hby d9_84) rfl rfl ?_
        refine st4 _ ?_
        show Steps p.tables e below (T4.setTop (mkF m 88 #[.val (.ref a0), .val (.int p1), .val (.long q2), .second, .val (.ref va), .val (.long ls), .second, .val (.long gr), .second, .val (.long rg), .second, .unset, .unset, .unset, .unset] [(.long bb), (.long q2)])) _
        refine XS.lcmp X4.here hx rfl (hb hby d9_88) rfl ?_
        refine own_via (T4.setTop (mkF m 97 #[.val (.ref a0), .val (.int p1), .val (.long q2), .second, .val (.ref va), .val (.long ls), .second, .val (.long gr), .second, .val (.long rg), .second, .unset, .unset, .unset, .unset] [(.int (if q2 < bb then (1 : Int32) else (0 : Int32)))])) (fun k => ?_) ?_
        · by_cases hc89 : q2 < bb
          · show Steps p.tables e below (T4.setTop (mkF m 89 #[.val (.ref a0), .val (.int p1), .val (.long q2), .second, .val (.ref va), .val (.long ls), .second, .val (.long gr), .second, .val (.long rg), .second, .unset, .unset, .unset, .unset] [(.int (lcmpW q2 bb))])) _
            refine XS.ifNo X4.here hx rfl (hb hby d9_89) rfl ((if0 _ _).trans (tlt ((lw_lt _ _).mpr hc89)).2.1) ?_
            refine XS.iconst X4.here hx rfl (hb hby d9_92) ?_
            refine XS.goto X4.here hx rfl (pc0 := 93) (pc' := 97) rfl (hb hby d9_93) (by decide) (by decide) ?_
            try simp only [if_pos hc89] at k
            exact k
          · show Steps p.tables e below (T4.setTop (mkF m 89 #[.val (.ref a0), .val (.int p1), .val (.long q2), .second, .val (.ref va), .val (.long ls), .second, .val (.long gr), .second, .val (.long rg), .second, .unset, .unset, .unset, .unset] [(.int (lcmpW q2 bb))])) _
            refine XS.ifYes X4.here hx rfl (pc0 := 89) (pc' := 96) rfl (hb hby d9_89) rfl ((if0 _ _).trans (flt (mt (lw_lt _ _).mp hc89)).2.1) (by decide) (by decide) ?_
            show Steps p.tables e below (T4.setTop (mkF m 96 #[.val (.ref a0), .val (.int p1), .val (.long q2), .second, .val (.ref va), .val (.long ls), .second, .val (.long gr), .second, .val (.long rg), .second, .unset, .unset, .unset, .unset] [])) _
            refine XS.iconst X4.here hx rfl (hb hby d9_96) ?_
            try simp only [if_neg hc89] at k
            exact k
        show Steps p.tables e below (T4.setTop (mkF m 97 #[.val (.ref a0), .val (.int p1), .val (.long q2), .second, .val (.ref va), .val (.long ls), .second, .val (.long gr), .second, .val (.long rg), .second, .unset, .unset, .unset, .unset] [(.int (if q2 < bb then (1 : Int32) else (0 : Int32)))])) _
        rw [← h_fa]
        show Steps p.tables e below (T4.setTop (mkF m 97 #[.val (.ref a0), .val (.int p1), .val (.long q2), .second, .val (.ref va), .val (.long ls), .second, .val (.long gr), .second, .val (.long rg), .second, .unset, .unset, .unset, .unset] [(.int fa)])) _
        refine XS.istore X4.here hx rfl (hb hby d9_97) rfl (l' := #[.val (.ref a0), .val (.int p1), .val (.long q2), .second, .val (.ref va), .val (.long ls), .second, .val (.long gr), .second, .val (.long rg), .second, .val (.int fa), .unset, .unset, .unset]) rfl ?_
        refine XS.aloadN X4.here hx rfl (hb hby d9_99) rfl rfl ?_
        show Steps p.tables e below (T4.setTop (mkF m 100 #[.val (.ref a0), .val (.int p1), .val (.long q2), .second, .val (.ref va), .val (.long ls), .second, .val (.long gr), .second, .val (.long rg), .second, .val (.int fa), .unset, .unset, .unset] [(.ref a0)])) _
        refine XS.lload X4.here hx rfl (hb hby d9_100) rfl ?_
        refine X4.ldc2Long hx hown (mvT hZ (hw _ (List.mem_of_getElem? (i := 59) rfl))) (g := (mkF m 102 #[.val (.ref a0), .val (.int p1), .val (.long q2), .second, .val (.ref va), .val (.long ls), .second, .val (.long gr), .second, .val (.long rg), .second, .val (.int fa), .unset, .unset, .unset] [(.long rg), (.ref a0)])) rfl (hb hby d9_102) _ ?_
        show Steps p.tables e below (T4.setTop (mkF m 105 #[.val (.ref a0), .val (.int p1), .val (.long q2), .second, .val (.ref va), .val (.long ls), .second, .val (.long gr), .second, .val (.long rg), .second, .val (.int fa), .unset, .unset, .unset] [(.long (256 : Int64)), (.long rg), (.ref a0)])) _
        refine XS.lcmp X4.here hx rfl (hb hby d9_105) rfl ?_
        refine XS.ifYes X4.here hx rfl (pc0 := 106) (pc' := 113) rfl (hb hby d9_106) rfl ((if0 _ _).trans (flt (mt (lw_lt _ _).mp hc106)).2.1) (by decide) (by decide) ?_
        show Steps p.tables e below (T4.setTop (mkF m 113 #[.val (.ref a0), .val (.int p1), .val (.long q2), .second, .val (.ref va), .val (.long ls), .second, .val (.long gr), .second, .val (.long rg), .second, .val (.int fa), .unset, .unset, .unset] [(.ref a0)])) _
        refine XS.lload X4.here hx rfl (hb hby d9_113) rfl ?_
        refine X4.ldc2Long hx hown (mvT hZ (hw _ (List.mem_of_getElem? (i := 96) rfl))) (g := (mkF m 115 #[.val (.ref a0), .val (.int p1), .val (.long q2), .second, .val (.ref va), .val (.long ls), .second, .val (.long gr), .second, .val (.long rg), .second, .val (.int fa), .unset, .unset, .unset] [(.long rg), (.ref a0)])) rfl (hb hby d9_115) _ ?_
        show Steps p.tables e below (T4.setTop (mkF m 118 #[.val (.ref a0), .val (.int p1), .val (.long q2), .second, .val (.ref va), .val (.long ls), .second, .val (.long gr), .second, .val (.long rg), .second, .val (.int fa), .unset, .unset, .unset] [(.long (65536 : Int64)), (.long rg), (.ref a0)])) _
        refine XS.lcmp X4.here hx rfl (hb hby d9_118) rfl ?_
        refine XS.ifNo X4.here hx rfl (hb hby d9_119) rfl ((if0 _ _).trans (tlt ((lw_lt _ _).mpr hc119)).2.1) ?_
        show Steps p.tables e below (T4.setTop (mkF m 122 #[.val (.ref a0), .val (.int p1), .val (.long q2), .second, .val (.ref va), .val (.long ls), .second, .val (.long gr), .second, .val (.long rg), .second, .val (.int fa), .unset, .unset, .unset] [(.ref a0)])) _
        refine XS.iconst X4.here hx rfl (hb hby d9_122) ?_
        refine XS.goto X4.here hx rfl (pc0 := 123) (pc' := 127) rfl (hb hby d9_123) (by decide) (by decide) ?_
        show Steps p.tables e below (T4.setTop (mkF m 127 #[.val (.ref a0), .val (.int p1), .val (.long q2), .second, .val (.ref va), .val (.long ls), .second, .val (.long gr), .second, .val (.long rg), .second, .val (.int fa), .unset, .unset, .unset] [(.int (2 : Int32)), (.ref a0)])) _
        refine st18 _ ?_
        show Steps p.tables e below (T18.setTop (mkF m 130 #[.val (.ref a0), .val (.int p1), .val (.long q2), .second, .val (.ref va), .val (.long ls), .second, .val (.long gr), .second, .val (.long rg), .second, .val (.int fa), .unset, .unset, .unset] [])) _
        refine XS.lconst X18.here hx rfl (hb hby d9_130) ?_
        show Steps p.tables e below (T18.setTop (mkF m 131 #[.val (.ref a0), .val (.int p1), .val (.long q2), .second, .val (.ref va), .val (.long ls), .second, .val (.long gr), .second, .val (.long rg), .second, .val (.int fa), .unset, .unset, .unset] [(.long (1 : Int64))])) _
        refine XS.bipush X18.here hx rfl (hb hby d9_131) ?_
        refine XS.aloadN X18.here hx rfl (hb hby d9_133) rfl rfl ?_
        refine st19 _ ?_
        show Steps p.tables e below (T19.setTop (mkF m 137 #[.val (.ref a0), .val (.int p1), .val (.long q2), .second, .val (.ref va), .val (.long ls), .second, .val (.long gr), .second, .val (.long rg), .second, .val (.int fa), .unset, .unset, .unset] [(.int (2 : Int32)), (.int (8 : Int32)), (.long (1 : Int64))])) _
        refine XS.imul X19.here hx rfl (hb hby d9_137) rfl ?_
        show Steps p.tables e below (T19.setTop (mkF m 138 #[.val (.ref a0), .val (.int p1), .val (.long q2), .second, .val (.ref va), .val (.long ls), .second, .val (.long gr), .second, .val (.long rg), .second, .val (.int fa), .unset, .unset, .unset] [(.int ((8 : Int32) * (2 : Int32))), (.long (1 : Int64))])) _
        refine XS.lshl X19.here hx rfl (hb hby d9_138) rfl ?_
        refine XS.lconst X19.here hx rfl (hb hby d9_139) ?_
        refine XS.lsub X19.here hx rfl (hb hby d9_140) rfl ?_
        show Steps p.tables e below (T19.setTop (mkF m 141 #[.val (.ref a0), .val (.int p1), .val (.long q2), .second, .val (.ref va), .val (.long ls), .second, .val (.long gr), .second, .val (.long rg), .second, .val (.int fa), .unset, .unset, .unset] [(.long (((1 : Int64) <<< (((8 : Int32) * (2 : Int32)) &&& 0x3f).toInt64) - (1 : Int64)))])) _
        rw [← h_mo]
        show Steps p.tables e below (T19.setTop (mkF m 141 #[.val (.ref a0), .val (.int p1), .val (.long q2), .second, .val (.ref va), .val (.long ls), .second, .val (.long gr), .second, .val (.long rg), .second, .val (.int fa), .unset, .unset, .unset] [(.long mo)])) _
        refine XS.lstore X19.here hx rfl (hb hby d9_141) rfl (l' := #[.val (.ref a0), .val (.int p1), .val (.long q2), .second, .val (.ref va), .val (.long ls), .second, .val (.long gr), .second, .val (.long rg), .second, .val (.int fa), .val (.long mo), .second, .unset]) rfl ?_
        refine XS.aloadN X19.here hx rfl (hb hby d9_143) rfl rfl ?_
        refine XS.aloadN X19.here hx rfl (hb hby d9_144) rfl rfl ?_
        refine st20 _ ?_
        show Steps p.tables e below (T20.setTop (mkF m 148 #[.val (.ref a0), .val (.int p1), .val (.long q2), .second, .val (.ref va), .val (.long ls), .second, .val (.long gr), .second, .val (.long rg), .second, .val (.int fa), .val (.long mo), .second, .unset] [(.int (2 : Int32)), (.ref a0)])) _
        refine XS.iconst X20.here hx rfl (hb hby d9_148) ?_
        refine XS.icmpYes X20.here hx rfl (pc0 := 149) (pc' := 156) rfl (hb hby d9_149) rfl (feq (by decide : ¬ ((2 : Int32) = (4 : Int32)))).2 (by decide) (by decide) ?_
        show Steps p.tables e below (T20.setTop (mkF m 156 #[.val (.ref a0), .val (.int p1), .val (.long q2), .second, .val (.ref va), .val (.long ls), .second, .val (.long gr), .second, .val (.long rg), .second, .val (.int fa), .val (.long mo), .second, .unset] [(.ref a0)])) _
        refine XS.iload X20.here hx rfl (hb hby d9_156) rfl ?_
        refine own_via (T20.setTop (mkF m 171 #[.val (.ref a0), .val (.int p1), .val (.long q2), .second, .val (.ref va), .val (.long ls), .second, .val (.long gr), .second, .val (.long rg), .second, .val (.int fa), .val (.long mo), .second, .unset] [(.long (if fa = (0 : Int32) then ls else (gr - mo))), (.ref a0)])) (fun k => ?_) ?_
        · by_cases hc158 : fa = (0 : Int32)
          · show Steps p.tables e below (T20.setTop (mkF m 158 #[.val (.ref a0), .val (.int p1), .val (.long q2), .second, .val (.ref va), .val (.long ls), .second, .val (.long gr), .second, .val (.long rg), .second, .val (.int fa), .val (.long mo), .second, .unset] [(.int fa), (.ref a0)])) _
            refine XS.ifYes X20.here hx rfl (pc0 := 158) (pc' := 169) rfl (hb hby d9_158) rfl ((if0 _ _).trans (teq hc158).1) (by decide) (by decide) ?_
            show Steps p.tables e below (T20.setTop (mkF m 169 #[.val (.ref a0), .val (.int p1), .val (.long q2), .second, .val (.ref va), .val (.long ls), .second, .val (.long gr), .second, .val (.long rg), .second, .val (.int fa), .val (.long mo), .second, .unset] [(.ref a0)])) _
            refine XS.lload X20.here hx rfl (hb hby d9_169) rfl ?_
            try simp only [if_pos hc158] at k
            exact k
          · show Steps p.tables e below (T20.setTop (mkF m 158 #[.val (.ref a0), .val (.int p1), .val (.long q2), .second, .val (.ref va), .val (.long ls), .second, .val (.long gr), .second, .val (.long rg), .second, .val (.int fa), .val (.long mo), .second, .unset] [(.int fa), (.ref a0)])) _
            refine XS.ifNo X20.here hx rfl (hb hby d9_158) rfl ((if0 _ _).trans (feq hc158).1) ?_
            show Steps p.tables e below (T20.setTop (mkF m 161 #[.val (.ref a0), .val (.int p1), .val (.long q2), .second, .val (.ref va), .val (.long ls), .second, .val (.long gr), .second, .val (.long rg), .second, .val (.int fa), .val (.long mo), .second, .unset] [(.ref a0)])) _
            refine XS.lload X20.here hx rfl (hb hby d9_161) rfl ?_
            refine XS.lload X20.here hx rfl (hb hby d9_163) rfl ?_
            refine XS.lsub X20.here hx rfl (hb hby d9_165) rfl ?_
            refine XS.goto X20.here hx rfl (pc0 := 166) (pc' := 171) rfl (hb hby d9_166) (by decide) (by decide) ?_
            try simp only [if_neg hc158] at k
            exact k
        show Steps p.tables e below (T20.setTop (mkF m 171 #[.val (.ref a0), .val (.int p1), .val (.long q2), .second, .val (.ref va), .val (.long ls), .second, .val (.long gr), .second, .val (.long rg), .second, .val (.int fa), .val (.long mo), .second, .unset] [(.long (if fa = (0 : Int32) then ls else (gr - mo))), (.ref a0)])) _
        rw [← h_nb]
        show Steps p.tables e below (T20.setTop (mkF m 171 #[.val (.ref a0), .val (.int p1), .val (.long q2), .second, .val (.ref va), .val (.long ls), .second, .val (.long gr), .second, .val (.long rg), .second, .val (.int fa), .val (.long mo), .second, .unset] [(.long nb), (.ref a0)])) _
        refine st21 _ ?_
        show Steps p.tables e below (T21.setTop (mkF m 174 #[.val (.ref a0), .val (.int p1), .val (.long q2), .second, .val (.ref va), .val (.long ls), .second, .val (.long gr), .second, .val (.long rg), .second, .val (.int fa), .val (.long mo), .second, .unset] [])) _
        refine XS.aloadN X21.here hx rfl (hb hby d9_174) rfl rfl ?_
        refine XS.aloadN X21.here hx rfl (hb hby d9_175) rfl rfl ?_
        refine st22 _ ?_
        show Steps p.tables e below (T22.setTop (mkF m 179 #[.val (.ref a0), .val (.int p1), .val (.long q2), .second, .val (.ref va), .val (.long ls), .second, .val (.long gr), .second, .val (.long rg), .second, .val (.int fa), .val (.long mo), .second, .unset] [(.int (2 : Int32)), (.ref a0)])) _
        refine XS.iconst X22.here hx rfl (hb hby d9_179) ?_
        refine XS.icmpYes X22.here hx rfl (pc0 := 180) (pc' := 191) rfl (hb hby d9_180) rfl (feq (by decide : ¬ ((2 : Int32) = (1 : Int32)))).2 (by decide) (by decide) ?_
        show Steps p.tables e below (T22.setTop (mkF m 191 #[.val (.ref a0), .val (.int p1), .val (.long q2), .second, .val (.ref va), .val (.long ls), .second, .val (.long gr), .second, .val (.long rg), .second, .val (.int fa), .val (.long mo), .second, .unset] [(.ref a0)])) _
        refine XS.aconstNull X22.here hx rfl (hb hby d9_191) ?_
        refine st23 _ ?_
        show Steps p.tables e below (T23.setTop (mkF m 195 #[.val (.ref a0), .val (.int p1), .val (.long q2), .second, .val (.ref va), .val (.long ls), .second, .val (.long gr), .second, .val (.long rg), .second, .val (.int fa), .val (.long mo), .second, .unset] [])) _
        refine XS.aloadN X23.here hx rfl (hb hby d9_195) rfl rfl ?_
        refine XS.aloadN X23.here hx rfl (hb hby d9_196) rfl rfl ?_
        refine st24 _ ?_
        show Steps p.tables e below (T24.setTop (mkF m 200 #[.val (.ref a0), .val (.int p1), .val (.long q2), .second, .val (.ref va), .val (.long ls), .second, .val (.long gr), .second, .val (.long rg), .second, .val (.int fa), .val (.long mo), .second, .unset] [(.int (2 : Int32)), (.ref a0)])) _
        refine XS.iconst X24.here hx rfl (hb hby d9_200) ?_
        show Steps p.tables e below (T24.setTop (mkF m 201 #[.val (.ref a0), .val (.int p1), .val (.long q2), .second, .val (.ref va), .val (.long ls), .second, .val (.long gr), .second, .val (.long rg), .second, .val (.int fa), .val (.long mo), .second, .unset] [(.int (2 : Int32)), (.int (2 : Int32)), (.ref a0)])) _
        refine XS.icmpNo X24.here hx rfl (hb hby d9_201) rfl (teq (by decide : (2 : Int32) = (2 : Int32))).2 ?_
        refine XS.aload X24.here hx rfl (hb hby d9_204) rfl rfl ?_
        refine X24.arraylength hx (by rw [e24]; exact Ar25.1) (State.isArrayOf_alike hZ.alike Ar25.2.1) (g := (mkF m 206 #[.val (.ref a0), .val (.int p1), .val (.long q2), .second, .val (.ref va), .val (.long ls), .second, .val (.long gr), .second, .val (.long rg), .second, .val (.int fa), .val (.long mo), .second, .unset] [(.ref va), (.ref a0)])) rfl rfl (hb hby d9_206) _ ?_
        rw [len_of SS25 MM25]
        show Steps p.tables e below (T24.setTop (mkF m 207 #[.val (.ref a0), .val (.int p1), .val (.long q2), .second, .val (.ref va), .val (.long ls), .second, .val (.long gr), .second, .val (.long rg), .second, .val (.int fa), .val (.long mo), .second, .unset] [(.int nn), (.ref a0)])) _
        refine st26 _ ?_
        show Steps p.tables e below (T26.setTop (mkF m 209 #[.val (.ref a0), .val (.int p1), .val (.long q2), .second, .val (.ref va), .val (.long ls), .second, .val (.long gr), .second, .val (.long rg), .second, .val (.int fa), .val (.long mo), .second, .unset] [(.ref ra), (.ref a0)])) _
        refine XS.goto X26.here hx rfl (pc0 := 209) (pc' := 213) rfl (hb hby d9_209) (by decide) (by decide) ?_
        show Steps p.tables e below (T26.setTop (mkF m 213 #[.val (.ref a0), .val (.int p1), .val (.long q2), .second, .val (.ref va), .val (.long ls), .second, .val (.long gr), .second, .val (.long rg), .second, .val (.int fa), .val (.long mo), .second, .unset] [(.ref ra), (.ref a0)])) _
        refine st27 _ ?_
        show Steps p.tables e below (T27.setTop (mkF m 216 #[.val (.ref a0), .val (.int p1), .val (.long q2), .second, .val (.ref va), .val (.long ls), .second, .val (.long gr), .second, .val (.long rg), .second, .val (.int fa), .val (.long mo), .second, .unset] [])) _
        refine XS.aloadN X27.here hx rfl (hb hby d9_216) rfl rfl ?_
        refine XS.aloadN X27.here hx rfl (hb hby d9_217) rfl rfl ?_
        show Steps p.tables e below (T27.setTop (mkF m 218 #[.val (.ref a0), .val (.int p1), .val (.long q2), .second, .val (.ref va), .val (.long ls), .second, .val (.long gr), .second, .val (.long rg), .second, .val (.int fa), .val (.long mo), .second, .unset] [(.ref a0), (.ref a0)])) _
        refine st28 _ ?_
        show Steps p.tables e below (T28.setTop (mkF m 221 #[.val (.ref a0), .val (.int p1), .val (.long q2), .second, .val (.ref va), .val (.long ls), .second, .val (.long gr), .second, .val (.long rg), .second, .val (.int fa), .val (.long mo), .second, .unset] [(.int (2 : Int32)), (.ref a0)])) _
        refine XS.iconst X28.here hx rfl (hb hby d9_221) ?_
        refine XS.icmpYes X28.here hx rfl (pc0 := 222) (pc' := 233) rfl (hb hby d9_222) rfl (feq (by decide : ¬ ((2 : Int32) = (4 : Int32)))).2 (by decide) (by decide) ?_
        show Steps p.tables e below (T28.setTop (mkF m 233 #[.val (.ref a0), .val (.int p1), .val (.long q2), .second, .val (.ref va), .val (.long ls), .second, .val (.long gr), .second, .val (.long rg), .second, .val (.int fa), .val (.long mo), .second, .unset] [(.ref a0)])) _
        refine XS.aconstNull X28.here hx rfl (hb hby d9_233) ?_
        show Steps p.tables e below (T28.setTop (mkF m 234 #[.val (.ref a0), .val (.int p1), .val (.long q2), .second, .val (.ref va), .val (.long ls), .second, .val (.long gr), .second, .val (.long rg), .second, .val (.int fa), .val (.long mo), .second, .unset] [.null, (.ref a0)])) _
        refine st29 _ ?_
        show Steps p.tables e below (T29.setTop (mkF m 237 #[.val (.ref a0), .val (.int p1), .val (.long q2), .second, .val (.ref va), .val (.long ls), .second, .val (.long gr), .second, .val (.long rg), .second, .val (.int fa), .val (.long mo), .second, .unset] [])) _
        refine XS.iconst X29.here hx rfl (hb hby d9_237) ?_
        refine XS.istore X29.here hx rfl (hb hby d9_238) rfl (l' := #[.val (.ref a0), .val (.int p1), .val (.long q2), .second, .val (.ref va), .val (.long ls), .second, .val (.long gr), .second, .val (.long rg), .second, .val (.int fa), .val (.long mo), .second, .val (.int (0 : Int32))]) rfl ?_
        refine st30 _ ?_
        show Steps p.tables e below (T30.setTop (mkF m 327 #[.val (.ref a0), .val (.int p1), .val (.long q2), .second, .val (.ref va), .val (.long ls), .second, .val (.long gr), .second, .val (.long rg), .second, .val (.int fa), .val (.long mo), .second, .val (.int (Int32.ofNat (0 + nn.toNatClampNeg)))] [])) _
        exact X30.returnOut hx Bd.returns (hb hby d9_327) hr
      · show Qwd Z a0 p1 q2 (1 : Int32) bb u_based nn ys h0 n0 _ T30.heap _
        rw [e30]
        exact ⟨rfl, N30, Kh30.1, _, _, _, ⟨_, ls, gr, zs, rfl, h_ls, h_gr, h_zs, Or.inr (Or.inl ⟨by rw [← h_rg]; exact hc106, by rw [← h_rg]; exact hc119, rfl, by rw [h_nb, h_fa, h_mo]; rfl, rfl⟩)⟩, g_a0, E_a0, _, _, _, _, _, g_ra, (Ne.symm ne_a0_ra), F_width_a0, F_base_a0, F_based_a0, F_narrow_a0, F_middle_a0, F_wide_a0, F_nulls_a0, Or.inr (Or.inl ⟨rfl, rfl, V_ra⟩)⟩
    · obtain ⟨T31, h31, X31, e31, W31, st31⟩ := putF X4 hx hZ hown (host := "") (Or.inl (hw _ (List.mem_of_getElem? (i := 14) rfl))) Via.refl e4 F_width_a0 E_a0 (Or.inl (hw _ (List.mem_of_getElem? (i := 15) rfl))) (hw _ (List.mem_of_getElem? (i := 1) rfl)) (ty := .int) (by decide) rfl rfl (g := (mkF m 127 #[.val (.ref a0), .val (.int p1), .val (.long q2), .second, .val (.ref va), .val (.long ls), .second, .val (.long gr), .second, .val (.long rg), .second, .val (.int fa), .unset, .unset, .unset] [(.int (4 : Int32)), (.ref a0)])) rfl rfl (hb hby d9_127)
      have F_width_a0 : Fld Z h31 a0 "com/example/wadjet/wadjet/storage/IntegerChunk" "width" "I" (.int (4 : Int32)) := F_width_a0.same W31
      have E_a0 : Exa Z h31 a0 "com/example/wadjet/wadjet/storage/IntegerChunk" := E_a0.wr W31
      have F_base_a0 : Fld Z h31 a0 "com/example/wadjet/wadjet/storage/IntegerChunk" "base" "J" (.long bb) := F_base_a0.other W31 (Or.inr (slot_ne (Or.inl (hw _ (List.mem_of_getElem? (i := 31) rfl))) (Or.inl (hw _ (List.mem_of_getElem? (i := 15) rfl))) (by decide) (t := .long) (t' := .int) (by decide) (by decide)))
      have F_based_a0 : Fld Z h31 a0 "com/example/wadjet/wadjet/storage/IntegerChunk" "based" "Z" u_based := F_based_a0.other W31 (Or.inr (slot_ne (Or.inl (hw _ (List.mem_of_getElem? (i := 29) rfl))) (Or.inl (hw _ (List.mem_of_getElem? (i := 15) rfl))) (by decide) (t := .boolean) (t' := .int) (by decide) (by decide)))
      have F_narrow_a0 : Fld Z h31 a0 "com/example/wadjet/wadjet/storage/IntegerChunk" "narrow" "[B" (.ref nr) := F_narrow_a0.other W31 (Or.inr (slot_ne (Or.inl (hw _ (List.mem_of_getElem? (i := 18) rfl))) (Or.inl (hw _ (List.mem_of_getElem? (i := 15) rfl))) (by decide) (t := (.array .byte)) (t' := .int) (by decide) (by decide)))
      have F_middle_a0 : Fld Z h31 a0 "com/example/wadjet/wadjet/storage/IntegerChunk" "middle" "[C" u_middle := F_middle_a0.other W31 (Or.inr (slot_ne (Or.inl (hw _ (List.mem_of_getElem? (i := 61) rfl))) (Or.inl (hw _ (List.mem_of_getElem? (i := 15) rfl))) (by decide) (t := (.array .char)) (t' := .int) (by decide) (by decide)))
      have F_wide_a0 : Fld Z h31 a0 "com/example/wadjet/wadjet/storage/IntegerChunk" "wide" "[I" u_wide := F_wide_a0.other W31 (Or.inr (slot_ne (Or.inl (hw _ (List.mem_of_getElem? (i := 63) rfl))) (Or.inl (hw _ (List.mem_of_getElem? (i := 15) rfl))) (by decide) (t := (.array .int)) (t' := .int) (by decide) (by decide)))
      have F_nulls_a0 : Fld Z h31 a0 "com/example/wadjet/wadjet/storage/IntegerChunk" "nulls" "[J" .null := F_nulls_a0.other W31 (Or.inr (slot_ne (Or.inl (hw _ (List.mem_of_getElem? (i := 37) rfl))) (Or.inl (hw _ (List.mem_of_getElem? (i := 15) rfl))) (by decide) (t := (.array .long)) (t' := .int) (by decide) (by decide)))
      have V_nr : Arv Z h31 nr kn .byte nn (ys.map Value.int) (.int (0 : Int32)) := V_nr.other W31 ne_nr_a0
      have V_va : Arv Z h31 va k2 .long nn (zs.map Value.long) (.long (0 : Int64)) := V_va.other W31 (Ne.symm ne_a0_va)
      have Zh31 : n0 ≤ h31.size := Nat.le_trans Zh3 (Keep.of_wr W31).1
      have Kh31 : Keep h0 h31 [a0] := Kh3.wr W31 (Or.inl (by simp))
      have N31 := Fr.snoc X31 N3 g_a0
      obtain ⟨T32, X32, e32, st32⟩ := getF X31 hx hZ hown (host := "") (Or.inl (hw _ (List.mem_of_getElem? (i := 14) rfl))) Via.refl e31 F_width_a0 (g := (mkF m 134 #[.val (.ref a0), .val (.int p1), .val (.long q2), .second, .val (.ref va), .val (.long ls), .second, .val (.long gr), .second, .val (.long rg), .second, .val (.int fa), .unset, .unset, .unset] [(.ref a0), (.int (8 : Int32)), (.long (1 : Int64))])) rfl rfl (hb hby d9_134)
      obtain ⟨mo, h_mo⟩ : ∃ z : Int64, z = (((1 : Int64) <<< (((8 : Int32) * (4 : Int32)) &&& 0x3f).toInt64) - (1 : Int64)) := ⟨_, rfl⟩
      obtain ⟨T33, X33, e33, st33⟩ := getF X32 hx hZ hown (host := "") (Or.inl (hw _ (List.mem_of_getElem? (i := 14) rfl))) Via.refl e32 F_width_a0 (g := (mkF m 145 #[.val (.ref a0), .val (.int p1), .val (.long q2), .second, .val (.ref va), .val (.long ls), .second, .val (.long gr), .second, .val (.long rg), .second, .val (.int fa), .val (.long mo), .second, .unset] [(.ref a0), (.ref a0)])) rfl rfl (hb hby d9_145)
      obtain ⟨T34, h34, X34, e34, W34, st34⟩ := putF X33 hx hZ hown (host := "") (Or.inl (hw _ (List.mem_of_getElem? (i := 30) rfl))) Via.refl e33 F_base_a0 E_a0 (Or.inl (hw _ (List.mem_of_getElem? (i := 31) rfl))) (hw _ (List.mem_of_getElem? (i := 1) rfl)) (ty := .long) (by decide) rfl rfl (g := (mkF m 171 #[.val (.ref a0), .val (.int p1), .val (.long q2), .second, .val (.ref va), .val (.long ls), .second, .val (.long gr), .second, .val (.long rg), .second, .val (.int fa), .val (.long mo), .second, .unset] [(.long (0 : Int64)), (.ref a0)])) rfl rfl (hb hby d9_171)
      have F_base_a0 : Fld Z h34 a0 "com/example/wadjet/wadjet/storage/IntegerChunk" "base" "J" (.long (0 : Int64)) := F_base_a0.same W34
      have E_a0 : Exa Z h34 a0 "com/example/wadjet/wadjet/storage/IntegerChunk" := E_a0.wr W34
      have F_width_a0 : Fld Z h34 a0 "com/example/wadjet/wadjet/storage/IntegerChunk" "width" "I" (.int (4 : Int32)) := F_width_a0.other W34 (Or.inr (slot_ne (Or.inl (hw _ (List.mem_of_getElem? (i := 15) rfl))) (Or.inl (hw _ (List.mem_of_getElem? (i := 31) rfl))) (by decide) (t := .int) (t' := .long) (by decide) (by decide)))
      have F_based_a0 : Fld Z h34 a0 "com/example/wadjet/wadjet/storage/IntegerChunk" "based" "Z" u_based := F_based_a0.other W34 (Or.inr (slot_ne (Or.inl (hw _ (List.mem_of_getElem? (i := 29) rfl))) (Or.inl (hw _ (List.mem_of_getElem? (i := 31) rfl))) (by decide) (t := .boolean) (t' := .long) (by decide) (by decide)))
      have F_narrow_a0 : Fld Z h34 a0 "com/example/wadjet/wadjet/storage/IntegerChunk" "narrow" "[B" (.ref nr) := F_narrow_a0.other W34 (Or.inr (slot_ne (Or.inl (hw _ (List.mem_of_getElem? (i := 18) rfl))) (Or.inl (hw _ (List.mem_of_getElem? (i := 31) rfl))) (by decide) (t := (.array .byte)) (t' := .long) (by decide) (by decide)))
      have F_middle_a0 : Fld Z h34 a0 "com/example/wadjet/wadjet/storage/IntegerChunk" "middle" "[C" u_middle := F_middle_a0.other W34 (Or.inr (slot_ne (Or.inl (hw _ (List.mem_of_getElem? (i := 61) rfl))) (Or.inl (hw _ (List.mem_of_getElem? (i := 31) rfl))) (by decide) (t := (.array .char)) (t' := .long) (by decide) (by decide)))
      have F_wide_a0 : Fld Z h34 a0 "com/example/wadjet/wadjet/storage/IntegerChunk" "wide" "[I" u_wide := F_wide_a0.other W34 (Or.inr (slot_ne (Or.inl (hw _ (List.mem_of_getElem? (i := 63) rfl))) (Or.inl (hw _ (List.mem_of_getElem? (i := 31) rfl))) (by decide) (t := (.array .int)) (t' := .long) (by decide) (by decide)))
      have F_nulls_a0 : Fld Z h34 a0 "com/example/wadjet/wadjet/storage/IntegerChunk" "nulls" "[J" .null := F_nulls_a0.other W34 (Or.inr (slot_ne (Or.inl (hw _ (List.mem_of_getElem? (i := 37) rfl))) (Or.inl (hw _ (List.mem_of_getElem? (i := 31) rfl))) (by decide) (t := (.array .long)) (t' := .long) (by decide) (by decide)))
      have V_nr : Arv Z h34 nr kn .byte nn (ys.map Value.int) (.int (0 : Int32)) := V_nr.other W34 ne_nr_a0
      have V_va : Arv Z h34 va k2 .long nn (zs.map Value.long) (.long (0 : Int64)) := V_va.other W34 (Ne.symm ne_a0_va)
      have Zh34 : n0 ≤ h34.size := Nat.le_trans Zh31 (Keep.of_wr W34).1
      have Kh34 : Keep h0 h34 [a0] := Kh31.wr W34 (Or.inl (by simp))
      have N34 := Fr.snoc X34 N31 g_a0
      obtain ⟨T35, X35, e35, st35⟩ := getF X34 hx hZ hown (host := "") (Or.inl (hw _ (List.mem_of_getElem? (i := 14) rfl))) Via.refl e34 F_width_a0 (g := (mkF m 176 #[.val (.ref a0), .val (.int p1), .val (.long q2), .second, .val (.ref va), .val (.long ls), .second, .val (.long gr), .second, .val (.long rg), .second, .val (.int fa), .val (.long mo), .second, .unset] [(.ref a0), (.ref a0)])) rfl rfl (hb hby d9_176)
      obtain ⟨T36, h36, X36, e36, W36, st36⟩ := putF X35 hx hZ hown (host := "") (Or.inl (hw _ (List.mem_of_getElem? (i := 17) rfl))) Via.refl e35 F_narrow_a0 E_a0 (Or.inl (hw _ (List.mem_of_getElem? (i := 18) rfl))) (hw _ (List.mem_of_getElem? (i := 1) rfl)) (ty := (.array .byte)) (by decide) rfl rfl (g := (mkF m 192 #[.val (.ref a0), .val (.int p1), .val (.long q2), .second, .val (.ref va), .val (.long ls), .second, .val (.long gr), .second, .val (.long rg), .second, .val (.int fa), .val (.long mo), .second, .unset] [.null, (.ref a0)])) rfl rfl (hb hby d9_192)
      have F_narrow_a0 : Fld Z h36 a0 "com/example/wadjet/wadjet/storage/IntegerChunk" "narrow" "[B" .null := F_narrow_a0.same W36
      have E_a0 : Exa Z h36 a0 "com/example/wadjet/wadjet/storage/IntegerChunk" := E_a0.wr W36
      have F_width_a0 : Fld Z h36 a0 "com/example/wadjet/wadjet/storage/IntegerChunk" "width" "I" (.int (4 : Int32)) := F_width_a0.other W36 (Or.inr (slot_ne (Or.inl (hw _ (List.mem_of_getElem? (i := 15) rfl))) (Or.inl (hw _ (List.mem_of_getElem? (i := 18) rfl))) (by decide) (t := .int) (t' := (.array .byte)) (by decide) (by decide)))
      have F_base_a0 : Fld Z h36 a0 "com/example/wadjet/wadjet/storage/IntegerChunk" "base" "J" (.long (0 : Int64)) := F_base_a0.other W36 (Or.inr (slot_ne (Or.inl (hw _ (List.mem_of_getElem? (i := 31) rfl))) (Or.inl (hw _ (List.mem_of_getElem? (i := 18) rfl))) (by decide) (t := .long) (t' := (.array .byte)) (by decide) (by decide)))
      have F_based_a0 : Fld Z h36 a0 "com/example/wadjet/wadjet/storage/IntegerChunk" "based" "Z" u_based := F_based_a0.other W36 (Or.inr (slot_ne (Or.inl (hw _ (List.mem_of_getElem? (i := 29) rfl))) (Or.inl (hw _ (List.mem_of_getElem? (i := 18) rfl))) (by decide) (t := .boolean) (t' := (.array .byte)) (by decide) (by decide)))
      have F_middle_a0 : Fld Z h36 a0 "com/example/wadjet/wadjet/storage/IntegerChunk" "middle" "[C" u_middle := F_middle_a0.other W36 (Or.inr (slot_ne (Or.inl (hw _ (List.mem_of_getElem? (i := 61) rfl))) (Or.inl (hw _ (List.mem_of_getElem? (i := 18) rfl))) (by decide) (t := (.array .char)) (t' := (.array .byte)) (by decide) (by decide)))
      have F_wide_a0 : Fld Z h36 a0 "com/example/wadjet/wadjet/storage/IntegerChunk" "wide" "[I" u_wide := F_wide_a0.other W36 (Or.inr (slot_ne (Or.inl (hw _ (List.mem_of_getElem? (i := 63) rfl))) (Or.inl (hw _ (List.mem_of_getElem? (i := 18) rfl))) (by decide) (t := (.array .int)) (t' := (.array .byte)) (by decide) (by decide)))
      have F_nulls_a0 : Fld Z h36 a0 "com/example/wadjet/wadjet/storage/IntegerChunk" "nulls" "[J" .null := F_nulls_a0.other W36 (Or.inr (slot_ne (Or.inl (hw _ (List.mem_of_getElem? (i := 37) rfl))) (Or.inl (hw _ (List.mem_of_getElem? (i := 18) rfl))) (by decide) (t := (.array .long)) (t' := (.array .byte)) (by decide) (by decide)))
      have V_nr : Arv Z h36 nr kn .byte nn (ys.map Value.int) (.int (0 : Int32)) := V_nr.other W36 ne_nr_a0
      have V_va : Arv Z h36 va k2 .long nn (zs.map Value.long) (.long (0 : Int64)) := V_va.other W36 (Ne.symm ne_a0_va)
      have Zh36 : n0 ≤ h36.size := Nat.le_trans Zh34 (Keep.of_wr W36).1
      have Kh36 : Keep h0 h36 [a0] := Kh34.wr W36 (Or.inl (by simp))
      have N36 := Fr.snoc X36 N34 g_a0
      obtain ⟨T37, X37, e37, st37⟩ := getF X36 hx hZ hown (host := "") (Or.inl (hw _ (List.mem_of_getElem? (i := 14) rfl))) Via.refl e36 F_width_a0 (g := (mkF m 197 #[.val (.ref a0), .val (.int p1), .val (.long q2), .second, .val (.ref va), .val (.long ls), .second, .val (.long gr), .second, .val (.long rg), .second, .val (.int fa), .val (.long mo), .second, .unset] [(.ref a0), (.ref a0)])) rfl rfl (hb hby d9_197)
      obtain ⟨T38, h38, X38, e38, W38, st38⟩ := putF X37 hx hZ hown (host := "") (Or.inl (hw _ (List.mem_of_getElem? (i := 60) rfl))) Via.refl e37 F_middle_a0 E_a0 (Or.inl (hw _ (List.mem_of_getElem? (i := 61) rfl))) (hw _ (List.mem_of_getElem? (i := 1) rfl)) (ty := (.array .char)) (by decide) rfl rfl (g := (mkF m 213 #[.val (.ref a0), .val (.int p1), .val (.long q2), .second, .val (.ref va), .val (.long ls), .second, .val (.long gr), .second, .val (.long rg), .second, .val (.int fa), .val (.long mo), .second, .unset] [.null, (.ref a0)])) rfl rfl (hb hby d9_213)
      have F_middle_a0 : Fld Z h38 a0 "com/example/wadjet/wadjet/storage/IntegerChunk" "middle" "[C" .null := F_middle_a0.same W38
      have E_a0 : Exa Z h38 a0 "com/example/wadjet/wadjet/storage/IntegerChunk" := E_a0.wr W38
      have F_width_a0 : Fld Z h38 a0 "com/example/wadjet/wadjet/storage/IntegerChunk" "width" "I" (.int (4 : Int32)) := F_width_a0.other W38 (Or.inr (slot_ne (Or.inl (hw _ (List.mem_of_getElem? (i := 15) rfl))) (Or.inl (hw _ (List.mem_of_getElem? (i := 61) rfl))) (by decide) (t := .int) (t' := (.array .char)) (by decide) (by decide)))
      have F_base_a0 : Fld Z h38 a0 "com/example/wadjet/wadjet/storage/IntegerChunk" "base" "J" (.long (0 : Int64)) := F_base_a0.other W38 (Or.inr (slot_ne (Or.inl (hw _ (List.mem_of_getElem? (i := 31) rfl))) (Or.inl (hw _ (List.mem_of_getElem? (i := 61) rfl))) (by decide) (t := .long) (t' := (.array .char)) (by decide) (by decide)))
      have F_based_a0 : Fld Z h38 a0 "com/example/wadjet/wadjet/storage/IntegerChunk" "based" "Z" u_based := F_based_a0.other W38 (Or.inr (slot_ne (Or.inl (hw _ (List.mem_of_getElem? (i := 29) rfl))) (Or.inl (hw _ (List.mem_of_getElem? (i := 61) rfl))) (by decide) (t := .boolean) (t' := (.array .char)) (by decide) (by decide)))
      have F_narrow_a0 : Fld Z h38 a0 "com/example/wadjet/wadjet/storage/IntegerChunk" "narrow" "[B" .null := F_narrow_a0.other W38 (Or.inr (slot_ne (Or.inl (hw _ (List.mem_of_getElem? (i := 18) rfl))) (Or.inl (hw _ (List.mem_of_getElem? (i := 61) rfl))) (by decide) (t := (.array .byte)) (t' := (.array .char)) (by decide) (by decide)))
      have F_wide_a0 : Fld Z h38 a0 "com/example/wadjet/wadjet/storage/IntegerChunk" "wide" "[I" u_wide := F_wide_a0.other W38 (Or.inr (slot_ne (Or.inl (hw _ (List.mem_of_getElem? (i := 63) rfl))) (Or.inl (hw _ (List.mem_of_getElem? (i := 61) rfl))) (by decide) (t := (.array .int)) (t' := (.array .char)) (by decide) (by decide)))
      have F_nulls_a0 : Fld Z h38 a0 "com/example/wadjet/wadjet/storage/IntegerChunk" "nulls" "[J" .null := F_nulls_a0.other W38 (Or.inr (slot_ne (Or.inl (hw _ (List.mem_of_getElem? (i := 37) rfl))) (Or.inl (hw _ (List.mem_of_getElem? (i := 61) rfl))) (by decide) (t := (.array .long)) (t' := (.array .char)) (by decide) (by decide)))
      have V_nr : Arv Z h38 nr kn .byte nn (ys.map Value.int) (.int (0 : Int32)) := V_nr.other W38 ne_nr_a0
      have V_va : Arv Z h38 va k2 .long nn (zs.map Value.long) (.long (0 : Int64)) := V_va.other W38 (Ne.symm ne_a0_va)
      have Zh38 : n0 ≤ h38.size := Nat.le_trans Zh36 (Keep.of_wr W38).1
      have Kh38 : Keep h0 h38 [a0] := Kh36.wr W38 (Or.inl (by simp))
      have N38 := Fr.snoc X38 N36 g_a0
      obtain ⟨T39, X39, e39, st39⟩ := getF X38 hx hZ hown (host := "") (Or.inl (hw _ (List.mem_of_getElem? (i := 14) rfl))) Via.refl e38 F_width_a0 (g := (mkF m 218 #[.val (.ref a0), .val (.int p1), .val (.long q2), .second, .val (.ref va), .val (.long ls), .second, .val (.long gr), .second, .val (.long rg), .second, .val (.int fa), .val (.long mo), .second, .unset] [(.ref a0), (.ref a0)])) rfl rfl (hb hby d9_218)
      obtain ⟨cl40, Ar40, -, SS40, MM40, -, -⟩ := id V_va
      obtain ⟨T41, h41, k41, X41, e41, E41, A41, st41⟩ := newP X39 hx hZ (hw _ (List.mem_of_getElem? (i := 97) rfl)) e39 (g := (mkF m 228 #[.val (.ref a0), .val (.int p1), .val (.long q2), .second, .val (.ref va), .val (.long ls), .second, .val (.long gr), .second, .val (.long rg), .second, .val (.int fa), .val (.long mo), .second, .unset] [(.int nn), (.ref a0)])) rfl (hb hby d9_228) rfl (own_nneg hn.1) (cap := 8) (by rw [own_tn]; omega) (by decide) (by decide) (by decide)
      obtain ⟨ra, g41⟩ : ∃ z, z = h38.size := ⟨_, rfl⟩
      rw [← g41] at A41 st41
      have ne_a0_ra : a0 ≠ ra := Nat.ne_of_lt (Nat.lt_of_lt_of_le E_a0.lt (Nat.le_of_eq g41.symm))
      have ne_nr_ra : nr ≠ ra := Nat.ne_of_lt (Nat.lt_of_lt_of_le V_nr.lt (Nat.le_of_eq g41.symm))
      have ne_va_ra : va ≠ ra := Nat.ne_of_lt (Nat.lt_of_lt_of_le V_va.lt (Nat.le_of_eq g41.symm))
      have g_ra : n0 ≤ ra := Nat.le_trans Zh38 (Nat.le_of_eq g41.symm)
      have sz_ra : h0.size ≤ ra := Nat.le_trans Kh38.1 (Nat.le_of_eq g41.symm)
      have E_a0 : Exa Z h41 a0 "com/example/wadjet/wadjet/storage/IntegerChunk" := E_a0.ext E41
      have F_width_a0 : Fld Z h41 a0 "com/example/wadjet/wadjet/storage/IntegerChunk" "width" "I" (.int (4 : Int32)) := F_width_a0.ext E41
      have F_base_a0 : Fld Z h41 a0 "com/example/wadjet/wadjet/storage/IntegerChunk" "base" "J" (.long (0 : Int64)) := F_base_a0.ext E41
      have F_based_a0 : Fld Z h41 a0 "com/example/wadjet/wadjet/storage/IntegerChunk" "based" "Z" u_based := F_based_a0.ext E41
      have F_narrow_a0 : Fld Z h41 a0 "com/example/wadjet/wadjet/storage/IntegerChunk" "narrow" "[B" .null := F_narrow_a0.ext E41
      have F_middle_a0 : Fld Z h41 a0 "com/example/wadjet/wadjet/storage/IntegerChunk" "middle" "[C" .null := F_middle_a0.ext E41
      have F_wide_a0 : Fld Z h41 a0 "com/example/wadjet/wadjet/storage/IntegerChunk" "wide" "[I" u_wide := F_wide_a0.ext E41
      have F_nulls_a0 : Fld Z h41 a0 "com/example/wadjet/wadjet/storage/IntegerChunk" "nulls" "[J" .null := F_nulls_a0.ext E41
      have V_nr : Arv Z h41 nr kn .byte nn (ys.map Value.int) (.int (0 : Int32)) := V_nr.ext E41
      have V_va : Arv Z h41 va k2 .long nn (zs.map Value.long) (.long (0 : Int64)) := V_va.ext E41
      have Zh41 : n0 ≤ h41.size := Nat.le_trans Zh38 E41.1
      have Kh41 : Keep h0 h41 [a0] := Kh38.ext E41
      have V_ra : Arv Z h41 ra k41 .int nn [] (.int (0 : Int32)) := Arv.new A41 (own_nneg hn.1)
      have V_ra : Arv Z h41 ra k41 .int nn ((List.replicate nn.toNatClampNeg (0 : Int32)).map Value.int) (.int (0 : Int32)) := by rw [List.map_replicate]; exact V_ra.pad (pad_rep [] (.int (0 : Int32)) nn.toNatClampNeg)
      obtain ⟨T42, h42, X42, e42, W42, st42⟩ := putF X41 hx hZ hown (host := "") (Or.inl (hw _ (List.mem_of_getElem? (i := 62) rfl))) Via.refl e41 F_wide_a0 E_a0 (Or.inl (hw _ (List.mem_of_getElem? (i := 63) rfl))) (hw _ (List.mem_of_getElem? (i := 1) rfl)) (ty := (.array .int)) (by decide) rfl rfl (g := (mkF m 234 #[.val (.ref a0), .val (.int p1), .val (.long q2), .second, .val (.ref va), .val (.long ls), .second, .val (.long gr), .second, .val (.long rg), .second, .val (.int fa), .val (.long mo), .second, .unset] [(.ref ra), (.ref a0)])) rfl rfl (hb hby d9_234)
      have F_wide_a0 : Fld Z h42 a0 "com/example/wadjet/wadjet/storage/IntegerChunk" "wide" "[I" (.ref ra) := F_wide_a0.same W42
      have E_a0 : Exa Z h42 a0 "com/example/wadjet/wadjet/storage/IntegerChunk" := E_a0.wr W42
      have F_width_a0 : Fld Z h42 a0 "com/example/wadjet/wadjet/storage/IntegerChunk" "width" "I" (.int (4 : Int32)) := F_width_a0.other W42 (Or.inr (slot_ne (Or.inl (hw _ (List.mem_of_getElem? (i := 15) rfl))) (Or.inl (hw _ (List.mem_of_getElem? (i := 63) rfl))) (by decide) (t := .int) (t' := (.array .int)) (by decide) (by decide)))
      have F_base_a0 : Fld Z h42 a0 "com/example/wadjet/wadjet/storage/IntegerChunk" "base" "J" (.long (0 : Int64)) := F_base_a0.other W42 (Or.inr (slot_ne (Or.inl (hw _ (List.mem_of_getElem? (i := 31) rfl))) (Or.inl (hw _ (List.mem_of_getElem? (i := 63) rfl))) (by decide) (t := .long) (t' := (.array .int)) (by decide) (by decide)))
      have F_based_a0 : Fld Z h42 a0 "com/example/wadjet/wadjet/storage/IntegerChunk" "based" "Z" u_based := F_based_a0.other W42 (Or.inr (slot_ne (Or.inl (hw _ (List.mem_of_getElem? (i := 29) rfl))) (Or.inl (hw _ (List.mem_of_getElem? (i := 63) rfl))) (by decide) (t := .boolean) (t' := (.array .int)) (by decide) (by decide)))
      have F_narrow_a0 : Fld Z h42 a0 "com/example/wadjet/wadjet/storage/IntegerChunk" "narrow" "[B" .null := F_narrow_a0.other W42 (Or.inr (slot_ne (Or.inl (hw _ (List.mem_of_getElem? (i := 18) rfl))) (Or.inl (hw _ (List.mem_of_getElem? (i := 63) rfl))) (by decide) (t := (.array .byte)) (t' := (.array .int)) (by decide) (by decide)))
      have F_middle_a0 : Fld Z h42 a0 "com/example/wadjet/wadjet/storage/IntegerChunk" "middle" "[C" .null := F_middle_a0.other W42 (Or.inr (slot_ne (Or.inl (hw _ (List.mem_of_getElem? (i := 61) rfl))) (Or.inl (hw _ (List.mem_of_getElem? (i := 63) rfl))) (by decide) (t := (.array .char)) (t' := (.array .int)) (by decide) (by decide)))
      have F_nulls_a0 : Fld Z h42 a0 "com/example/wadjet/wadjet/storage/IntegerChunk" "nulls" "[J" .null := F_nulls_a0.other W42 (Or.inr (slot_ne (Or.inl (hw _ (List.mem_of_getElem? (i := 37) rfl))) (Or.inl (hw _ (List.mem_of_getElem? (i := 63) rfl))) (by decide) (t := (.array .long)) (t' := (.array .int)) (by decide) (by decide)))
      have V_nr : Arv Z h42 nr kn .byte nn (ys.map Value.int) (.int (0 : Int32)) := V_nr.other W42 ne_nr_a0
      have V_va : Arv Z h42 va k2 .long nn (zs.map Value.long) (.long (0 : Int64)) := V_va.other W42 (Ne.symm ne_a0_va)
      have V_ra : Arv Z h42 ra k41 .int nn ((List.replicate nn.toNatClampNeg (0 : Int32)).map Value.int) (.int (0 : Int32)) := V_ra.other W42 (Ne.symm ne_a0_ra)
      have Zh42 : n0 ≤ h42.size := Nat.le_trans Zh41 (Keep.of_wr W42).1
      have Kh42 : Keep h0 h42 [a0] := Kh41.wr W42 (Or.inl (by simp))
      have N42 := Fr.snoc X42 N38 g_a0
      obtain ⟨T43, h43, L43, X43, e43, N43, Kc43, E_a0, F_width_a0, F_base_a0, F_based_a0, F_narrow_a0, F_middle_a0, F_wide_a0, F_nulls_a0, V_ra, V_va, st43⟩ := lq4 a0 p1 q2 va ls gr rg mo fa u_based .null .null .null (0 : Int64) ra k41 nn k2 zs hx hZ hw hby hml hown g_ra ne_a0_ra ne_va_ra hn.2 nn.toNatClampNeg 0 (List.replicate nn.toNatClampNeg 0) X42 e42 N42 Zh42 E_a0 F_width_a0 F_base_a0 F_based_a0 F_narrow_a0 F_middle_a0 F_wide_a0 F_nulls_a0 V_ra V_va (by rw [own_tn]; omega) (by rw [List.length_replicate])
      have Zh43 : n0 ≤ h43.size := Nat.le_trans Zh42 Kc43.1
      have Kh43 : Keep h0 h43 [a0] := Kh42.trans Kc43 (allS (Or.inr sz_ra) all0)
      obtain ⟨fs, hr, hrun, hended, hW, hsame⟩ := X43.leave (v := none) (fun _ => rfl)
      refine ⟨_, _, pre0 _ ?_, hrun, hended, _, _, rfl, ?_, ⟨_, rfl⟩, hW, hsame.mono (by decide) (by decide)⟩
      · show Steps p.tables e below (s₁.setTop (mkF m 0 #[.val (.ref a0), .val (.int p1), .val (.long q2), .second, .unset, .unset, .unset, .unset, .unset, .unset, .unset, .unset, .unset, .unset, .unset] [])) _
        refine XS.aloadN X0.here hx rfl (hb hby d9_0) rfl rfl ?_
        refine st1.trans ?_
        show Steps p.tables e below (T1.setTop (mkF m 4 #[.val (.ref a0), .val (.int p1), .val (.long q2), .second, .unset, .unset, .unset, .unset, .unset, .unset, .unset, .unset, .unset, .unset, .unset] [(.int nn)])) _
        refine st2 _ ?_
        show Steps p.tables e below (T2.setTop (mkF m 6 #[.val (.ref a0), .val (.int p1), .val (.long q2), .second, .unset, .unset, .unset, .unset, .unset, .unset, .unset, .unset, .unset, .unset, .unset] [(.ref va)])) _
        refine XS.astore X2.here hx rfl (hb hby d9_6) rfl rfl (l' := #[.val (.ref a0), .val (.int p1), .val (.long q2), .second, .val (.ref va), .unset, .unset, .unset, .unset, .unset, .unset, .unset, .unset, .unset, .unset]) rfl ?_
        refine XS.lloadN X2.here hx rfl (hb hby d9_8) rfl ?_
        refine XS.lstore X2.here hx rfl (hb hby d9_9) rfl (l' := #[.val (.ref a0), .val (.int p1), .val (.long q2), .second, .val (.ref va), .val (.long q2), .second, .unset, .unset, .unset, .unset, .unset, .unset, .unset, .unset]) rfl ?_
        refine XS.lloadN X2.here hx rfl (hb hby d9_11) rfl ?_
        show Steps p.tables e below (T2.setTop (mkF m 12 #[.val (.ref a0), .val (.int p1), .val (.long q2), .second, .val (.ref va), .val (.long q2), .second, .unset, .unset, .unset, .unset, .unset, .unset, .unset, .unset] [(.long q2)])) _
        refine XS.lstore X2.here hx rfl (hb hby d9_12) rfl (l' := #[.val (.ref a0), .val (.int p1), .val (.long q2), .second, .val (.ref va), .val (.long q2), .second, .val (.long q2), .second, .unset, .unset, .unset, .unset, .unset, .unset]) rfl ?_
        refine XS.iconst X2.here hx rfl (hb hby d9_14) ?_
        refine XS.istore X2.here hx rfl (hb hby d9_15) rfl (l' := #[.val (.ref a0), .val (.int p1), .val (.long q2), .second, .val (.ref va), .val (.long q2), .second, .val (.long q2), .second, .val (.int (0 : Int32)), .unset, .unset, .unset, .unset, .unset]) rfl ?_
        refine st3 _ ?_
        show Steps p.tables e below (T3.setTop (mkF m 76 #[.val (.ref a0), .val (.int p1), .val (.long q2), .second, .val (.ref va), .val (.long ls), .second, .val (.long gr), .second, .val (.int (Int32.ofNat (0 + nn.toNatClampNeg))), .unset, .unset, .unset, .unset, .unset] [])) _
        refine XS.lload X3.here hx rfl (hb hby d9_76) rfl ?_
        refine XS.lload X3.here hx rfl (hb hby d9_78) rfl ?_
        refine XS.lsub X3.here hx rfl (hb hby d9_80) rfl ?_
        show Steps p.tables e below (T3.setTop (mkF m 81 #[.val (.ref a0), .val (.int p1), .val (.long q2), .second, .val (.ref va), .val (.long ls), .second, .val (.long gr), .second, .val (.int (Int32.ofNat (0 + nn.toNatClampNeg))), .unset, .unset, .unset, .unset, .unset] [(.long (gr - ls))])) _
        rw [← h_rg]
        show Steps p.tables e below (T3.setTop (mkF m 81 #[.val (.ref a0), .val (.int p1), .val (.long q2), .second, .val (.ref va), .val (.long ls), .second, .val (.long gr), .second, .val (.int (Int32.ofNat (0 + nn.toNatClampNeg))), .unset, .unset, .unset, .unset, .unset] [(.long rg)])) _
        refine XS.lstore X3.here hx rfl (hb hby d9_81) rfl (l' := #[.val (.ref a0), .val (.int p1), .val (.long q2), .second, .val (.ref va), .val (.long ls), .second, .val (.long gr), .second, .val (.long rg), .second, .unset, .unset, .unset, .unset]) rfl ?_
        refine XS.lloadN X3.here hx rfl (hb hby d9_83) rfl ?_
        refine XS.aloadN X3.here hx rfl (hb hby d9_84) rfl rfl ?_
        refine st4 _ ?_
        show Steps p.tables e below (T4.setTop (mkF m 88 #[.val (.ref a0), .val (.int p1), .val (.long q2), .second, .val (.ref va), .val (.long ls), .second, .val (.long gr), .second, .val (.long rg), .second, .unset, .unset, .unset, .unset] [(.long bb), (.long q2)])) _
        refine XS.lcmp X4.here hx rfl (hb hby d9_88) rfl ?_
        refine own_via (T4.setTop (mkF m 97 #[.val (.ref a0), .val (.int p1), .val (.long q2), .second, .val (.ref va), .val (.long ls), .second, .val (.long gr), .second, .val (.long rg), .second, .unset, .unset, .unset, .unset] [(.int (if q2 < bb then (1 : Int32) else (0 : Int32)))])) (fun k => ?_) ?_
        · by_cases hc89 : q2 < bb
          · show Steps p.tables e below (T4.setTop (mkF m 89 #[.val (.ref a0), .val (.int p1), .val (.long q2), .second, .val (.ref va), .val (.long ls), .second, .val (.long gr), .second, .val (.long rg), .second, .unset, .unset, .unset, .unset] [(.int (lcmpW q2 bb))])) _
            refine XS.ifNo X4.here hx rfl (hb hby d9_89) rfl ((if0 _ _).trans (tlt ((lw_lt _ _).mpr hc89)).2.1) ?_
            refine XS.iconst X4.here hx rfl (hb hby d9_92) ?_
            refine XS.goto X4.here hx rfl (pc0 := 93) (pc' := 97) rfl (hb hby d9_93) (by decide) (by decide) ?_
            try simp only [if_pos hc89] at k
            exact k
          · show Steps p.tables e below (T4.setTop (mkF m 89 #[.val (.ref a0), .val (.int p1), .val (.long q2), .second, .val (.ref va), .val (.long ls), .second, .val (.long gr), .second, .val (.long rg), .second, .unset, .unset, .unset, .unset] [(.int (lcmpW q2 bb))])) _
            refine XS.ifYes X4.here hx rfl (pc0 := 89) (pc' := 96) rfl (hb hby d9_89) rfl ((if0 _ _).trans (flt (mt (lw_lt _ _).mp hc89)).2.1) (by decide) (by decide) ?_
            show Steps p.tables e below (T4.setTop (mkF m 96 #[.val (.ref a0), .val (.int p1), .val (.long q2), .second, .val (.ref va), .val (.long ls), .second, .val (.long gr), .second, .val (.long rg), .second, .unset, .unset, .unset, .unset] [])) _
            refine XS.iconst X4.here hx rfl (hb hby d9_96) ?_
            try simp only [if_neg hc89] at k
            exact k
        show Steps p.tables e below (T4.setTop (mkF m 97 #[.val (.ref a0), .val (.int p1), .val (.long q2), .second, .val (.ref va), .val (.long ls), .second, .val (.long gr), .second, .val (.long rg), .second, .unset, .unset, .unset, .unset] [(.int (if q2 < bb then (1 : Int32) else (0 : Int32)))])) _
        rw [← h_fa]
        show Steps p.tables e below (T4.setTop (mkF m 97 #[.val (.ref a0), .val (.int p1), .val (.long q2), .second, .val (.ref va), .val (.long ls), .second, .val (.long gr), .second, .val (.long rg), .second, .unset, .unset, .unset, .unset] [(.int fa)])) _
        refine XS.istore X4.here hx rfl (hb hby d9_97) rfl (l' := #[.val (.ref a0), .val (.int p1), .val (.long q2), .second, .val (.ref va), .val (.long ls), .second, .val (.long gr), .second, .val (.long rg), .second, .val (.int fa), .unset, .unset, .unset]) rfl ?_
        refine XS.aloadN X4.here hx rfl (hb hby d9_99) rfl rfl ?_
        show Steps p.tables e below (T4.setTop (mkF m 100 #[.val (.ref a0), .val (.int p1), .val (.long q2), .second, .val (.ref va), .val (.long ls), .second, .val (.long gr), .second, .val (.long rg), .second, .val (.int fa), .unset, .unset, .unset] [(.ref a0)])) _
        refine XS.lload X4.here hx rfl (hb hby d9_100) rfl ?_
        refine X4.ldc2Long hx hown (mvT hZ (hw _ (List.mem_of_getElem? (i := 59) rfl))) (g := (mkF m 102 #[.val (.ref a0), .val (.int p1), .val (.long q2), .second, .val (.ref va), .val (.long ls), .second, .val (.long gr), .second, .val (.long rg), .second, .val (.int fa), .unset, .unset, .unset] [(.long rg), (.ref a0)])) rfl (hb hby d9_102) _ ?_
        show Steps p.tables e below (T4.setTop (mkF m 105 #[.val (.ref a0), .val (.int p1), .val (.long q2), .second, .val (.ref va), .val (.long ls), .second, .val (.long gr), .second, .val (.long rg), .second, .val (.int fa), .unset, .unset, .unset] [(.long (256 : Int64)), (.long rg), (.ref a0)])) _
        refine XS.lcmp X4.here hx rfl (hb hby d9_105) rfl ?_
        refine XS.ifYes X4.here hx rfl (pc0 := 106) (pc' := 113) rfl (hb hby d9_106) rfl ((if0 _ _).trans (flt (mt (lw_lt _ _).mp hc106)).2.1) (by decide) (by decide) ?_
        show Steps p.tables e below (T4.setTop (mkF m 113 #[.val (.ref a0), .val (.int p1), .val (.long q2), .second, .val (.ref va), .val (.long ls), .second, .val (.long gr), .second, .val (.long rg), .second, .val (.int fa), .unset, .unset, .unset] [(.ref a0)])) _
        refine XS.lload X4.here hx rfl (hb hby d9_113) rfl ?_
        refine X4.ldc2Long hx hown (mvT hZ (hw _ (List.mem_of_getElem? (i := 96) rfl))) (g := (mkF m 115 #[.val (.ref a0), .val (.int p1), .val (.long q2), .second, .val (.ref va), .val (.long ls), .second, .val (.long gr), .second, .val (.long rg), .second, .val (.int fa), .unset, .unset, .unset] [(.long rg), (.ref a0)])) rfl (hb hby d9_115) _ ?_
        show Steps p.tables e below (T4.setTop (mkF m 118 #[.val (.ref a0), .val (.int p1), .val (.long q2), .second, .val (.ref va), .val (.long ls), .second, .val (.long gr), .second, .val (.long rg), .second, .val (.int fa), .unset, .unset, .unset] [(.long (65536 : Int64)), (.long rg), (.ref a0)])) _
        refine XS.lcmp X4.here hx rfl (hb hby d9_118) rfl ?_
        refine XS.ifYes X4.here hx rfl (pc0 := 119) (pc' := 126) rfl (hb hby d9_119) rfl ((if0 _ _).trans (flt (mt (lw_lt _ _).mp hc119)).2.1) (by decide) (by decide) ?_
        show Steps p.tables e below (T4.setTop (mkF m 126 #[.val (.ref a0), .val (.int p1), .val (.long q2), .second, .val (.ref va), .val (.long ls), .second, .val (.long gr), .second, .val (.long rg), .second, .val (.int fa), .unset, .unset, .unset] [(.ref a0)])) _
        refine XS.iconst X4.here hx rfl (hb hby d9_126) ?_
        refine st31 _ ?_
        show Steps p.tables e below (T31.setTop (mkF m 130 #[.val (.ref a0), .val (.int p1), .val (.long q2), .second, .val (.ref va), .val (.long ls), .second, .val (.long gr), .second, .val (.long rg), .second, .val (.int fa), .unset, .unset, .unset] [])) _
        refine XS.lconst X31.here hx rfl (hb hby d9_130) ?_
        refine XS.bipush X31.here hx rfl (hb hby d9_131) ?_
        show Steps p.tables e below (T31.setTop (mkF m 133 #[.val (.ref a0), .val (.int p1), .val (.long q2), .second, .val (.ref va), .val (.long ls), .second, .val (.long gr), .second, .val (.long rg), .second, .val (.int fa), .unset, .unset, .unset] [(.int (8 : Int32)), (.long (1 : Int64))])) _
        refine XS.aloadN X31.here hx rfl (hb hby d9_133) rfl rfl ?_
        refine st32 _ ?_
        show Steps p.tables e below (T32.setTop (mkF m 137 #[.val (.ref a0), .val (.int p1), .val (.long q2), .second, .val (.ref va), .val (.long ls), .second, .val (.long gr), .second, .val (.long rg), .second, .val (.int fa), .unset, .unset, .unset] [(.int (4 : Int32)), (.int (8 : Int32)), (.long (1 : Int64))])) _
        refine XS.imul X32.here hx rfl (hb hby d9_137) rfl ?_
        refine XS.lshl X32.here hx rfl (hb hby d9_138) rfl ?_
        show Steps p.tables e below (T32.setTop (mkF m 139 #[.val (.ref a0), .val (.int p1), .val (.long q2), .second, .val (.ref va), .val (.long ls), .second, .val (.long gr), .second, .val (.long rg), .second, .val (.int fa), .unset, .unset, .unset] [(.long ((1 : Int64) <<< (((8 : Int32) * (4 : Int32)) &&& 0x3f).toInt64))])) _
        refine XS.lconst X32.here hx rfl (hb hby d9_139) ?_
        refine XS.lsub X32.here hx rfl (hb hby d9_140) rfl ?_
        show Steps p.tables e below (T32.setTop (mkF m 141 #[.val (.ref a0), .val (.int p1), .val (.long q2), .second, .val (.ref va), .val (.long ls), .second, .val (.long gr), .second, .val (.long rg), .second, .val (.int fa), .unset, .unset, .unset] [(.long (((1 : Int64) <<< (((8 : Int32) * (4 : Int32)) &&& 0x3f).toInt64) - (1 : Int64)))])) _
        rw [← h_mo]
        show Steps p.tables e below (T32.setTop (mkF m 141 #[.val (.ref a0), .val (.int p1), .val (.long q2), .second, .val (.ref va), .val (.long ls), .second, .val (.long gr), .second, .val (.long rg), .second, .val (.int fa), .unset, .unset, .unset] [(.long mo)])) _
        refine XS.lstore X32.here hx rfl (hb hby d9_141) rfl (l' := #[.val (.ref a0), .val (.int p1), .val (.long q2), .second, .val (.ref va), .val (.long ls), .second, .val (.long gr), .second, .val (.long rg), .second, .val (.int fa), .val (.long mo), .second, .unset]) rfl ?_
        show Steps p.tables e below (T32.setTop (mkF m 143 #[.val (.ref a0), .val (.int p1), .val (.long q2), .second, .val (.ref va), .val (.long ls), .second, .val (.long gr), .second, .val (.long rg), .second, .val (.int fa), .val (.long mo), .second, .unset] [])) _
        refine XS.aloadN X32.here hx rfl (hb hby d9_143) rfl rfl ?_
        refine XS.aloadN X32.here hx rfl (hb hby d9_144) rfl rfl ?_
        refine st33 _ ?_
        show Steps p.tables e below (T33.setTop (mkF m 148 #[.val (.ref a0), .val (.int p1), .val (.long q2), .second, .val (.ref va), .val (.long ls), .second, .val (.long gr), .second, .val (.long rg), .second, .val (.int fa), .val (.long mo), .second, .unset] [(.int (4 : Int32)), (.ref a0)])) _
        refine XS.iconst X33.here hx rfl (hb hby d9_148) ?_
        show Steps p.tables e below (T33.setTop (mkF m 149 #[.val (.ref a0), .val (.int p1), .val (.long q2), .second, .val (.ref va), .val (.long ls), .second, .val (.long gr), .second, .val (.long rg), .second, .val (.int fa), .val (.long mo), .second, .unset] [(.int (4 : Int32)), (.int (4 : Int32)), (.ref a0)])) _
        refine XS.icmpNo X33.here hx rfl (hb hby d9_149) rfl (teq (by decide : (4 : Int32) = (4 : Int32))).2 ?_
        refine XS.lconst X33.here hx rfl (hb hby d9_152) ?_
        refine XS.goto X33.here hx rfl (pc0 := 153) (pc' := 171) rfl (hb hby d9_153) (by decide) (by decide) ?_
        show Steps p.tables e below (T33.setTop (mkF m 171 #[.val (.ref a0), .val (.int p1), .val (.long q2), .second, .val (.ref va), .val (.long ls), .second, .val (.long gr), .second, .val (.long rg), .second, .val (.int fa), .val (.long mo), .second, .unset] [(.long (0 : Int64)), (.ref a0)])) _
        refine st34 _ ?_
        show Steps p.tables e below (T34.setTop (mkF m 174 #[.val (.ref a0), .val (.int p1), .val (.long q2), .second, .val (.ref va), .val (.long ls), .second, .val (.long gr), .second, .val (.long rg), .second, .val (.int fa), .val (.long mo), .second, .unset] [])) _
        refine XS.aloadN X34.here hx rfl (hb hby d9_174) rfl rfl ?_
        refine XS.aloadN X34.here hx rfl (hb hby d9_175) rfl rfl ?_
        refine st35 _ ?_
        show Steps p.tables e below (T35.setTop (mkF m 179 #[.val (.ref a0), .val (.int p1), .val (.long q2), .second, .val (.ref va), .val (.long ls), .second, .val (.long gr), .second, .val (.long rg), .second, .val (.int fa), .val (.long mo), .second, .unset] [(.int (4 : Int32)), (.ref a0)])) _
        refine XS.iconst X35.here hx rfl (hb hby d9_179) ?_
        show Steps p.tables e below (T35.setTop (mkF m 180 #[.val (.ref a0), .val (.int p1), .val (.long q2), .second, .val (.ref va), .val (.long ls), .second, .val (.long gr), .second, .val (.long rg), .second, .val (.int fa), .val (.long mo), .second, .unset] [(.int (1 : Int32)), (.int (4 : Int32)), (.ref a0)])) _
        refine XS.icmpYes X35.here hx rfl (pc0 := 180) (pc' := 191) rfl (hb hby d9_180) rfl (feq (by decide : ¬ ((4 : Int32) = (1 : Int32)))).2 (by decide) (by decide) ?_
        show Steps p.tables e below (T35.setTop (mkF m 191 #[.val (.ref a0), .val (.int p1), .val (.long q2), .second, .val (.ref va), .val (.long ls), .second, .val (.long gr), .second, .val (.long rg), .second, .val (.int fa), .val (.long mo), .second, .unset] [(.ref a0)])) _
        refine XS.aconstNull X35.here hx rfl (hb hby d9_191) ?_
        refine st36 _ ?_
        show Steps p.tables e below (T36.setTop (mkF m 195 #[.val (.ref a0), .val (.int p1), .val (.long q2), .second, .val (.ref va), .val (.long ls), .second, .val (.long gr), .second, .val (.long rg), .second, .val (.int fa), .val (.long mo), .second, .unset] [])) _
        refine XS.aloadN X36.here hx rfl (hb hby d9_195) rfl rfl ?_
        show Steps p.tables e below (T36.setTop (mkF m 196 #[.val (.ref a0), .val (.int p1), .val (.long q2), .second, .val (.ref va), .val (.long ls), .second, .val (.long gr), .second, .val (.long rg), .second, .val (.int fa), .val (.long mo), .second, .unset] [(.ref a0)])) _
        refine XS.aloadN X36.here hx rfl (hb hby d9_196) rfl rfl ?_
        refine st37 _ ?_
        show Steps p.tables e below (T37.setTop (mkF m 200 #[.val (.ref a0), .val (.int p1), .val (.long q2), .second, .val (.ref va), .val (.long ls), .second, .val (.long gr), .second, .val (.long rg), .second, .val (.int fa), .val (.long mo), .second, .unset] [(.int (4 : Int32)), (.ref a0)])) _
        refine XS.iconst X37.here hx rfl (hb hby d9_200) ?_
        refine XS.icmpYes X37.here hx rfl (pc0 := 201) (pc' := 212) rfl (hb hby d9_201) rfl (feq (by decide : ¬ ((4 : Int32) = (2 : Int32)))).2 (by decide) (by decide) ?_
        show Steps p.tables e below (T37.setTop (mkF m 212 #[.val (.ref a0), .val (.int p1), .val (.long q2), .second, .val (.ref va), .val (.long ls), .second, .val (.long gr), .second, .val (.long rg), .second, .val (.int fa), .val (.long mo), .second, .unset] [(.ref a0)])) _
        refine XS.aconstNull X37.here hx rfl (hb hby d9_212) ?_
        refine st38 _ ?_
        show Steps p.tables e below (T38.setTop (mkF m 216 #[.val (.ref a0), .val (.int p1), .val (.long q2), .second, .val (.ref va), .val (.long ls), .second, .val (.long gr), .second, .val (.long rg), .second, .val (.int fa), .val (.long mo), .second, .unset] [])) _
        refine XS.aloadN X38.here hx rfl (hb hby d9_216) rfl rfl ?_
        refine XS.aloadN X38.here hx rfl (hb hby d9_217) rfl rfl ?_
        show Steps p.tables e below (T38.setTop (mkF m 218 #[.val (.ref a0), .val (.int p1), .val (.long q2), .second, .val (.ref va), .val (.long ls), .second, .val (.long gr), .second, .val (.long rg), .second, .val (.int fa), .val (.long mo), .second, .unset] [(.ref a0), (.ref a0)])) _
        refine st39 _ ?_
        show Steps p.tables e below (T39.setTop (mkF m 221 #[.val (.ref a0), .val (.int p1), .val (.long q2), .second, .val (.ref va), .val (.long ls), .second, .val (.long gr), .second, .val (.long rg), .second, .val (.int fa), .val (.long mo), .second, .unset] [(.int (4 : Int32)), (.ref a0)])) _
        refine XS.iconst X39.here hx rfl (hb hby d9_221) ?_
        refine XS.icmpNo X39.here hx rfl (hb hby d9_222) rfl (teq (by decide : (4 : Int32) = (4 : Int32))).2 ?_
        refine XS.aload X39.here hx rfl (hb hby d9_225) rfl rfl ?_
        show Steps p.tables e below (T39.setTop (mkF m 227 #[.val (.ref a0), .val (.int p1), .val (.long q2), .second, .val (.ref va), .val (.long ls), .second, .val (.long gr), .second, .val (.long rg), .second, .val (.int fa), .val (.long mo), .second, .unset] [(.ref va), (.ref a0)])) _
        refine X39.arraylength hx (by rw [e39]; exact Ar40.1) (State.isArrayOf_alike hZ.alike Ar40.2.1) (g := (mkF m 227 #[.val (.ref a0), .val (.int p1), .val (.long q2), .second, .val (.ref va), .val (.long ls), .second, .val (.long gr), .second, .val (.long rg), .second, .val (.int fa), .val (.long mo), .second, .unset] [(.ref va), (.ref a0)])) rfl rfl (hb hby d9_227) _ ?_
        rw [len_of SS40 MM40]
        show Steps p.tables e below (T39.setTop (mkF m 228 #[.val (.ref a0), .val (.int p1), .val (.long q2), .second, .val (.ref va), .val (.long ls), .second, .val (.long gr), .second, .val (.long rg), .second, .val (.int fa), .val (.long mo), .second, .unset] [(.int nn), (.ref a0)])) _
        refine st41 _ ?_
        show Steps p.tables e below (T41.setTop (mkF m 230 #[.val (.ref a0), .val (.int p1), .val (.long q2), .second, .val (.ref va), .val (.long ls), .second, .val (.long gr), .second, .val (.long rg), .second, .val (.int fa), .val (.long mo), .second, .unset] [(.ref ra), (.ref a0)])) _
        refine XS.goto X41.here hx rfl (pc0 := 230) (pc' := 234) rfl (hb hby d9_230) (by decide) (by decide) ?_
        show Steps p.tables e below (T41.setTop (mkF m 234 #[.val (.ref a0), .val (.int p1), .val (.long q2), .second, .val (.ref va), .val (.long ls), .second, .val (.long gr), .second, .val (.long rg), .second, .val (.int fa), .val (.long mo), .second, .unset] [(.ref ra), (.ref a0)])) _
        refine st42 _ ?_
        show Steps p.tables e below (T42.setTop (mkF m 237 #[.val (.ref a0), .val (.int p1), .val (.long q2), .second, .val (.ref va), .val (.long ls), .second, .val (.long gr), .second, .val (.long rg), .second, .val (.int fa), .val (.long mo), .second, .unset] [])) _
        refine XS.iconst X42.here hx rfl (hb hby d9_237) ?_
        refine XS.istore X42.here hx rfl (hb hby d9_238) rfl (l' := #[.val (.ref a0), .val (.int p1), .val (.long q2), .second, .val (.ref va), .val (.long ls), .second, .val (.long gr), .second, .val (.long rg), .second, .val (.int fa), .val (.long mo), .second, .val (.int (0 : Int32))]) rfl ?_
        refine st43 _ ?_
        show Steps p.tables e below (T43.setTop (mkF m 327 #[.val (.ref a0), .val (.int p1), .val (.long q2), .second, .val (.ref va), .val (.long ls), .second, .val (.long gr), .second, .val (.long rg), .second, .val (.int fa), .val (.long mo), .second, .val (.int (Int32.ofNat (0 + nn.toNatClampNeg)))] [])) _
        exact X43.returnOut hx Bd.returns (hb hby d9_327) hr
      · show Qwd Z a0 p1 q2 (1 : Int32) bb u_based nn ys h0 n0 _ T43.heap _
        rw [e43]
        exact ⟨rfl, N43, Kh43.1, _, _, _, ⟨_, ls, gr, zs, rfl, h_ls, h_gr, h_zs, Or.inr (Or.inr ⟨rfl, rfl, rfl⟩)⟩, g_a0, E_a0, _, _, _, _, _, g_ra, (Ne.symm ne_a0_ra), F_width_a0, F_base_a0, F_based_a0, F_narrow_a0, F_middle_a0, F_wide_a0, F_nulls_a0, Or.inr (Or.inr ⟨rfl, rfl, V_ra⟩)⟩
theorem ef_rmW_2 (m : MethodId) (a0 : Addr) (p1 : Int32) (q2 : Int64) : entryFrame m #[(.ref a0), (.int p1), (.long q2)] 15 = mkF m 0 #[.val (.ref a0), .val (.int p1), .val (.long q2), .second, .unset, .unset, .unset, .unset, .unset, .unset, .unset, .unset, .unset, .unset, .unset] [] := by first | (simp [entryFrame, mkF, argsToLocals, Value.category]; done) | rfl
set_option maxRecDepth 65536 in
set_option maxHeartbeats 40000000 in
theorem rmW_2 (l : Launch) (Z : State) (A0 : Array Value) (hw : ∀ d ∈ tables_1, d.before A0 Z = true) (ws : List Jvm.Cond) (a0 : Addr) (p1 : Int32) (q2 : Int64) (u_based : Value) (u_narrow : Value) (u_wide : Value) (bb : Int64) (nr : Addr) (kn : ClassId) (nn : Int32) (ys : List Int32) (h0 : Heap) (n0 : Nat) (Z0 : n0 ≤ h0.size) (E_a0 : Exa Z h0 a0 "com/example/wadjet/wadjet/storage/IntegerChunk") (F_width_a0 : Fld Z h0 a0 "com/example/wadjet/wadjet/storage/IntegerChunk" "width" "I" (.int (2 : Int32))) (F_base_a0 : Fld Z h0 a0 "com/example/wadjet/wadjet/storage/IntegerChunk" "base" "J" (.long bb)) (F_based_a0 : Fld Z h0 a0 "com/example/wadjet/wadjet/storage/IntegerChunk" "based" "Z" u_based) (F_narrow_a0 : Fld Z h0 a0 "com/example/wadjet/wadjet/storage/IntegerChunk" "narrow" "[B" u_narrow) (F_middle_a0 : Fld Z h0 a0 "com/example/wadjet/wadjet/storage/IntegerChunk" "middle" "[C" (.ref nr)) (F_wide_a0 : Fld Z h0 a0 "com/example/wadjet/wadjet/storage/IntegerChunk" "wide" "[I" u_wide) (F_nulls_a0 : Fld Z h0 a0 "com/example/wadjet/wadjet/storage/IntegerChunk" "nulls" "[J" .null) (V_nr : Arv Z h0 nr kn .char nn (ys.map Value.int) (.int (0 : Int32))) (g_a0 : n0 ≤ a0) (ne_nr_a0 : nr ≠ a0) (hn : 0 ≤ nn.toInt ∧ nn.toInt ≤ 8) :
    MetFree l (⟨"com/example/wadjet/wadjet/storage/IntegerChunk", "widen", "(IJ)V"⟩ : MethodName) (head1 (Jvm.Cond.code (⟨"com/example/wadjet/wadjet/storage/IntegerChunk", "widen", "(IJ)V"⟩ : MethodName) prog_257_method_15_code 15 none :: ws) ({ frames := 1, cells := 2, slots := 16, locals := 40 } : Room)) (fun a U => a = #[(.ref a0), (.int p1), (.long q2)] ∧ Z.Warmed39 U.vm ∧ U.heap = h0) (fun _ _ _ _ _ => True) (fun _ U o U' => ∃ v L, o = .returned v ∧ Qwd Z a0 p1 q2 (2 : Int32) bb u_based nn ys h0 n0 v U'.heap L ∧ FrameEnd U o U' L ({ frames := 1, cells := 2, slots := 16, locals := 40 } : Room).cells ({ frames := 1, cells := 2, slots := 16, locals := 40 } : Room).slots) := by
  refine MetFree.of_bodySF (plainFor_of_name pn_9) hisR ?_
  intro p e s m args below meth c s₁ Bd hml0 hP hK
  obtain ⟨rfl, hZ, hh⟩ := hP
  have hx := Bd.exec
  have hby := Bd.bytes
  have hml : c.maxLocals = 15 := hml0
  have hown : s.vm.findClass "com/example/wadjet/wadjet/storage/IntegerChunk" = some m.cls := findClass_of_methodNamed Bd.named
  have hnm := (name_of_methodNamed Bd.named Bd.method).1
  have X0 : Stand p l e ({ frames := 1, cells := 2, slots := 16, locals := 40 } : Room) s m #[(.ref a0), (.int p1), (.long q2)] below meth c s₁ [] 0 0 := Stand.of_body Bd
  have e0 : s₁.heap = h0 := by rw [← hh, Bd.state]; rfl
  have N0 := Fr.nil n0
  have K0 : Keep h0 h0 [a0] := Keep.refl _ _
  have pre0 : ∀ t, Steps p.tables e below (s₁.setTop (mkF m 0 #[.val (.ref a0), .val (.int p1), .val (.long q2), .second, .unset, .unset, .unset, .unset, .unset, .unset, .unset, .unset, .unset, .unset, .unset] [])) t → Steps p.tables e below (s₁.setTop (entryFrame m #[(.ref a0), (.int p1), (.long q2)] 15)) t := fun t k => castTop (ef_rmW_2 m a0 p1 q2) k
  obtain ⟨cq1, qv1, qv1'⟩ := E_a0.cell
  obtain ⟨_, _, ⟨T1, L1, k1, n1⟩, -, X1, ⟨Lc1, hQ1, l1, y1, z1⟩, st1⟩ := X0.privateBack hx (y := (⟨"com/example/wadjet/wadjet/storage/IntegerChunk", "capacity", "()I"⟩ : MethodName)) hown (mvT hZ (hw _ (List.mem_of_getElem? (i := 32) rfl))) (mvT hZ (hw _ (List.mem_of_getElem? (i := 33) rfl))) (own_selP hZ (hw _ (List.mem_of_getElem? (i := 1) rfl)) (hw _ (List.mem_of_getElem? (i := 34) rfl)) (hw _ (List.mem_of_getElem? (i := 33) rfl)) (by decide)) (Cond.privateMethod_at (mvP hZ (hw _ (List.mem_of_getElem? (i := 34) rfl)) (args := #[]))) (mvT hZ (hw _ (List.mem_of_getElem? (i := 35) rfl))) (by decide) (backOf (W := 0) (rmC_2 l Z A0 hw [] a0 nr kn nn ys h0 n0 Z0 F_width_a0 F_middle_a0 V_nr) hZ (hw _ (List.mem_of_getElem? (i := 35) rfl)) (hw _ (List.mem_of_getElem? (i := 2) rfl)) (by decide) (by decide)) (g := (mkF m 1 #[.val (.ref a0), .val (.int p1), .val (.long q2), .second, .unset, .unset, .unset, .unset, .unset, .unset, .unset, .unset, .unset, .unset, .unset] [(.ref a0)])) rfl (by rw [hml]; rfl) (Steps.refl _) (a := a0) (by rw [e0]; exact qv1) qv1' (argsL := []) (rest := []) (lenOf pd_7 rfl) rfl (by show 2 * 0 + _ ≤ _; exact Nat.le_of_eq rfl) (hb hby d9_1) (fun _ _ => ⟨rfl, e0, (by decide : 0 + 0 ≤ _), (by decide : 0 + 0 ≤ _)⟩)
  dsimp only [Pt.U, Pt.locs, Pt.cells, Pt.slots] at X1 l1 y1 z1 st1 hQ1
  subst y1 z1
  obtain ⟨rfl, N1q, eh1⟩ := hQ1
  have N1 : Fr n0 L1 := by rw [l1]; exact Fr.app N0 N1q
  clear l1
  obtain ⟨T2, h2, k2, X2, e2, E2, A2, st2⟩ := newP X1 hx hZ (hw _ (List.mem_of_getElem? (i := 51) rfl)) eh1 (g := (mkF m 4 #[.val (.ref a0), .val (.int p1), .val (.long q2), .second, .unset, .unset, .unset, .unset, .unset, .unset, .unset, .unset, .unset, .unset, .unset] [(.int nn)])) rfl (hb hby d9_4) rfl (own_nneg hn.1) (cap := 8) (by rw [own_tn]; omega) (by decide) (by decide) (by decide)
  obtain ⟨va, g2⟩ : ∃ z, z = h0.size := ⟨_, rfl⟩
  rw [← g2] at A2 st2
  have ne_a0_va : a0 ≠ va := Nat.ne_of_lt (Nat.lt_of_lt_of_le E_a0.lt (Nat.le_of_eq g2.symm))
  have ne_nr_va : nr ≠ va := Nat.ne_of_lt (Nat.lt_of_lt_of_le V_nr.lt (Nat.le_of_eq g2.symm))
  have g_va : n0 ≤ va := Nat.le_trans Z0 (Nat.le_of_eq g2.symm)
  have sz_va : h0.size ≤ va := Nat.le_trans K0.1 (Nat.le_of_eq g2.symm)
  have E_a0 : Exa Z h2 a0 "com/example/wadjet/wadjet/storage/IntegerChunk" := E_a0.ext E2
  have F_width_a0 : Fld Z h2 a0 "com/example/wadjet/wadjet/storage/IntegerChunk" "width" "I" (.int (2 : Int32)) := F_width_a0.ext E2
  have F_base_a0 : Fld Z h2 a0 "com/example/wadjet/wadjet/storage/IntegerChunk" "base" "J" (.long bb) := F_base_a0.ext E2
  have F_based_a0 : Fld Z h2 a0 "com/example/wadjet/wadjet/storage/IntegerChunk" "based" "Z" u_based := F_based_a0.ext E2
  have F_narrow_a0 : Fld Z h2 a0 "com/example/wadjet/wadjet/storage/IntegerChunk" "narrow" "[B" u_narrow := F_narrow_a0.ext E2
  have F_middle_a0 : Fld Z h2 a0 "com/example/wadjet/wadjet/storage/IntegerChunk" "middle" "[C" (.ref nr) := F_middle_a0.ext E2
  have F_wide_a0 : Fld Z h2 a0 "com/example/wadjet/wadjet/storage/IntegerChunk" "wide" "[I" u_wide := F_wide_a0.ext E2
  have F_nulls_a0 : Fld Z h2 a0 "com/example/wadjet/wadjet/storage/IntegerChunk" "nulls" "[J" .null := F_nulls_a0.ext E2
  have V_nr : Arv Z h2 nr kn .char nn (ys.map Value.int) (.int (0 : Int32)) := V_nr.ext E2
  have Zh2 : n0 ≤ h2.size := Nat.le_trans Z0 E2.1
  have Kh2 : Keep h0 h2 [a0] := K0.ext E2
  have V_va : Arv Z h2 va k2 .long nn [] (.long (0 : Int64)) := Arv.new A2 (own_nneg hn.1)
  have V_va : Arv Z h2 va k2 .long nn ((List.replicate nn.toNatClampNeg (0 : Int64)).map Value.long) (.long (0 : Int64)) := by rw [List.map_replicate]; exact V_va.pad (pad_rep [] (.long (0 : Int64)) nn.toNatClampNeg)
  obtain ⟨T3, h3, L3, X3, e3, N3, Kc3, E_a0, F_width_a0, F_base_a0, F_based_a0, F_narrow_a0, F_middle_a0, F_wide_a0, F_nulls_a0, V_nr, V_va, st3⟩ := lp2 a0 p1 q2 va u_based u_narrow u_wide .null bb nr kn nn ys k2 hx hZ hw hby hml hown g_va ne_a0_va ne_nr_va hn.2 nn.toNatClampNeg 0 q2 q2 (List.replicate nn.toNatClampNeg 0) X2 e2 N1 Zh2 E_a0 F_width_a0 F_base_a0 F_based_a0 F_narrow_a0 F_middle_a0 F_wide_a0 F_nulls_a0 V_nr V_va (by rw [own_tn]; omega) (by rw [List.length_replicate]) (by decide) (by decide)
  have Zh3 : n0 ≤ h3.size := Nat.le_trans Zh2 Kc3.1
  have Kh3 : Keep h0 h3 [a0] := Kh2.trans Kc3 (allS (Or.inr sz_va) all0)
  obtain ⟨ls, h_ls⟩ : ∃ z : Int64, z = own_rl (own_X (2 : Int32) bb ys p1 q2) nn.toNatClampNeg 0 q2 := ⟨_, rfl⟩
  obtain ⟨gr, h_gr⟩ : ∃ z : Int64, z = own_rg (own_X (2 : Int32) bb ys p1 q2) nn.toNatClampNeg 0 q2 := ⟨_, rfl⟩
  obtain ⟨zs, h_zs⟩ : ∃ z : List Int64, z = own_rz (own_X (2 : Int32) bb ys p1 q2) nn.toNatClampNeg 0 (List.replicate nn.toNatClampNeg 0) := ⟨_, rfl⟩
  rw [← h_ls, ← h_gr] at st3
  rw [← h_zs] at V_va
  obtain ⟨rg, h_rg⟩ : ∃ z : Int64, z = (gr - ls) := ⟨_, rfl⟩
  obtain ⟨T4, X4, e4, st4⟩ := getF X3 hx hZ hown (host := "") (Or.inl (hw _ (List.mem_of_getElem? (i := 30) rfl))) Via.refl e3 F_base_a0 (g := (mkF m 85 #[.val (.ref a0), .val (.int p1), .val (.long q2), .second, .val (.ref va), .val (.long ls), .second, .val (.long gr), .second, .val (.long rg), .second, .unset, .unset, .unset, .unset] [(.ref a0), (.long q2)])) rfl rfl (hb hby d9_85)
  obtain ⟨fa, h_fa⟩ : ∃ z : Int32, z = (if q2 < bb then (1 : Int32) else (0 : Int32)) := ⟨_, rfl⟩
  by_cases hc106 : rg < (256 : Int64)
  · obtain ⟨T5, h5, X5, e5, W5, st5⟩ := putF X4 hx hZ hown (host := "") (Or.inl (hw _ (List.mem_of_getElem? (i := 14) rfl))) Via.refl e4 F_width_a0 E_a0 (Or.inl (hw _ (List.mem_of_getElem? (i := 15) rfl))) (hw _ (List.mem_of_getElem? (i := 1) rfl)) (ty := .int) (by decide) rfl rfl (g := (mkF m 127 #[.val (.ref a0), .val (.int p1), .val (.long q2), .second, .val (.ref va), .val (.long ls), .second, .val (.long gr), .second, .val (.long rg), .second, .val (.int fa), .unset, .unset, .unset] [(.int (1 : Int32)), (.ref a0)])) rfl rfl (hb hby d9_127)
    have F_width_a0 : Fld Z h5 a0 "com/example/wadjet/wadjet/storage/IntegerChunk" "width" "I" (.int (1 : Int32)) := F_width_a0.same W5
    have E_a0 : Exa Z h5 a0 "com/example/wadjet/wadjet/storage/IntegerChunk" := E_a0.wr W5
    have F_base_a0 : Fld Z h5 a0 "com/example/wadjet/wadjet/storage/IntegerChunk" "base" "J" (.long bb) := F_base_a0.other W5 (Or.inr (slot_ne (Or.inl (hw _ (List.mem_of_getElem? (i := 31) rfl))) (Or.inl (hw _ (List.mem_of_getElem? (i := 15) rfl))) (by decide) (t := .long) (t' := .int) (by decide) (by decide)))
    have F_based_a0 : Fld Z h5 a0 "com/example/wadjet/wadjet/storage/IntegerChunk" "based" "Z" u_based := F_based_a0.other W5 (Or.inr (slot_ne (Or.inl (hw _ (List.mem_of_getElem? (i := 29) rfl))) (Or.inl (hw _ (List.mem_of_getElem? (i := 15) rfl))) (by decide) (t := .boolean) (t' := .int) (by decide) (by decide)))
    have F_narrow_a0 : Fld Z h5 a0 "com/example/wadjet/wadjet/storage/IntegerChunk" "narrow" "[B" u_narrow := F_narrow_a0.other W5 (Or.inr (slot_ne (Or.inl (hw _ (List.mem_of_getElem? (i := 18) rfl))) (Or.inl (hw _ (List.mem_of_getElem? (i := 15) rfl))) (by decide) (t := (.array .byte)) (t' := .int) (by decide) (by decide)))
    have F_middle_a0 : Fld Z h5 a0 "com/example/wadjet/wadjet/storage/IntegerChunk" "middle" "[C" (.ref nr) := F_middle_a0.other W5 (Or.inr (slot_ne (Or.inl (hw _ (List.mem_of_getElem? (i := 61) rfl))) (Or.inl (hw _ (List.mem_of_getElem? (i := 15) rfl))) (by decide) (t := (.array .char)) (t' := .int) (by decide) (by decide)))
    have F_wide_a0 : Fld Z h5 a0 "com/example/wadjet/wadjet/storage/IntegerChunk" "wide" "[I" u_wide := F_wide_a0.other W5 (Or.inr (slot_ne (Or.inl (hw _ (List.mem_of_getElem? (i := 63) rfl))) (Or.inl (hw _ (List.mem_of_getElem? (i := 15) rfl))) (by decide) (t := (.array .int)) (t' := .int) (by decide) (by decide)))
    have F_nulls_a0 : Fld Z h5 a0 "com/example/wadjet/wadjet/storage/IntegerChunk" "nulls" "[J" .null := F_nulls_a0.other W5 (Or.inr (slot_ne (Or.inl (hw _ (List.mem_of_getElem? (i := 37) rfl))) (Or.inl (hw _ (List.mem_of_getElem? (i := 15) rfl))) (by decide) (t := (.array .long)) (t' := .int) (by decide) (by decide)))
    have V_nr : Arv Z h5 nr kn .char nn (ys.map Value.int) (.int (0 : Int32)) := V_nr.other W5 ne_nr_a0
    have V_va : Arv Z h5 va k2 .long nn (zs.map Value.long) (.long (0 : Int64)) := V_va.other W5 (Ne.symm ne_a0_va)
    have Zh5 : n0 ≤ h5.size := Nat.le_trans Zh3 (Keep.of_wr W5).1
    have Kh5 : Keep h0 h5 [a0] := Kh3.wr W5 (Or.inl (by simp))
    have N5 := Fr.snoc X5 N3 g_a0
    obtain ⟨T6, X6, e6, st6⟩ := getF X5 hx hZ hown (host := "") (Or.inl (hw _ (List.mem_of_getElem? (i := 14) rfl))) Via.refl e5 F_width_a0 (g := (mkF m 134 #[.val (.ref a0), .val (.int p1), .val (.long q2), .second, .val (.ref va), .val (.long ls), .second, .val (.long gr), .second, .val (.long rg), .second, .val (.int fa), .unset, .unset, .unset] [(.ref a0), (.int (8 : Int32)), (.long (1 : Int64))])) rfl rfl (hb hby d9_134)
    obtain ⟨mo, h_mo⟩ : ∃ z : Int64, z = (((1 : Int64) <<< (((8 : Int32) * (1 : Int32)) &&& 0x3f).toInt64) - (1 : Int64)) := ⟨_, rfl⟩
    obtain ⟨T7, X7, e7, st7⟩ := getF X6 hx hZ hown (host := "") (Or.inl (hw _ (List.mem_of_getElem? (i := 14) rfl))) Via.refl e6 F_width_a0 (g := (mkF m 145 #[.val (.ref a0), .val (.int p1), .val (.long q2), .second, .val (.ref va), .val (.long ls), .second, .val (.long gr), .second, .val (.long rg), .second, .val (.int fa), .val (.long mo), .second, .unset] [(.ref a0), (.ref a0)])) rfl rfl (hb hby d9_145)
    obtain ⟨nb, h_nb⟩ : ∃ z : Int64, z = (if fa = (0 : Int32) then ls else (gr - mo)) := ⟨_, rfl⟩
    obtain ⟨T8, h8, X8, e8, W8, st8⟩ := putF X7 hx hZ hown (host := "") (Or.inl (hw _ (List.mem_of_getElem? (i := 30) rfl))) Via.refl e7 F_base_a0 E_a0 (Or.inl (hw _ (List.mem_of_getElem? (i := 31) rfl))) (hw _ (List.mem_of_getElem? (i := 1) rfl)) (ty := .long) (by decide) rfl rfl (g := (mkF m 171 #[.val (.ref a0), .val (.int p1), .val (.long q2), .second, .val (.ref va), .val (.long ls), .second, .val (.long gr), .second, .val (.long rg), .second, .val (.int fa), .val (.long mo), .second, .unset] [(.long nb), (.ref a0)])) rfl rfl (hb hby d9_171)
    have F_base_a0 : Fld Z h8 a0 "com/example/wadjet/wadjet/storage/IntegerChunk" "base" "J" (.long nb) := F_base_a0.same W8
    have E_a0 : Exa Z h8 a0 "com/example/wadjet/wadjet/storage/IntegerChunk" := E_a0.wr W8
    have F_width_a0 : Fld Z h8 a0 "com/example/wadjet/wadjet/storage/IntegerChunk" "width" "I" (.int (1 : Int32)) := F_width_a0.other W8 (Or.inr (slot_ne (Or.inl (hw _ (List.mem_of_getElem? (i := 15) rfl))) (Or.inl (hw _ (List.mem_of_getElem? (i := 31) rfl))) (by decide) (t := .int) (t' := .long) (by decide) (by decide)))
    have F_based_a0 : Fld Z h8 a0 "com/example/wadjet/wadjet/storage/IntegerChunk" "based" "Z" u_based := F_based_a0.other W8 (Or.inr (slot_ne (Or.inl (hw _ (List.mem_of_getElem? (i := 29) rfl))) (Or.inl (hw _ (List.mem_of_getElem? (i := 31) rfl))) (by decide) (t := .boolean) (t' := .long) (by decide) (by decide)))
    have F_narrow_a0 : Fld Z h8 a0 "com/example/wadjet/wadjet/storage/IntegerChunk" "narrow" "[B" u_narrow := F_narrow_a0.other W8 (Or.inr (slot_ne (Or.inl (hw _ (List.mem_of_getElem? (i := 18) rfl))) (Or.inl (hw _ (List.mem_of_getElem? (i := 31) rfl))) (by decide) (t := (.array .byte)) (t' := .long) (by decide) (by decide)))
    have F_middle_a0 : Fld Z h8 a0 "com/example/wadjet/wadjet/storage/IntegerChunk" "middle" "[C" (.ref nr) := F_middle_a0.other W8 (Or.inr (slot_ne (Or.inl (hw _ (List.mem_of_getElem? (i := 61) rfl))) (Or.inl (hw _ (List.mem_of_getElem? (i := 31) rfl))) (by decide) (t := (.array .char)) (t' := .long) (by decide) (by decide)))
    have F_wide_a0 : Fld Z h8 a0 "com/example/wadjet/wadjet/storage/IntegerChunk" "wide" "[I" u_wide := F_wide_a0.other W8 (Or.inr (slot_ne (Or.inl (hw _ (List.mem_of_getElem? (i := 63) rfl))) (Or.inl (hw _ (List.mem_of_getElem? (i := 31) rfl))) (by decide) (t := (.array .int)) (t' := .long) (by decide) (by decide)))
    have F_nulls_a0 : Fld Z h8 a0 "com/example/wadjet/wadjet/storage/IntegerChunk" "nulls" "[J" .null := F_nulls_a0.other W8 (Or.inr (slot_ne (Or.inl (hw _ (List.mem_of_getElem? (i := 37) rfl))) (Or.inl (hw _ (List.mem_of_getElem? (i := 31) rfl))) (by decide) (t := (.array .long)) (t' := .long) (by decide) (by decide)))
    have V_nr : Arv Z h8 nr kn .char nn (ys.map Value.int) (.int (0 : Int32)) := V_nr.other W8 ne_nr_a0
    have V_va : Arv Z h8 va k2 .long nn (zs.map Value.long) (.long (0 : Int64)) := V_va.other W8 (Ne.symm ne_a0_va)
    have Zh8 : n0 ≤ h8.size := Nat.le_trans Zh5 (Keep.of_wr W8).1
    have Kh8 : Keep h0 h8 [a0] := Kh5.wr W8 (Or.inl (by simp))
    have N8 := Fr.snoc X8 N5 g_a0
    obtain ⟨T9, X9, e9, st9⟩ := getF X8 hx hZ hown (host := "") (Or.inl (hw _ (List.mem_of_getElem? (i := 14) rfl))) Via.refl e8 F_width_a0 (g := (mkF m 176 #[.val (.ref a0), .val (.int p1), .val (.long q2), .second, .val (.ref va), .val (.long ls), .second, .val (.long gr), .second, .val (.long rg), .second, .val (.int fa), .val (.long mo), .second, .unset] [(.ref a0), (.ref a0)])) rfl rfl (hb hby d9_176)
    obtain ⟨cl10, Ar10, -, SS10, MM10, -, -⟩ := id V_va
    obtain ⟨T11, h11, k11, X11, e11, E11, A11, st11⟩ := newP X9 hx hZ (hw _ (List.mem_of_getElem? (i := 16) rfl)) e9 (g := (mkF m 186 #[.val (.ref a0), .val (.int p1), .val (.long q2), .second, .val (.ref va), .val (.long ls), .second, .val (.long gr), .second, .val (.long rg), .second, .val (.int fa), .val (.long mo), .second, .unset] [(.int nn), (.ref a0)])) rfl (hb hby d9_186) rfl (own_nneg hn.1) (cap := 8) (by rw [own_tn]; omega) (by decide) (by decide) (by decide)
    obtain ⟨ra, g11⟩ : ∃ z, z = h8.size := ⟨_, rfl⟩
    rw [← g11] at A11 st11
    have ne_a0_ra : a0 ≠ ra := Nat.ne_of_lt (Nat.lt_of_lt_of_le E_a0.lt (Nat.le_of_eq g11.symm))
    have ne_nr_ra : nr ≠ ra := Nat.ne_of_lt (Nat.lt_of_lt_of_le V_nr.lt (Nat.le_of_eq g11.symm))
    have ne_va_ra : va ≠ ra := Nat.ne_of_lt (Nat.lt_of_lt_of_le V_va.lt (Nat.le_of_eq g11.symm))
    have g_ra : n0 ≤ ra := Nat.le_trans Zh8 (Nat.le_of_eq g11.symm)
    have sz_ra : h0.size ≤ ra := Nat.le_trans Kh8.1 (Nat.le_of_eq g11.symm)
    have E_a0 : Exa Z h11 a0 "com/example/wadjet/wadjet/storage/IntegerChunk" := E_a0.ext E11
    have F_width_a0 : Fld Z h11 a0 "com/example/wadjet/wadjet/storage/IntegerChunk" "width" "I" (.int (1 : Int32)) := F_width_a0.ext E11
    have F_base_a0 : Fld Z h11 a0 "com/example/wadjet/wadjet/storage/IntegerChunk" "base" "J" (.long nb) := F_base_a0.ext E11
    have F_based_a0 : Fld Z h11 a0 "com/example/wadjet/wadjet/storage/IntegerChunk" "based" "Z" u_based := F_based_a0.ext E11
    have F_narrow_a0 : Fld Z h11 a0 "com/example/wadjet/wadjet/storage/IntegerChunk" "narrow" "[B" u_narrow := F_narrow_a0.ext E11
    have F_middle_a0 : Fld Z h11 a0 "com/example/wadjet/wadjet/storage/IntegerChunk" "middle" "[C" (.ref nr) := F_middle_a0.ext E11
    have F_wide_a0 : Fld Z h11 a0 "com/example/wadjet/wadjet/storage/IntegerChunk" "wide" "[I" u_wide := F_wide_a0.ext E11
    have F_nulls_a0 : Fld Z h11 a0 "com/example/wadjet/wadjet/storage/IntegerChunk" "nulls" "[J" .null := F_nulls_a0.ext E11
    have V_nr : Arv Z h11 nr kn .char nn (ys.map Value.int) (.int (0 : Int32)) := V_nr.ext E11
    have V_va : Arv Z h11 va k2 .long nn (zs.map Value.long) (.long (0 : Int64)) := V_va.ext E11
    have Zh11 : n0 ≤ h11.size := Nat.le_trans Zh8 E11.1
    have Kh11 : Keep h0 h11 [a0] := Kh8.ext E11
    have V_ra : Arv Z h11 ra k11 .byte nn [] (.int (0 : Int32)) := Arv.new A11 (own_nneg hn.1)
    have V_ra : Arv Z h11 ra k11 .byte nn ((List.replicate nn.toNatClampNeg (0 : Int32)).map Value.int) (.int (0 : Int32)) := by rw [List.map_replicate]; exact V_ra.pad (pad_rep [] (.int (0 : Int32)) nn.toNatClampNeg)
    obtain ⟨T12, h12, X12, e12, W12, st12⟩ := putF X11 hx hZ hown (host := "") (Or.inl (hw _ (List.mem_of_getElem? (i := 17) rfl))) Via.refl e11 F_narrow_a0 E_a0 (Or.inl (hw _ (List.mem_of_getElem? (i := 18) rfl))) (hw _ (List.mem_of_getElem? (i := 1) rfl)) (ty := (.array .byte)) (by decide) rfl rfl (g := (mkF m 192 #[.val (.ref a0), .val (.int p1), .val (.long q2), .second, .val (.ref va), .val (.long ls), .second, .val (.long gr), .second, .val (.long rg), .second, .val (.int fa), .val (.long mo), .second, .unset] [(.ref ra), (.ref a0)])) rfl rfl (hb hby d9_192)
    have F_narrow_a0 : Fld Z h12 a0 "com/example/wadjet/wadjet/storage/IntegerChunk" "narrow" "[B" (.ref ra) := F_narrow_a0.same W12
    have E_a0 : Exa Z h12 a0 "com/example/wadjet/wadjet/storage/IntegerChunk" := E_a0.wr W12
    have F_width_a0 : Fld Z h12 a0 "com/example/wadjet/wadjet/storage/IntegerChunk" "width" "I" (.int (1 : Int32)) := F_width_a0.other W12 (Or.inr (slot_ne (Or.inl (hw _ (List.mem_of_getElem? (i := 15) rfl))) (Or.inl (hw _ (List.mem_of_getElem? (i := 18) rfl))) (by decide) (t := .int) (t' := (.array .byte)) (by decide) (by decide)))
    have F_base_a0 : Fld Z h12 a0 "com/example/wadjet/wadjet/storage/IntegerChunk" "base" "J" (.long nb) := F_base_a0.other W12 (Or.inr (slot_ne (Or.inl (hw _ (List.mem_of_getElem? (i := 31) rfl))) (Or.inl (hw _ (List.mem_of_getElem? (i := 18) rfl))) (by decide) (t := .long) (t' := (.array .byte)) (by decide) (by decide)))
    have F_based_a0 : Fld Z h12 a0 "com/example/wadjet/wadjet/storage/IntegerChunk" "based" "Z" u_based := F_based_a0.other W12 (Or.inr (slot_ne (Or.inl (hw _ (List.mem_of_getElem? (i := 29) rfl))) (Or.inl (hw _ (List.mem_of_getElem? (i := 18) rfl))) (by decide) (t := .boolean) (t' := (.array .byte)) (by decide) (by decide)))
    have F_middle_a0 : Fld Z h12 a0 "com/example/wadjet/wadjet/storage/IntegerChunk" "middle" "[C" (.ref nr) := F_middle_a0.other W12 (Or.inr (slot_ne (Or.inl (hw _ (List.mem_of_getElem? (i := 61) rfl))) (Or.inl (hw _ (List.mem_of_getElem? (i := 18) rfl))) (by decide) (t := (.array .char)) (t' := (.array .byte)) (by decide) (by decide)))
    have F_wide_a0 : Fld Z h12 a0 "com/example/wadjet/wadjet/storage/IntegerChunk" "wide" "[I" u_wide := F_wide_a0.other W12 (Or.inr (slot_ne (Or.inl (hw _ (List.mem_of_getElem? (i := 63) rfl))) (Or.inl (hw _ (List.mem_of_getElem? (i := 18) rfl))) (by decide) (t := (.array .int)) (t' := (.array .byte)) (by decide) (by decide)))
    have F_nulls_a0 : Fld Z h12 a0 "com/example/wadjet/wadjet/storage/IntegerChunk" "nulls" "[J" .null := F_nulls_a0.other W12 (Or.inr (slot_ne (Or.inl (hw _ (List.mem_of_getElem? (i := 37) rfl))) (Or.inl (hw _ (List.mem_of_getElem? (i := 18) rfl))) (by decide) (t := (.array .long)) (t' := (.array .byte)) (by decide) (by decide)))
    have V_nr : Arv Z h12 nr kn .char nn (ys.map Value.int) (.int (0 : Int32)) := V_nr.other W12 ne_nr_a0
    have V_va : Arv Z h12 va k2 .long nn (zs.map Value.long) (.long (0 : Int64)) := V_va.other W12 (Ne.symm ne_a0_va)
    have V_ra : Arv Z h12 ra k11 .byte nn ((List.replicate nn.toNatClampNeg (0 : Int32)).map Value.int) (.int (0 : Int32)) := V_ra.other W12 (Ne.symm ne_a0_ra)
    have Zh12 : n0 ≤ h12.size := Nat.le_trans Zh11 (Keep.of_wr W12).1
    have Kh12 : Keep h0 h12 [a0] := Kh11.wr W12 (Or.inl (by simp))
    have N12 := Fr.snoc X12 N8 g_a0
    obtain ⟨T13, X13, e13, st13⟩ := getF X12 hx hZ hown (host := "") (Or.inl (hw _ (List.mem_of_getElem? (i := 14) rfl))) Via.refl e12 F_width_a0 (g := (mkF m 197 #[.val (.ref a0), .val (.int p1), .val (.long q2), .second, .val (.ref va), .val (.long ls), .second, .val (.long gr), .second, .val (.long rg), .second, .val (.int fa), .val (.long mo), .second, .unset] [(.ref a0), (.ref a0)])) rfl rfl (hb hby d9_197)
    obtain ⟨T14, h14, X14, e14, W14, st14⟩ := putF X13 hx hZ hown (host := "") (Or.inl (hw _ (List.mem_of_getElem? (i := 60) rfl))) Via.refl e13 F_middle_a0 E_a0 (Or.inl (hw _ (List.mem_of_getElem? (i := 61) rfl))) (hw _ (List.mem_of_getElem? (i := 1) rfl)) (ty := (.array .char)) (by decide) rfl rfl (g := (mkF m 213 #[.val (.ref a0), .val (.int p1), .val (.long q2), .second, .val (.ref va), .val (.long ls), .second, .val (.long gr), .second, .val (.long rg), .second, .val (.int fa), .val (.long mo), .second, .unset] [.null, (.ref a0)])) rfl rfl (hb hby d9_213)
    have F_middle_a0 : Fld Z h14 a0 "com/example/wadjet/wadjet/storage/IntegerChunk" "middle" "[C" .null := F_middle_a0.same W14
    have E_a0 : Exa Z h14 a0 "com/example/wadjet/wadjet/storage/IntegerChunk" := E_a0.wr W14
    have F_width_a0 : Fld Z h14 a0 "com/example/wadjet/wadjet/storage/IntegerChunk" "width" "I" (.int (1 : Int32)) := F_width_a0.other W14 (Or.inr (slot_ne (Or.inl (hw _ (List.mem_of_getElem? (i := 15) rfl))) (Or.inl (hw _ (List.mem_of_getElem? (i := 61) rfl))) (by decide) (t := .int) (t' := (.array .char)) (by decide) (by decide)))
    have F_base_a0 : Fld Z h14 a0 "com/example/wadjet/wadjet/storage/IntegerChunk" "base" "J" (.long nb) := F_base_a0.other W14 (Or.inr (slot_ne (Or.inl (hw _ (List.mem_of_getElem? (i := 31) rfl))) (Or.inl (hw _ (List.mem_of_getElem? (i := 61) rfl))) (by decide) (t := .long) (t' := (.array .char)) (by decide) (by decide)))
    have F_based_a0 : Fld Z h14 a0 "com/example/wadjet/wadjet/storage/IntegerChunk" "based" "Z" u_based := F_based_a0.other W14 (Or.inr (slot_ne (Or.inl (hw _ (List.mem_of_getElem? (i := 29) rfl))) (Or.inl (hw _ (List.mem_of_getElem? (i := 61) rfl))) (by decide) (t := .boolean) (t' := (.array .char)) (by decide) (by decide)))
    have F_narrow_a0 : Fld Z h14 a0 "com/example/wadjet/wadjet/storage/IntegerChunk" "narrow" "[B" (.ref ra) := F_narrow_a0.other W14 (Or.inr (slot_ne (Or.inl (hw _ (List.mem_of_getElem? (i := 18) rfl))) (Or.inl (hw _ (List.mem_of_getElem? (i := 61) rfl))) (by decide) (t := (.array .byte)) (t' := (.array .char)) (by decide) (by decide)))
    have F_wide_a0 : Fld Z h14 a0 "com/example/wadjet/wadjet/storage/IntegerChunk" "wide" "[I" u_wide := F_wide_a0.other W14 (Or.inr (slot_ne (Or.inl (hw _ (List.mem_of_getElem? (i := 63) rfl))) (Or.inl (hw _ (List.mem_of_getElem? (i := 61) rfl))) (by decide) (t := (.array .int)) (t' := (.array .char)) (by decide) (by decide)))
    have F_nulls_a0 : Fld Z h14 a0 "com/example/wadjet/wadjet/storage/IntegerChunk" "nulls" "[J" .null := F_nulls_a0.other W14 (Or.inr (slot_ne (Or.inl (hw _ (List.mem_of_getElem? (i := 37) rfl))) (Or.inl (hw _ (List.mem_of_getElem? (i := 61) rfl))) (by decide) (t := (.array .long)) (t' := (.array .char)) (by decide) (by decide)))
    have V_nr : Arv Z h14 nr kn .char nn (ys.map Value.int) (.int (0 : Int32)) := V_nr.other W14 ne_nr_a0
    have V_va : Arv Z h14 va k2 .long nn (zs.map Value.long) (.long (0 : Int64)) := V_va.other W14 (Ne.symm ne_a0_va)
    have V_ra : Arv Z h14 ra k11 .byte nn ((List.replicate nn.toNatClampNeg (0 : Int32)).map Value.int) (.int (0 : Int32)) := V_ra.other W14 (Ne.symm ne_a0_ra)
    have Zh14 : n0 ≤ h14.size := Nat.le_trans Zh12 (Keep.of_wr W14).1
    have Kh14 : Keep h0 h14 [a0] := Kh12.wr W14 (Or.inl (by simp))
    have N14 := Fr.snoc X14 N12 g_a0
    obtain ⟨T15, X15, e15, st15⟩ := getF X14 hx hZ hown (host := "") (Or.inl (hw _ (List.mem_of_getElem? (i := 14) rfl))) Via.refl e14 F_width_a0 (g := (mkF m 218 #[.val (.ref a0), .val (.int p1), .val (.long q2), .second, .val (.ref va), .val (.long ls), .second, .val (.long gr), .second, .val (.long rg), .second, .val (.int fa), .val (.long mo), .second, .unset] [(.ref a0), (.ref a0)])) rfl rfl (hb hby d9_218)
    obtain ⟨T16, h16, X16, e16, W16, st16⟩ := putF X15 hx hZ hown (host := "") (Or.inl (hw _ (List.mem_of_getElem? (i := 62) rfl))) Via.refl e15 F_wide_a0 E_a0 (Or.inl (hw _ (List.mem_of_getElem? (i := 63) rfl))) (hw _ (List.mem_of_getElem? (i := 1) rfl)) (ty := (.array .int)) (by decide) rfl rfl (g := (mkF m 234 #[.val (.ref a0), .val (.int p1), .val (.long q2), .second, .val (.ref va), .val (.long ls), .second, .val (.long gr), .second, .val (.long rg), .second, .val (.int fa), .val (.long mo), .second, .unset] [.null, (.ref a0)])) rfl rfl (hb hby d9_234)
    have F_wide_a0 : Fld Z h16 a0 "com/example/wadjet/wadjet/storage/IntegerChunk" "wide" "[I" .null := F_wide_a0.same W16
    have E_a0 : Exa Z h16 a0 "com/example/wadjet/wadjet/storage/IntegerChunk" := E_a0.wr W16
    have F_width_a0 : Fld Z h16 a0 "com/example/wadjet/wadjet/storage/IntegerChunk" "width" "I" (.int (1 : Int32)) := F_width_a0.other W16 (Or.inr (slot_ne (Or.inl (hw _ (List.mem_of_getElem? (i := 15) rfl))) (Or.inl (hw _ (List.mem_of_getElem? (i := 63) rfl))) (by decide) (t := .int) (t' := (.array .int)) (by decide) (by decide)))
    have F_base_a0 : Fld Z h16 a0 "com/example/wadjet/wadjet/storage/IntegerChunk" "base" "J" (.long nb) := F_base_a0.other W16 (Or.inr (slot_ne (Or.inl (hw _ (List.mem_of_getElem? (i := 31) rfl))) (Or.inl (hw _ (List.mem_of_getElem? (i := 63) rfl))) (by decide) (t := .long) (t' := (.array .int)) (by decide) (by decide)))
    have F_based_a0 : Fld Z h16 a0 "com/example/wadjet/wadjet/storage/IntegerChunk" "based" "Z" u_based := F_based_a0.other W16 (Or.inr (slot_ne (Or.inl (hw _ (List.mem_of_getElem? (i := 29) rfl))) (Or.inl (hw _ (List.mem_of_getElem? (i := 63) rfl))) (by decide) (t := .boolean) (t' := (.array .int)) (by decide) (by decide)))
    have F_narrow_a0 : Fld Z h16 a0 "com/example/wadjet/wadjet/storage/IntegerChunk" "narrow" "[B" (.ref ra) := F_narrow_a0.other W16 (Or.inr (slot_ne (Or.inl (hw _ (List.mem_of_getElem? (i := 18) rfl))) (Or.inl (hw _ (List.mem_of_getElem? (i := 63) rfl))) (by decide) (t := (.array .byte)) (t' := (.array .int)) (by decide) (by decide)))
    have F_middle_a0 : Fld Z h16 a0 "com/example/wadjet/wadjet/storage/IntegerChunk" "middle" "[C" .null := F_middle_a0.other W16 (Or.inr (slot_ne (Or.inl (hw _ (List.mem_of_getElem? (i := 61) rfl))) (Or.inl (hw _ (List.mem_of_getElem? (i := 63) rfl))) (by decide) (t := (.array .char)) (t' := (.array .int)) (by decide) (by decide)))
    have F_nulls_a0 : Fld Z h16 a0 "com/example/wadjet/wadjet/storage/IntegerChunk" "nulls" "[J" .null := F_nulls_a0.other W16 (Or.inr (slot_ne (Or.inl (hw _ (List.mem_of_getElem? (i := 37) rfl))) (Or.inl (hw _ (List.mem_of_getElem? (i := 63) rfl))) (by decide) (t := (.array .long)) (t' := (.array .int)) (by decide) (by decide)))
    have V_nr : Arv Z h16 nr kn .char nn (ys.map Value.int) (.int (0 : Int32)) := V_nr.other W16 ne_nr_a0
    have V_va : Arv Z h16 va k2 .long nn (zs.map Value.long) (.long (0 : Int64)) := V_va.other W16 (Ne.symm ne_a0_va)
    have V_ra : Arv Z h16 ra k11 .byte nn ((List.replicate nn.toNatClampNeg (0 : Int32)).map Value.int) (.int (0 : Int32)) := V_ra.other W16 (Ne.symm ne_a0_ra)
    have Zh16 : n0 ≤ h16.size := Nat.le_trans Zh14 (Keep.of_wr W16).1
    have Kh16 : Keep h0 h16 [a0] := Kh14.wr W16 (Or.inl (by simp))
    have N16 := Fr.snoc X16 N14 g_a0
    obtain ⟨T17, h17, L17, X17, e17, N17, Kc17, E_a0, F_width_a0, F_base_a0, F_based_a0, F_narrow_a0, F_middle_a0, F_wide_a0, F_nulls_a0, V_ra, V_va, st17⟩ := lq1 a0 p1 q2 va ls gr rg mo fa u_based .null .null .null nb ra k11 nn k2 zs hx hZ hw hby hml hown g_ra ne_a0_ra ne_va_ra hn.2 nn.toNatClampNeg 0 (List.replicate nn.toNatClampNeg 0) X16 e16 N16 Zh16 E_a0 F_width_a0 F_base_a0 F_based_a0 F_narrow_a0 F_middle_a0 F_wide_a0 F_nulls_a0 V_ra V_va (by rw [own_tn]; omega) (by rw [List.length_replicate])
    have Zh17 : n0 ≤ h17.size := Nat.le_trans Zh16 Kc17.1
    have Kh17 : Keep h0 h17 [a0] := Kh16.trans Kc17 (allS (Or.inr sz_ra) all0)
    obtain ⟨fs, hr, hrun, hended, hW, hsame⟩ := X17.leave (v := none) (fun _ => rfl)
    refine ⟨_, _, pre0 _ ?_, hrun, hended, _, _, rfl, ?_, ⟨_, rfl⟩, hW, hsame.mono (by decide) (by decide)⟩
    · show Steps p.tables e below (s₁.setTop (mkF m 0 #[.val (.ref a0), .val (.int p1), .val (.long q2), .second, .unset, .unset, .unset, .unset, .unset, .unset, .unset, .unset, .unset, .unset, .unset] [])) _
      refine XS.aloadN X0.here hx rfl (hb hby d9_0) rfl rfl ?_
      refine st1.trans ?_
      show Steps p.tables e below (T1.setTop (mkF m 4 #[.val (.ref a0), .val (.int p1), .val (.long q2), .second, .unset, .unset, .unset, .unset, .unset, .unset, .unset, .unset, .unset, .unset, .unset] [(.int nn)])) _
      refine st2 _ ?_
      show Steps p.tables e below (T2.setTop (mkF m 6 #[.val (.ref a0), .val (.int p1), .val (.long q2), .second, .unset, .unset, .unset, .unset, .unset, .unset, .unset, .unset, .unset, .unset, .unset] [(.ref va)])) _
      refine XS.astore X2.here hx rfl (hb hby d9_6) rfl rfl (l' := #[.val (.ref a0), .val (.int p1), .val (.long q2), .second, .val (.ref va), .unset, .unset, .unset, .unset, .unset, .unset, .unset, .unset, .unset, .unset]) rfl ?_
      refine XS.lloadN X2.here hx rfl (hb hby d9_8) rfl ?_
      refine XS.lstore X2.here hx rfl (hb hby d9_9) rfl (l' := #[.val (.ref a0), .val (.int p1), .val (.long q2), .second, .val (.ref va), .val (.long q2), .second, .unset, .unset, .unset, .unset, .unset, .unset, .unset, .unset]) rfl ?_
      refine XS.lloadN X2.here hx rfl (hb hby d9_11) rfl ?_
      show Steps p.tables e below (T2.setTop (mkF m 12 #[.val (.ref a0), .val (.int p1), .val (.long q2), .second, .val (.ref va), .val (.long q2), .second, .unset, .unset, .unset, .unset, .unset, .unset, .unset, .unset] [(.long q2)])) _
      refine XS.lstore X2.here hx rfl (hb hby d9_12) rfl (l' := #[.val (.ref a0), .val (.int p1), .val (.long q2), .second, .val (.ref va), .val (.long q2), .second, .val (.long q2), .second, .unset, .unset, .unset, .unset, .unset, .unset]) rfl ?_
      refine XS.iconst X2.here hx rfl (hb hby d9_14) ?_
      refine XS.istore X2.here hx rfl (hb hby d9_15) rfl (l' := #[.val (.ref a0), .val (.int p1), .val (.long q2), .second, .val (.ref va), .val (.long q2), .second, .val (.long q2), .second, .val (.int (0 : Int32)), .unset, .unset, .unset, .unset, .unset]) rfl ?_
      refine st3 _ ?_
      show Steps p.tables e below (T3.setTop (mkF m 76 #[.val (.ref a0), .val (.int p1), .val (.long q2), .second, .val (.ref va), .val (.long ls), .second, .val (.long gr), .second, .val (.int (Int32.ofNat (0 + nn.toNatClampNeg))), .unset, .unset, .unset, .unset, .unset] [])) _
      refine XS.lload X3.here hx rfl (hb hby d9_76) rfl ?_
      refine XS.lload X3.here hx rfl (hb hby d9_78) rfl ?_
      refine XS.lsub X3.here hx rfl (hb hby d9_80) rfl ?_
      show Steps p.tables e below (T3.setTop (mkF m 81 #[.val (.ref a0), .val (.int p1), .val (.long q2), .second, .val (.ref va), .val (.long ls), .second, .val (.long gr), .second, .val (.int (Int32.ofNat (0 + nn.toNatClampNeg))), .unset, .unset, .unset, .unset, .unset] [(.long (gr - ls))])) _
      rw [← h_rg]
      show Steps p.tables e below (T3.setTop (mkF m 81 #[.val (.ref a0), .val (.int p1), .val (.long q2), .second, .val (.ref va), .val (.long ls), .second, .val (.long gr), .second, .val (.int (Int32.ofNat (0 + nn.toNatClampNeg))), .unset, .unset, .unset, .unset, .unset] [(.long rg)])) _
      refine XS.lstore X3.here hx rfl (hb hby d9_81) rfl (l' := #[.val (.ref a0), .val (.int p1), .val (.long q2), .second, .val (.ref va), .val (.long ls), .second, .val (.long gr), .second, .val (.long rg), .second, .unset, .unset, .unset, .unset]) rfl ?_
      refine XS.lloadN X3.here hx rfl (hb hby d9_83) rfl ?_
      refine XS.aloadN X3.here hx rfl (hb hby d9_84) rfl rfl ?_
      refine st4 _ ?_
      show Steps p.tables e below (T4.setTop (mkF m 88 #[.val (.ref a0), .val (.int p1), .val (.long q2), .second, .val (.ref va), .val (.long ls), .second, .val (.long gr), .second, .val (.long rg), .second, .unset, .unset, .unset, .unset] [(.long bb), (.long q2)])) _
      refine XS.lcmp X4.here hx rfl (hb hby d9_88) rfl ?_
      refine own_via (T4.setTop (mkF m 97 #[.val (.ref a0), .val (.int p1), .val (.long q2), .second, .val (.ref va), .val (.long ls), .second, .val (.long gr), .second, .val (.long rg), .second, .unset, .unset, .unset, .unset] [(.int (if q2 < bb then (1 : Int32) else (0 : Int32)))])) (fun k => ?_) ?_
      · by_cases hc89 : q2 < bb
        · show Steps p.tables e below (T4.setTop (mkF m 89 #[.val (.ref a0), .val (.int p1), .val (.long q2), .second, .val (.ref va), .val (.long ls), .second, .val (.long gr), .second, .val (.long rg), .second, .unset, .unset, .unset, .unset] [(.int (lcmpW q2 bb))])) _
          refine XS.ifNo X4.here hx rfl (hb hby d9_89) rfl ((if0 _ _).trans (tlt ((lw_lt _ _).mpr hc89)).2.1) ?_
          refine XS.iconst X4.here hx rfl (hb hby d9_92) ?_
          refine XS.goto X4.here hx rfl (pc0 := 93) (pc' := 97) rfl (hb hby d9_93) (by decide) (by decide) ?_
          try simp only [if_pos hc89] at k
          exact k
        · show Steps p.tables e below (T4.setTop (mkF m 89 #[.val (.ref a0), .val (.int p1), .val (.long q2), .second, .val (.ref va), .val (.long ls), .second, .val (.long gr), .second, .val (.long rg), .second, .unset, .unset, .unset, .unset] [(.int (lcmpW q2 bb))])) _
          refine XS.ifYes X4.here hx rfl (pc0 := 89) (pc' := 96) rfl (hb hby d9_89) rfl ((if0 _ _).trans (flt (mt (lw_lt _ _).mp hc89)).2.1) (by decide) (by decide) ?_
          show Steps p.tables e below (T4.setTop (mkF m 96 #[.val (.ref a0), .val (.int p1), .val (.long q2), .second, .val (.ref va), .val (.long ls), .second, .val (.long gr), .second, .val (.long rg), .second, .unset, .unset, .unset, .unset] [])) _
          refine XS.iconst X4.here hx rfl (hb hby d9_96) ?_
          try simp only [if_neg hc89] at k
          exact k
      show Steps p.tables e below (T4.setTop (mkF m 97 #[.val (.ref a0), .val (.int p1), .val (.long q2), .second, .val (.ref va), .val (.long ls), .second, .val (.long gr), .second, .val (.long rg), .second, .unset, .unset, .unset, .unset] [(.int (if q2 < bb then (1 : Int32) else (0 : Int32)))])) _
      rw [← h_fa]
      show Steps p.tables e below (T4.setTop (mkF m 97 #[.val (.ref a0), .val (.int p1), .val (.long q2), .second, .val (.ref va), .val (.long ls), .second, .val (.long gr), .second, .val (.long rg), .second, .unset, .unset, .unset, .unset] [(.int fa)])) _
      refine XS.istore X4.here hx rfl (hb hby d9_97) rfl (l' := #[.val (.ref a0), .val (.int p1), .val (.long q2), .second, .val (.ref va), .val (.long ls), .second, .val (.long gr), .second, .val (.long rg), .second, .val (.int fa), .unset, .unset, .unset]) rfl ?_
      refine XS.aloadN X4.here hx rfl (hb hby d9_99) rfl rfl ?_
      show Steps p.tables e below (T4.setTop (mkF m 100 #[.val (.ref a0), .val (.int p1), .val (.long q2), .second, .val (.ref va), .val (.long ls), .second, .val (.long gr), .second, .val (.long rg), .second, .val (.int fa), .unset, .unset, .unset] [(.ref a0)])) _
      refine XS.lload X4.here hx rfl (hb hby d9_100) rfl ?_
      refine X4.ldc2Long hx hown (mvT hZ (hw _ (List.mem_of_getElem? (i := 59) rfl))) (g := (mkF m 102 #[.val (.ref a0), .val (.int p1), .val (.long q2), .second, .val (.ref va), .val (.long ls), .second, .val (.long gr), .second, .val (.long rg), .second, .val (.int fa), .unset, .unset, .unset] [(.long rg), (.ref a0)])) rfl (hb hby d9_102) _ ?_
      show Steps p.tables e below (T4.setTop (mkF m 105 #[.val (.ref a0), .val (.int p1), .val (.long q2), .second, .val (.ref va), .val (.long ls), .second, .val (.long gr), .second, .val (.long rg), .second, .val (.int fa), .unset, .unset, .unset] [(.long (256 : Int64)), (.long rg), (.ref a0)])) _
      refine XS.lcmp X4.here hx rfl (hb hby d9_105) rfl ?_
      refine XS.ifNo X4.here hx rfl (hb hby d9_106) rfl ((if0 _ _).trans (tlt ((lw_lt _ _).mpr hc106)).2.1) ?_
      show Steps p.tables e below (T4.setTop (mkF m 109 #[.val (.ref a0), .val (.int p1), .val (.long q2), .second, .val (.ref va), .val (.long ls), .second, .val (.long gr), .second, .val (.long rg), .second, .val (.int fa), .unset, .unset, .unset] [(.ref a0)])) _
      refine XS.iconst X4.here hx rfl (hb hby d9_109) ?_
      refine XS.goto X4.here hx rfl (pc0 := 110) (pc' := 127) rfl (hb hby d9_110) (by decide) (by decide) ?_
      show Steps p.tables e below (T4.setTop (mkF m 127 #[.val (.ref a0), .val (.int p1), .val (.long q2), .second, .val (.ref va), .val (.long ls), .second, .val (.long gr), .second, .val (.long rg), .second, .val (.int fa), .unset, .unset, .unset] [(.int (1 : Int32)), (.ref a0)])) _
      refine st5 _ ?_
      show Steps p.tables e below (T5.setTop (mkF m 130 #[.val (.ref a0), .val (.int p1), .val (.long q2), .second, .val (.ref va), .val (.long ls), .second, .val (.long gr), .second, .val (.long rg), .second, .val (.int fa), .unset, .unset, .unset] [])) _
      refine XS.lconst X5.here hx rfl (hb hby d9_130) ?_
      show Steps p.tables e below (T5.setTop (mkF m 131 #[.val (.ref a0), .val (.int p1), .val (.long q2), .second, .val (.ref va), .val (.long ls), .second, .val (.long gr), .second, .val (.long rg), .second, .val (.int fa), .unset, .unset, .unset] [(.long (1 : Int64))])) _
      refine XS.bipush X5.here hx rfl (hb hby d9_131) ?_
      refine XS.aloadN X5.here hx rfl (hb hby d9_133) rfl rfl ?_
      refine st6 _ ?_
      show Steps p.tables e below (T6.setTop (mkF m 137 #[.val (.ref a0), .val (.int p1), .val (.long q2), .second, .val (.ref va), .val (.long ls), .second, .val (.long gr), .second, .val (.long rg), .second, .val (.int fa), .unset, .unset, .unset] [(.int (1 : Int32)), (.int (8 : Int32)), (.long (1 : Int64))])) _
      refine XS.imul X6.here hx rfl (hb hby d9_137) rfl ?_
      show Steps p.tables e below (T6.setTop (mkF m 138 #[.val (.ref a0), .val (.int p1), .val (.long q2), .second, .val (.ref va), .val (.long ls), .second, .val (.long gr), .second, .val (.long rg), .second, .val (.int fa), .unset, .unset, .unset] [(.int ((8 : Int32) * (1 : Int32))), (.long (1 : Int64))])) _
      refine XS.lshl X6.here hx rfl (hb hby d9_138) rfl ?_
      refine XS.lconst X6.here hx rfl (hb hby d9_139) ?_
      refine XS.lsub X6.here hx rfl (hb hby d9_140) rfl ?_
      show Steps p.tables e below (T6.setTop (mkF m 141 #[.val (.ref a0), .val (.int p1), .val (.long q2), .second, .val (.ref va), .val (.long ls), .second, .val (.long gr), .second, .val (.long rg), .second, .val (.int fa), .unset, .unset, .unset] [(.long (((1 : Int64) <<< (((8 : Int32) * (1 : Int32)) &&& 0x3f).toInt64) - (1 : Int64)))])) _
      rw [← h_mo]
      show Steps p.tables e below (T6.setTop (mkF m 141 #[.val (.ref a0), .val (.int p1), .val (.long q2), .second, .val (.ref va), .val (.long ls), .second, .val (.long gr), .second, .val (.long rg), .second, .val (.int fa), .unset, .unset, .unset] [(.long mo)])) _
      refine XS.lstore X6.here hx rfl (hb hby d9_141) rfl (l' := #[.val (.ref a0), .val (.int p1), .val (.long q2), .second, .val (.ref va), .val (.long ls), .second, .val (.long gr), .second, .val (.long rg), .second, .val (.int fa), .val (.long mo), .second, .unset]) rfl ?_
      refine XS.aloadN X6.here hx rfl (hb hby d9_143) rfl rfl ?_
      refine XS.aloadN X6.here hx rfl (hb hby d9_144) rfl rfl ?_
      refine st7 _ ?_
      show Steps p.tables e below (T7.setTop (mkF m 148 #[.val (.ref a0), .val (.int p1), .val (.long q2), .second, .val (.ref va), .val (.long ls), .second, .val (.long gr), .second, .val (.long rg), .second, .val (.int fa), .val (.long mo), .second, .unset] [(.int (1 : Int32)), (.ref a0)])) _
      refine XS.iconst X7.here hx rfl (hb hby d9_148) ?_
      refine XS.icmpYes X7.here hx rfl (pc0 := 149) (pc' := 156) rfl (hb hby d9_149) rfl (feq (by decide : ¬ ((1 : Int32) = (4 : Int32)))).2 (by decide) (by decide) ?_
      show Steps p.tables e below (T7.setTop (mkF m 156 #[.val (.ref a0), .val (.int p1), .val (.long q2), .second, .val (.ref va), .val (.long ls), .second, .val (.long gr), .second, .val (.long rg), .second, .val (.int fa), .val (.long mo), .second, .unset] [(.ref a0)])) _
      refine XS.iload X7.here hx rfl (hb hby d9_156) rfl ?_
      refine own_via (T7.setTop (mkF m 171 #[.val (.ref a0), .val (.int p1), .val (.long q2), .second, .val (.ref va), .val (.long ls), .second, .val (.long gr), .second, .val (.long rg), .second, .val (.int fa), .val (.long mo), .second, .unset] [(.long (if fa = (0 : Int32) then ls else (gr - mo))), (.ref a0)])) (fun k => ?_) ?_
      · by_cases hc158 : fa = (0 : Int32)
        · show Steps p.tables e below (T7.setTop (mkF m 158 #[.val (.ref a0), .val (.int p1), .val (.long q2), .second, .val (.ref va), .val (.long ls), .second, .val (.long gr), .second, .val (.long rg), .second, .val (.int fa), .val (.long mo), .second, .unset] [(.int fa), (.ref a0)])) _
          refine XS.ifYes X7.here hx rfl (pc0 := 158) (pc' := 169) rfl (hb hby d9_158) rfl ((if0 _ _).trans (teq hc158).1) (by decide) (by decide) ?_
          show Steps p.tables e below (T7.setTop (mkF m 169 #[.val (.ref a0), .val (.int p1), .val (.long q2), .second, .val (.ref va), .val (.long ls), .second, .val (.long gr), .second, .val (.long rg), .second, .val (.int fa), .val (.long mo), .second, .unset] [(.ref a0)])) _
          refine XS.lload X7.here hx rfl (hb hby d9_169) rfl ?_
          try simp only [if_pos hc158] at k
          exact k
        · show Steps p.tables e below (T7.setTop (mkF m 158 #[.val (.ref a0), .val (.int p1), .val (.long q2), .second, .val (.ref va), .val (.long ls), .second, .val (.long gr), .second, .val (.long rg), .second, .val (.int fa), .val (.long mo), .second, .unset] [(.int fa), (.ref a0)])) _
          refine XS.ifNo X7.here hx rfl (hb hby d9_158) rfl ((if0 _ _).trans (feq hc158).1) ?_
          show Steps p.tables e below (T7.setTop (mkF m 161 #[.val (.ref a0), .val (.int p1), .val (.long q2), .second, .val (.ref va), .val (.long ls), .second, .val (.long gr), .second, .val (.long rg), .second, .val (.int fa), .val (.long mo), .second, .unset] [(.ref a0)])) _
          refine XS.lload X7.here hx rfl (hb hby d9_161) rfl ?_
          refine XS.lload X7.here hx rfl (hb hby d9_163) rfl ?_
          refine XS.lsub X7.here hx rfl (hb hby d9_165) rfl ?_
          refine XS.goto X7.here hx rfl (pc0 := 166) (pc' := 171) rfl (hb hby d9_166) (by decide) (by decide) ?_
          try simp only [if_neg hc158] at k
          exact k
      show Steps p.tables e below (T7.setTop (mkF m 171 #[.val (.ref a0), .val (.int p1), .val (.long q2), .second, .val (.ref va), .val (.long ls), .second, .val (.long gr), .second, .val (.long rg), .second, .val (.int fa), .val (.long mo), .second, .unset] [(.long (if fa = (0 : Int32) then ls else (gr - mo))), (.ref a0)])) _
      rw [← h_nb]
      show Steps p.tables e below (T7.setTop (mkF m 171 #[.val (.ref a0), .val (.int p1), .val (.long q2), .second, .val (.ref va), .val (.long ls), .second, .val (.long gr), .second, .val (.long rg), .second, .val (.int fa), .val (.long mo), .second, .unset] [(.long nb), (.ref a0)])) _
      refine st8 _ ?_
      show Steps p.tables e below (T8.setTop (mkF m 174 #[.val (.ref a0), .val (.int p1), .val (.long q2), .second, .val (.ref va), .val (.long ls), .second, .val (.long gr), .second, .val (.long rg), .second, .val (.int fa), .val (.long mo), .second, .unset] [])) _
      refine XS.aloadN X8.here hx rfl (hb hby d9_174) rfl rfl ?_
      refine XS.aloadN X8.here hx rfl (hb hby d9_175) rfl rfl ?_
      refine st9 _ ?_
      show Steps p.tables e below (T9.setTop (mkF m 179 #[.val (.ref a0), .val (.int p1), .val (.long q2), .second, .val (.ref va), .val (.long ls), .second, .val (.long gr), .second, .val (.long rg), .second, .val (.int fa), .val (.long mo), .second, .unset] [(.int (1 : Int32)), (.ref a0)])) _
      refine XS.iconst X9.here hx rfl (hb hby d9_179) ?_
      refine XS.icmpNo X9.here hx rfl (hb hby d9_180) rfl (teq (by decide : (1 : Int32) = (1 : Int32))).2 ?_
      refine XS.aload X9.here hx rfl (hb hby d9_183) rfl rfl ?_
      refine X9.arraylength hx (by rw [e9]; exact Ar10.1) (State.isArrayOf_alike hZ.alike Ar10.2.1) (g := (mkF m 185 #[.val (.ref a0), .val (.int p1), .val (.long q2), .second, .val (.ref va), .val (.long ls), .second, .val (.long gr), .second, .val (.long rg), .second, .val (.int fa), .val (.long mo), .second, .unset] [(.ref va), (.ref a0)])) rfl rfl (hb hby d9_185) _ ?_
      rw [len_of SS10 MM10]
      show Steps p.tables e below (T9.setTop (mkF m 186 #[.val (.ref a0), .val (.int p1), .val (.long q2), .second, .val (.ref va), .val (.long ls), .second, .val (.long gr), .second, .val (.long rg), .second, .val (.int fa), .val (.long mo), .second, .unset] [(.int nn), (.ref a0)])) _
      refine st11 _ ?_
      show Steps p.tables e below (T11.setTop (mkF m 188 #[.val (.ref a0), .val (.int p1), .val (.long q2), .second, .val (.ref va), .val (.long ls), .second, .val (.long gr), .second, .val (.long rg), .second, .val (.int fa), .val (.long mo), .second, .unset] [(.ref ra), (.ref a0)])) _
      refine XS.goto X11.here hx rfl (pc0 := 188) (pc' := 192) rfl (hb hby d9_188) (by decide) (by decide) ?_
      show Steps p.tables e below (T11.setTop (mkF m 192 #[.val (.ref a0), .val (.int p1), .val (.long q2), .second, .val (.ref va), .val (.long ls), .second, .val (.long gr), .second, .val (.long rg), .second, .val (.int fa), .val (.long mo), .second, .unset] [(.ref ra), (.ref a0)])) _
      refine st12 _ ?_
      show Steps p.tables e below (T12.setTop (mkF m 195 #[.val (.ref a0), .val (.int p1), .val (.long q2), .second, .val (.ref va), .val (.long ls), .second, .val (.long gr), .second, .val (.long rg), .second, .val (.int fa), .val (.long mo), .second, .unset] [])) _
      refine XS.aloadN X12.here hx rfl (hb hby d9_195) rfl rfl ?_
      show Steps p.tables e below (T12.setTop (mkF m 196 #[.val (.ref a0), .val (.int p1), .val (.long q2), .second, .val (.ref va), .val (.long ls), .second, .val (.long gr), .second, .val (.long rg), .second, .val (.int fa), .val (.long mo), .second, .unset] [(.ref a0)])) _
      refine XS.aloadN X12.here hx rfl (hb hby d9_196) rfl rfl ?_
      refine st13 _ ?_
      show Steps p.tables e below (T13.setTop (mkF m 200 #[.val (.ref a0), .val (.int p1), .val (.long q2), .second, .val (.ref va), .val (.long ls), .second, .val (.long gr), .second, .val (.long rg), .second, .val (.int fa), .val (.long mo), .second, .unset] [(.int (1 : Int32)), (.ref a0)])) _
      refine XS.iconst X13.here hx rfl (hb hby d9_200) ?_
      refine XS.icmpYes X13.here hx rfl (pc0 := 201) (pc' := 212) rfl (hb hby d9_201) rfl (feq (by decide : ¬ ((1 : Int32) = (2 : Int32)))).2 (by decide) (by decide) ?_
      show Steps p.tables e below (T13.setTop (mkF m 212 #[.val (.ref a0), .val (.int p1), .val (.long q2), .second, .val (.ref va), .val (.long ls), .second, .val (.long gr), .second, .val (.long rg), .second, .val (.int fa), .val (.long mo), .second, .unset] [(.ref a0)])) _
      refine XS.aconstNull X13.here hx rfl (hb hby d9_212) ?_
      refine st14 _ ?_
      show Steps p.tables e below (T14.setTop (mkF m 216 #[.val (.ref a0), .val (.int p1), .val (.long q2), .second, .val (.ref va), .val (.long ls), .second, .val (.long gr), .second, .val (.long rg), .second, .val (.int fa), .val (.long mo), .second, .unset] [])) _
      refine XS.aloadN X14.here hx rfl (hb hby d9_216) rfl rfl ?_
      refine XS.aloadN X14.here hx rfl (hb hby d9_217) rfl rfl ?_
      show Steps p.tables e below (T14.setTop (mkF m 218 #[.val (.ref a0), .val (.int p1), .val (.long q2), .second, .val (.ref va), .val (.long ls), .second, .val (.long gr), .second, .val (.long rg), .second, .val (.int fa), .val (.long mo), .second, .unset] [(.ref a0), (.ref a0)])) _
      refine st15 _ ?_
      show Steps p.tables e below (T15.setTop (mkF m 221 #[.val (.ref a0), .val (.int p1), .val (.long q2), .second, .val (.ref va), .val (.long ls), .second, .val (.long gr), .second, .val (.long rg), .second, .val (.int fa), .val (.long mo), .second, .unset] [(.int (1 : Int32)), (.ref a0)])) _
      refine XS.iconst X15.here hx rfl (hb hby d9_221) ?_
      refine XS.icmpYes X15.here hx rfl (pc0 := 222) (pc' := 233) rfl (hb hby d9_222) rfl (feq (by decide : ¬ ((1 : Int32) = (4 : Int32)))).2 (by decide) (by decide) ?_
      show Steps p.tables e below (T15.setTop (mkF m 233 #[.val (.ref a0), .val (.int p1), .val (.long q2), .second, .val (.ref va), .val (.long ls), .second, .val (.long gr), .second, .val (.long rg), .second, .val (.int fa), .val (.long mo), .second, .unset] [(.ref a0)])) _
      refine XS.aconstNull X15.here hx rfl (hb hby d9_233) ?_
      show Steps p.tables e below (T15.setTop (mkF m 234 #[.val (.ref a0), .val (.int p1), .val (.long q2), .second, .val (.ref va), .val (.long ls), .second, .val (.long gr), .second, .val (.long rg), .second, .val (.int fa), .val (.long mo), .second, .unset] [.null, (.ref a0)])) _
      refine st16 _ ?_
      show Steps p.tables e below (T16.setTop (mkF m 237 #[.val (.ref a0), .val (.int p1), .val (.long q2), .second, .val (.ref va), .val (.long ls), .second, .val (.long gr), .second, .val (.long rg), .second, .val (.int fa), .val (.long mo), .second, .unset] [])) _
      refine XS.iconst X16.here hx rfl (hb hby d9_237) ?_
      refine XS.istore X16.here hx rfl (hb hby d9_238) rfl (l' := #[.val (.ref a0), .val (.int p1), .val (.long q2), .second, .val (.ref va), .val (.long ls), .second, .val (.long gr), .second, .val (.long rg), .second, .val (.int fa), .val (.long mo), .second, .val (.int (0 : Int32))]) rfl ?_
      refine st17 _ ?_
      show Steps p.tables e below (T17.setTop (mkF m 327 #[.val (.ref a0), .val (.int p1), .val (.long q2), .second, .val (.ref va), .val (.long ls), .second, .val (.long gr), .second, .val (.long rg), .second, .val (.int fa), .val (.long mo), .second, .val (.int (Int32.ofNat (0 + nn.toNatClampNeg)))] [])) _
      exact X17.returnOut hx Bd.returns (hb hby d9_327) hr
    · show Qwd Z a0 p1 q2 (2 : Int32) bb u_based nn ys h0 n0 _ T17.heap _
      rw [e17]
      exact ⟨rfl, N17, Kh17.1, _, _, _, ⟨_, ls, gr, zs, rfl, h_ls, h_gr, h_zs, Or.inl ⟨by rw [← h_rg]; exact hc106, rfl, by rw [h_nb, h_fa, h_mo]; rfl, rfl⟩⟩, g_a0, E_a0, _, _, _, _, _, g_ra, (Ne.symm ne_a0_ra), F_width_a0, F_base_a0, F_based_a0, F_narrow_a0, F_middle_a0, F_wide_a0, F_nulls_a0, Or.inl ⟨rfl, rfl, V_ra⟩⟩
  · by_cases hc119 : rg < (65536 : Int64)
    · obtain ⟨T18, h18, X18, e18, W18, st18⟩ := putF X4 hx hZ hown (host := "") (Or.inl (hw _ (List.mem_of_getElem? (i := 14) rfl))) Via.refl e4 F_width_a0 E_a0 (Or.inl (hw _ (List.mem_of_getElem? (i := 15) rfl))) (hw _ (List.mem_of_getElem? (i := 1) rfl)) (ty := .int) (by decide) rfl rfl (g := (mkF m 127 #[.val (.ref a0), .val (.int p1), .val (.long q2), .second, .val (.ref va), .val (.long ls), .second, .val (.long gr), .second, .val (.long rg), .second, .val (.int fa), .unset, .unset, .unset] [(.int (2 : Int32)), (.ref a0)])) rfl rfl (hb hby d9_127)
      have F_width_a0 : Fld Z h18 a0 "com/example/wadjet/wadjet/storage/IntegerChunk" "width" "I" (.int (2 : Int32)) := F_width_a0.same W18
      have E_a0 : Exa Z h18 a0 "com/example/wadjet/wadjet/storage/IntegerChunk" := E_a0.wr W18
      have F_base_a0 : Fld Z h18 a0 "com/example/wadjet/wadjet/storage/IntegerChunk" "base" "J" (.long bb) := F_base_a0.other W18 (Or.inr (slot_ne (Or.inl (hw _ (List.mem_of_getElem? (i := 31) rfl))) (Or.inl (hw _ (List.mem_of_getElem? (i := 15) rfl))) (by decide) (t := .long) (t' := .int) (by decide) (by decide)))
      have F_based_a0 : Fld Z h18 a0 "com/example/wadjet/wadjet/storage/IntegerChunk" "based" "Z" u_based := F_based_a0.other W18 (Or.inr (slot_ne (Or.inl (hw _ (List.mem_of_getElem? (i := 29) rfl))) (Or.inl (hw _ (List.mem_of_getElem? (i := 15) rfl))) (by decide) (t := .boolean) (t' := .int) (by decide) (by decide)))
      have F_narrow_a0 : Fld Z h18 a0 "com/example/wadjet/wadjet/storage/IntegerChunk" "narrow" "[B" u_narrow := F_narrow_a0.other W18 (Or.inr (slot_ne (Or.inl (hw _ (List.mem_of_getElem? (i := 18) rfl))) (Or.inl (hw _ (List.mem_of_getElem? (i := 15) rfl))) (by decide) (t := (.array .byte)) (t' := .int) (by decide) (by decide)))
      have F_middle_a0 : Fld Z h18 a0 "com/example/wadjet/wadjet/storage/IntegerChunk" "middle" "[C" (.ref nr) := F_middle_a0.other W18 (Or.inr (slot_ne (Or.inl (hw _ (List.mem_of_getElem? (i := 61) rfl))) (Or.inl (hw _ (List.mem_of_getElem? (i := 15) rfl))) (by decide) (t := (.array .char)) (t' := .int) (by decide) (by decide)))
      have F_wide_a0 : Fld Z h18 a0 "com/example/wadjet/wadjet/storage/IntegerChunk" "wide" "[I" u_wide := F_wide_a0.other W18 (Or.inr (slot_ne (Or.inl (hw _ (List.mem_of_getElem? (i := 63) rfl))) (Or.inl (hw _ (List.mem_of_getElem? (i := 15) rfl))) (by decide) (t := (.array .int)) (t' := .int) (by decide) (by decide)))
      have F_nulls_a0 : Fld Z h18 a0 "com/example/wadjet/wadjet/storage/IntegerChunk" "nulls" "[J" .null := F_nulls_a0.other W18 (Or.inr (slot_ne (Or.inl (hw _ (List.mem_of_getElem? (i := 37) rfl))) (Or.inl (hw _ (List.mem_of_getElem? (i := 15) rfl))) (by decide) (t := (.array .long)) (t' := .int) (by decide) (by decide)))
      have V_nr : Arv Z h18 nr kn .char nn (ys.map Value.int) (.int (0 : Int32)) := V_nr.other W18 ne_nr_a0
      have V_va : Arv Z h18 va k2 .long nn (zs.map Value.long) (.long (0 : Int64)) := V_va.other W18 (Ne.symm ne_a0_va)
      have Zh18 : n0 ≤ h18.size := Nat.le_trans Zh3 (Keep.of_wr W18).1
      have Kh18 : Keep h0 h18 [a0] := Kh3.wr W18 (Or.inl (by simp))
      have N18 := Fr.snoc X18 N3 g_a0
      obtain ⟨T19, X19, e19, st19⟩ := getF X18 hx hZ hown (host := "") (Or.inl (hw _ (List.mem_of_getElem? (i := 14) rfl))) Via.refl e18 F_width_a0 (g := (mkF m 134 #[.val (.ref a0), .val (.int p1), .val (.long q2), .second, .val (.ref va), .val (.long ls), .second, .val (.long gr), .second, .val (.long rg), .second, .val (.int fa), .unset, .unset, .unset] [(.ref a0), (.int (8 : Int32)), (.long (1 : Int64))])) rfl rfl (hb hby d9_134)
      obtain ⟨mo, h_mo⟩ : ∃ z : Int64, z = (((1 : Int64) <<< (((8 : Int32) * (2 : Int32)) &&& 0x3f).toInt64) - (1 : Int64)) := ⟨_, rfl⟩
      obtain ⟨T20, X20, e20, st20⟩ := getF X19 hx hZ hown (host := "") (Or.inl (hw _ (List.mem_of_getElem? (i := 14) rfl))) Via.refl e19 F_width_a0 (g := (mkF m 145 #[.val (.ref a0), .val (.int p1), .val (.long q2), .second, .val (.ref va), .val (.long ls), .second, .val (.long gr), .second, .val (.long rg), .second, .val (.int fa), .val (.long mo), .second, .unset] [(.ref a0), (.ref a0)])) rfl rfl (hb hby d9_145)
      obtain ⟨nb, h_nb⟩ : ∃ z : Int64, z = (if fa = (0 : Int32) then ls else (gr - mo)) := ⟨_, rfl⟩
      obtain ⟨T21, h21, X21, e21, W21, st21⟩ := putF X20 hx hZ hown (host := "") (Or.inl (hw _ (List.mem_of_getElem? (i := 30) rfl))) Via.refl e20 F_base_a0 E_a0 (Or.inl (hw _ (List.mem_of_getElem? (i := 31) rfl))) (hw _ (List.mem_of_getElem? (i := 1) rfl)) (ty := .long) (by decide) rfl rfl (g := (mkF m 171 #[.val (.ref a0), .val (.int p1), .val (.long q2), .second, .val (.ref va), .val (.long ls), .second, .val (.long gr), .second, .val (.long rg), .second, .val (.int fa), .val (.long mo), .second, .unset] [(.long nb), (.ref a0)])) rfl rfl (hb hby d9_171)
      have F_base_a0 : Fld Z h21 a0 "com/example/wadjet/wadjet/storage/IntegerChunk" "base" "J" (.long nb) := F_base_a0.same W21
      have E_a0 : Exa Z h21 a0 "com/example/wadjet/wadjet/storage/IntegerChunk" := E_a0.wr W21
      have F_width_a0 : Fld Z h21 a0 "com/example/wadjet/wadjet/storage/IntegerChunk" "width" "I" (.int (2 : Int32)) := F_width_a0.other W21 (Or.inr (slot_ne (Or.inl (hw _ (List.mem_of_getElem? (i := 15) rfl))) (Or.inl (hw _ (List.mem_of_getElem? (i := 31) rfl))) (by decide) (t := .int) (t' := .long) (by decide) (by decide)))
      have F_based_a0 : Fld Z h21 a0 "com/example/wadjet/wadjet/storage/IntegerChunk" "based" "Z" u_based := F_based_a0.other W21 (Or.inr (slot_ne (Or.inl (hw _ (List.mem_of_getElem? (i := 29) rfl))) (Or.inl (hw _ (List.mem_of_getElem? (i := 31) rfl))) (by decide) (t := .boolean) (t' := .long) (by decide) (by decide)))
      have F_narrow_a0 : Fld Z h21 a0 "com/example/wadjet/wadjet/storage/IntegerChunk" "narrow" "[B" u_narrow := F_narrow_a0.other W21 (Or.inr (slot_ne (Or.inl (hw _ (List.mem_of_getElem? (i := 18) rfl))) (Or.inl (hw _ (List.mem_of_getElem? (i := 31) rfl))) (by decide) (t := (.array .byte)) (t' := .long) (by decide) (by decide)))
      have F_middle_a0 : Fld Z h21 a0 "com/example/wadjet/wadjet/storage/IntegerChunk" "middle" "[C" (.ref nr) := F_middle_a0.other W21 (Or.inr (slot_ne (Or.inl (hw _ (List.mem_of_getElem? (i := 61) rfl))) (Or.inl (hw _ (List.mem_of_getElem? (i := 31) rfl))) (by decide) (t := (.array .char)) (t' := .long) (by decide) (by decide)))
      have F_wide_a0 : Fld Z h21 a0 "com/example/wadjet/wadjet/storage/IntegerChunk" "wide" "[I" u_wide := F_wide_a0.other W21 (Or.inr (slot_ne (Or.inl (hw _ (List.mem_of_getElem? (i := 63) rfl))) (Or.inl (hw _ (List.mem_of_getElem? (i := 31) rfl))) (by decide) (t := (.array .int)) (t' := .long) (by decide) (by decide)))
      have F_nulls_a0 : Fld Z h21 a0 "com/example/wadjet/wadjet/storage/IntegerChunk" "nulls" "[J" .null := F_nulls_a0.other W21 (Or.inr (slot_ne (Or.inl (hw _ (List.mem_of_getElem? (i := 37) rfl))) (Or.inl (hw _ (List.mem_of_getElem? (i := 31) rfl))) (by decide) (t := (.array .long)) (t' := .long) (by decide) (by decide)))
      have V_nr : Arv Z h21 nr kn .char nn (ys.map Value.int) (.int (0 : Int32)) := V_nr.other W21 ne_nr_a0
      have V_va : Arv Z h21 va k2 .long nn (zs.map Value.long) (.long (0 : Int64)) := V_va.other W21 (Ne.symm ne_a0_va)
      have Zh21 : n0 ≤ h21.size := Nat.le_trans Zh18 (Keep.of_wr W21).1
      have Kh21 : Keep h0 h21 [a0] := Kh18.wr W21 (Or.inl (by simp))
      have N21 := Fr.snoc X21 N18 g_a0
      obtain ⟨T22, X22, e22, st22⟩ := getF X21 hx hZ hown (host := "") (Or.inl (hw _ (List.mem_of_getElem? (i := 14) rfl))) Via.refl e21 F_width_a0 (g := (mkF m 176 #[.val (.ref a0), .val (.int p1), .val (.long q2), .second, .val (.ref va), .val (.long ls), .second, .val (.long gr), .second, .val (.long rg), .second, .val (.int fa), .val (.long mo), .second, .unset] [(.ref a0), (.ref a0)])) rfl rfl (hb hby d9_176)
      obtain ⟨T23, h23, X23, e23, W23, st23⟩ := putF X22 hx hZ hown (host := "") (Or.inl (hw _ (List.mem_of_getElem? (i := 17) rfl))) Via.refl e22 F_narrow_a0 E_a0 (Or.inl (hw _ (List.mem_of_getElem? (i := 18) rfl))) (hw _ (List.mem_of_getElem? (i := 1) rfl)) (ty := (.array .byte)) (by decide) rfl rfl (g := (mkF m 192 #[.val (.ref a0), .val (.int p1), .val (.long q2), .second, .val (.ref va), .val (.long ls), .second, .val (.long gr), .second, .val (.long rg), .second, .val (.int fa), .val (.long mo), .second, .unset] [.null, (.ref a0)])) rfl rfl (hb hby d9_192)
      have F_narrow_a0 : Fld Z h23 a0 "com/example/wadjet/wadjet/storage/IntegerChunk" "narrow" "[B" .null := F_narrow_a0.same W23
      have E_a0 : Exa Z h23 a0 "com/example/wadjet/wadjet/storage/IntegerChunk" := E_a0.wr W23
      have F_width_a0 : Fld Z h23 a0 "com/example/wadjet/wadjet/storage/IntegerChunk" "width" "I" (.int (2 : Int32)) := F_width_a0.other W23 (Or.inr (slot_ne (Or.inl (hw _ (List.mem_of_getElem? (i := 15) rfl))) (Or.inl (hw _ (List.mem_of_getElem? (i := 18) rfl))) (by decide) (t := .int) (t' := (.array .byte)) (by decide) (by decide)))
      have F_base_a0 : Fld Z h23 a0 "com/example/wadjet/wadjet/storage/IntegerChunk" "base" "J" (.long nb) := F_base_a0.other W23 (Or.inr (slot_ne (Or.inl (hw _ (List.mem_of_getElem? (i := 31) rfl))) (Or.inl (hw _ (List.mem_of_getElem? (i := 18) rfl))) (by decide) (t := .long) (t' := (.array .byte)) (by decide) (by decide)))
      have F_based_a0 : Fld Z h23 a0 "com/example/wadjet/wadjet/storage/IntegerChunk" "based" "Z" u_based := F_based_a0.other W23 (Or.inr (slot_ne (Or.inl (hw _ (List.mem_of_getElem? (i := 29) rfl))) (Or.inl (hw _ (List.mem_of_getElem? (i := 18) rfl))) (by decide) (t := .boolean) (t' := (.array .byte)) (by decide) (by decide)))
      have F_middle_a0 : Fld Z h23 a0 "com/example/wadjet/wadjet/storage/IntegerChunk" "middle" "[C" (.ref nr) := F_middle_a0.other W23 (Or.inr (slot_ne (Or.inl (hw _ (List.mem_of_getElem? (i := 61) rfl))) (Or.inl (hw _ (List.mem_of_getElem? (i := 18) rfl))) (by decide) (t := (.array .char)) (t' := (.array .byte)) (by decide) (by decide)))
      have F_wide_a0 : Fld Z h23 a0 "com/example/wadjet/wadjet/storage/IntegerChunk" "wide" "[I" u_wide := F_wide_a0.other W23 (Or.inr (slot_ne (Or.inl (hw _ (List.mem_of_getElem? (i := 63) rfl))) (Or.inl (hw _ (List.mem_of_getElem? (i := 18) rfl))) (by decide) (t := (.array .int)) (t' := (.array .byte)) (by decide) (by decide)))
      have F_nulls_a0 : Fld Z h23 a0 "com/example/wadjet/wadjet/storage/IntegerChunk" "nulls" "[J" .null := F_nulls_a0.other W23 (Or.inr (slot_ne (Or.inl (hw _ (List.mem_of_getElem? (i := 37) rfl))) (Or.inl (hw _ (List.mem_of_getElem? (i := 18) rfl))) (by decide) (t := (.array .long)) (t' := (.array .byte)) (by decide) (by decide)))
      have V_nr : Arv Z h23 nr kn .char nn (ys.map Value.int) (.int (0 : Int32)) := V_nr.other W23 ne_nr_a0
      have V_va : Arv Z h23 va k2 .long nn (zs.map Value.long) (.long (0 : Int64)) := V_va.other W23 (Ne.symm ne_a0_va)
      have Zh23 : n0 ≤ h23.size := Nat.le_trans Zh21 (Keep.of_wr W23).1
      have Kh23 : Keep h0 h23 [a0] := Kh21.wr W23 (Or.inl (by simp))
      have N23 := Fr.snoc X23 N21 g_a0
      obtain ⟨T24, X24, e24, st24⟩ := getF X23 hx hZ hown (host := "") (Or.inl (hw _ (List.mem_of_getElem? (i := 14) rfl))) Via.refl e23 F_width_a0 (g := (mkF m 197 #[.val (.ref a0), .val (.int p1), .val (.long q2), .second, .val (.ref va), .val (.long ls), .second, .val (.long gr), .second, .val (.long rg), .second, .val (.int fa), .val (.long mo), .second, .unset] [(.ref a0), (.ref a0)])) rfl rfl (hb hby d9_197)
      obtain ⟨cl25, Ar25, -, SS25, MM25, -, -⟩ := id V_va
      obtain ⟨T26, h26, k26, X26, e26, E26, A26, st26⟩ := newP X24 hx hZ (hw _ (List.mem_of_getElem? (i := 101) rfl)) e24 (g := (mkF m 207 #[.val (.ref a0), .val (.int p1), .val (.long q2), .second, .val (.ref va), .val (.long ls), .second, .val (.long gr), .second, .val (.long rg), .second, .val (.int fa), .val (.long mo), .second, .unset] [(.int nn), (.ref a0)])) rfl (hb hby d9_207) rfl (own_nneg hn.1) (cap := 8) (by rw [own_tn]; omega) (by decide) (by decide) (by decide)
      obtain ⟨ra, g26⟩ : ∃ z, z = h23.size := ⟨_, rfl⟩
      rw [← g26] at A26 st26
      have ne_a0_ra : a0 ≠ ra := Nat.ne_of_lt (Nat.lt_of_lt_of_le E_a0.lt (Nat.le_of_eq g26.symm))
      have ne_nr_ra : nr ≠ ra := Nat.ne_of_lt (Nat.lt_of_lt_of_le V_nr.lt (Nat.le_of_eq g26.symm))
      have ne_va_ra : va ≠ ra := Nat.ne_of_lt (Nat.lt_of_lt_of_le V_va.lt (Nat.le_of_eq g26.symm))
      have g_ra : n0 ≤ ra := Nat.le_trans Zh23 (Nat.le_of_eq g26.symm)
      have sz_ra : h0.size ≤ ra := Nat.le_trans Kh23.1 (Nat.le_of_eq g26.symm)
      have E_a0 : Exa Z h26 a0 "com/example/wadjet/wadjet/storage/IntegerChunk" := E_a0.ext E26
      have F_width_a0 : Fld Z h26 a0 "com/example/wadjet/wadjet/storage/IntegerChunk" "width" "I" (.int (2 : Int32)) := F_width_a0.ext E26
      have F_base_a0 : Fld Z h26 a0 "com/example/wadjet/wadjet/storage/IntegerChunk" "base" "J" (.long nb) := F_base_a0.ext E26
      have F_based_a0 : Fld Z h26 a0 "com/example/wadjet/wadjet/storage/IntegerChunk" "based" "Z" u_based := F_based_a0.ext E26
      have F_narrow_a0 : Fld Z h26 a0 "com/example/wadjet/wadjet/storage/IntegerChunk" "narrow" "[B" .null := F_narrow_a0.ext E26
      have F_middle_a0 : Fld Z h26 a0 "com/example/wadjet/wadjet/storage/IntegerChunk" "middle" "[C" (.ref nr) := F_middle_a0.ext E26
      have F_wide_a0 : Fld Z h26 a0 "com/example/wadjet/wadjet/storage/IntegerChunk" "wide" "[I" u_wide := F_wide_a0.ext E26
      have F_nulls_a0 : Fld Z h26 a0 "com/example/wadjet/wadjet/storage/IntegerChunk" "nulls" "[J" .null := F_nulls_a0.ext E26
      have V_nr : Arv Z h26 nr kn .char nn (ys.map Value.int) (.int (0 : Int32)) := V_nr.ext E26
      have V_va : Arv Z h26 va k2 .long nn (zs.map Value.long) (.long (0 : Int64)) := V_va.ext E26
      have Zh26 : n0 ≤ h26.size := Nat.le_trans Zh23 E26.1
      have Kh26 : Keep h0 h26 [a0] := Kh23.ext E26
      have V_ra : Arv Z h26 ra k26 .char nn [] (.int (0 : Int32)) := Arv.new A26 (own_nneg hn.1)
      have V_ra : Arv Z h26 ra k26 .char nn ((List.replicate nn.toNatClampNeg (0 : Int32)).map Value.int) (.int (0 : Int32)) := by rw [List.map_replicate]; exact V_ra.pad (pad_rep [] (.int (0 : Int32)) nn.toNatClampNeg)
      obtain ⟨T27, h27, X27, e27, W27, st27⟩ := putF X26 hx hZ hown (host := "") (Or.inl (hw _ (List.mem_of_getElem? (i := 60) rfl))) Via.refl e26 F_middle_a0 E_a0 (Or.inl (hw _ (List.mem_of_getElem? (i := 61) rfl))) (hw _ (List.mem_of_getElem? (i := 1) rfl)) (ty := (.array .char)) (by decide) rfl rfl (g := (mkF m 213 #[.val (.ref a0), .val (.int p1), .val (.long q2), .second, .val (.ref va), .val (.long ls), .second, .val (.long gr), .second, .val (.long rg), .second, .val (.int fa), .val (.long mo), .second, .unset] [(.ref ra), (.ref a0)])) rfl rfl (hb hby d9_213)
      have F_middle_a0 : Fld Z h27 a0 "com/example/wadjet/wadjet/storage/IntegerChunk" "middle" "[C" (.ref ra) := F_middle_a0.same W27
      have E_a0 : Exa Z h27 a0 "com/example/wadjet/wadjet/storage/IntegerChunk" := E_a0.wr W27
      have F_width_a0 : Fld Z h27 a0 "com/example/wadjet/wadjet/storage/IntegerChunk" "width" "I" (.int (2 : Int32)) := F_width_a0.other W27 (Or.inr (slot_ne (Or.inl (hw _ (List.mem_of_getElem? (i := 15) rfl))) (Or.inl (hw _ (List.mem_of_getElem? (i := 61) rfl))) (by decide) (t := .int) (t' := (.array .char)) (by decide) (by decide)))
      have F_base_a0 : Fld Z h27 a0 "com/example/wadjet/wadjet/storage/IntegerChunk" "base" "J" (.long nb) := F_base_a0.other W27 (Or.inr (slot_ne (Or.inl (hw _ (List.mem_of_getElem? (i := 31) rfl))) (Or.inl (hw _ (List.mem_of_getElem? (i := 61) rfl))) (by decide) (t := .long) (t' := (.array .char)) (by decide) (by decide)))
      have F_based_a0 : Fld Z h27 a0 "com/example/wadjet/wadjet/storage/IntegerChunk" "based" "Z" u_based := F_based_a0.other W27 (Or.inr (slot_ne (Or.inl (hw _ (List.mem_of_getElem? (i := 29) rfl))) (Or.inl (hw _ (List.mem_of_getElem? (i := 61) rfl))) (by decide) (t := .boolean) (t' := (.array .char)) (by decide) (by decide)))
      have F_narrow_a0 : Fld Z h27 a0 "com/example/wadjet/wadjet/storage/IntegerChunk" "narrow" "[B" .null := F_narrow_a0.other W27 (Or.inr (slot_ne (Or.inl (hw _ (List.mem_of_getElem? (i := 18) rfl))) (Or.inl (hw _ (List.mem_of_getElem? (i := 61) rfl))) (by decide) (t := (.array .byte)) (t' := (.array .char)) (by decide) (by decide)))
      have F_wide_a0 : Fld Z h27 a0 "com/example/wadjet/wadjet/storage/IntegerChunk" "wide" "[I" u_wide := F_wide_a0.other W27 (Or.inr (slot_ne (Or.inl (hw _ (List.mem_of_getElem? (i := 63) rfl))) (Or.inl (hw _ (List.mem_of_getElem? (i := 61) rfl))) (by decide) (t := (.array .int)) (t' := (.array .char)) (by decide) (by decide)))
      have F_nulls_a0 : Fld Z h27 a0 "com/example/wadjet/wadjet/storage/IntegerChunk" "nulls" "[J" .null := F_nulls_a0.other W27 (Or.inr (slot_ne (Or.inl (hw _ (List.mem_of_getElem? (i := 37) rfl))) (Or.inl (hw _ (List.mem_of_getElem? (i := 61) rfl))) (by decide) (t := (.array .long)) (t' := (.array .char)) (by decide) (by decide)))
      have V_nr : Arv Z h27 nr kn .char nn (ys.map Value.int) (.int (0 : Int32)) := V_nr.other W27 ne_nr_a0
      have V_va : Arv Z h27 va k2 .long nn (zs.map Value.long) (.long (0 : Int64)) := V_va.other W27 (Ne.symm ne_a0_va)
      have V_ra : Arv Z h27 ra k26 .char nn ((List.replicate nn.toNatClampNeg (0 : Int32)).map Value.int) (.int (0 : Int32)) := V_ra.other W27 (Ne.symm ne_a0_ra)
      have Zh27 : n0 ≤ h27.size := Nat.le_trans Zh26 (Keep.of_wr W27).1
      have Kh27 : Keep h0 h27 [a0] := Kh26.wr W27 (Or.inl (by simp))
      have N27 := Fr.snoc X27 N23 g_a0
      obtain ⟨T28, X28, e28, st28⟩ := getF X27 hx hZ hown (host := "") (Or.inl (hw _ (List.mem_of_getElem? (i := 14) rfl))) Via.refl e27 F_width_a0 (g := (mkF m 218 #[.val (.ref a0), .val (.int p1), .val (.long q2), .second, .val (.ref va), .val (.long ls), .second, .val (.long gr), .second, .val (.long rg), .second, .val (.int fa), .val (.long mo), .second, .unset] [(.ref a0), (.ref a0)])) rfl rfl (hb hby d9_218)
      obtain ⟨T29, h29, X29, e29, W29, st29⟩ := putF X28 hx hZ hown (host := "") (Or.inl (hw _ (List.mem_of_getElem? (i := 62) rfl))) Via.refl e28 F_wide_a0 E_a0 (Or.inl (hw _ (List.mem_of_getElem? (i := 63) rfl))) (hw _ (List.mem_of_getElem? (i := 1) rfl)) (ty := (.array .int)) (by decide) rfl rfl (g := (mkF m 234 #[.val (.ref a0), .val (.int p1), .val (.long q2), .second, .val (.ref va), .val (.long ls), .second, .val (.long gr), .second, .val (.long rg), .second, .val (.int fa), .val (.long mo), .second, .unset] [.null, (.ref a0)])) rfl rfl (hb hby d9_234)
      have F_wide_a0 : Fld Z h29 a0 "com/example/wadjet/wadjet/storage/IntegerChunk" "wide" "[I" .null := F_wide_a0.same W29
      have E_a0 : Exa Z h29 a0 "com/example/wadjet/wadjet/storage/IntegerChunk" := E_a0.wr W29
      have F_width_a0 : Fld Z h29 a0 "com/example/wadjet/wadjet/storage/IntegerChunk" "width" "I" (.int (2 : Int32)) := F_width_a0.other W29 (Or.inr (slot_ne (Or.inl (hw _ (List.mem_of_getElem? (i := 15) rfl))) (Or.inl (hw _ (List.mem_of_getElem? (i := 63) rfl))) (by decide) (t := .int) (t' := (.array .int)) (by decide) (by decide)))
      have F_base_a0 : Fld Z h29 a0 "com/example/wadjet/wadjet/storage/IntegerChunk" "base" "J" (.long nb) := F_base_a0.other W29 (Or.inr (slot_ne (Or.inl (hw _ (List.mem_of_getElem? (i := 31) rfl))) (Or.inl (hw _ (List.mem_of_getElem? (i := 63) rfl))) (by decide) (t := .long) (t' := (.array .int)) (by decide) (by decide)))
      have F_based_a0 : Fld Z h29 a0 "com/example/wadjet/wadjet/storage/IntegerChunk" "based" "Z" u_based := F_based_a0.other W29 (Or.inr (slot_ne (Or.inl (hw _ (List.mem_of_getElem? (i := 29) rfl))) (Or.inl (hw _ (List.mem_of_getElem? (i := 63) rfl))) (by decide) (t := .boolean) (t' := (.array .int)) (by decide) (by decide)))
      have F_narrow_a0 : Fld Z h29 a0 "com/example/wadjet/wadjet/storage/IntegerChunk" "narrow" "[B" .null := F_narrow_a0.other W29 (Or.inr (slot_ne (Or.inl (hw _ (List.mem_of_getElem? (i := 18) rfl))) (Or.inl (hw _ (List.mem_of_getElem? (i := 63) rfl))) (by decide) (t := (.array .byte)) (t' := (.array .int)) (by decide) (by decide)))
      have F_middle_a0 : Fld Z h29 a0 "com/example/wadjet/wadjet/storage/IntegerChunk" "middle" "[C" (.ref ra) := F_middle_a0.other W29 (Or.inr (slot_ne (Or.inl (hw _ (List.mem_of_getElem? (i := 61) rfl))) (Or.inl (hw _ (List.mem_of_getElem? (i := 63) rfl))) (by decide) (t := (.array .char)) (t' := (.array .int)) (by decide) (by decide)))
      have F_nulls_a0 : Fld Z h29 a0 "com/example/wadjet/wadjet/storage/IntegerChunk" "nulls" "[J" .null := F_nulls_a0.other W29 (Or.inr (slot_ne (Or.inl (hw _ (List.mem_of_getElem? (i := 37) rfl))) (Or.inl (hw _ (List.mem_of_getElem? (i := 63) rfl))) (by decide) (t := (.array .long)) (t' := (.array .int)) (by decide) (by decide)))
      have V_nr : Arv Z h29 nr kn .char nn (ys.map Value.int) (.int (0 : Int32)) := V_nr.other W29 ne_nr_a0
      have V_va : Arv Z h29 va k2 .long nn (zs.map Value.long) (.long (0 : Int64)) := V_va.other W29 (Ne.symm ne_a0_va)
      have V_ra : Arv Z h29 ra k26 .char nn ((List.replicate nn.toNatClampNeg (0 : Int32)).map Value.int) (.int (0 : Int32)) := V_ra.other W29 (Ne.symm ne_a0_ra)
      have Zh29 : n0 ≤ h29.size := Nat.le_trans Zh27 (Keep.of_wr W29).1
      have Kh29 : Keep h0 h29 [a0] := Kh27.wr W29 (Or.inl (by simp))
      have N29 := Fr.snoc X29 N27 g_a0
      obtain ⟨T30, h30, L30, X30, e30, N30, Kc30, E_a0, F_width_a0, F_base_a0, F_based_a0, F_narrow_a0, F_middle_a0, F_wide_a0, F_nulls_a0, V_ra, V_va, st30⟩ := lq2 a0 p1 q2 va ls gr rg mo fa u_based .null .null .null nb ra k26 nn k2 zs hx hZ hw hby hml hown g_ra ne_a0_ra ne_va_ra hn.2 nn.toNatClampNeg 0 (List.replicate nn.toNatClampNeg 0) X29 e29 N29 Zh29 E_a0 F_width_a0 F_base_a0 F_based_a0 F_narrow_a0 F_middle_a0 F_wide_a0 F_nulls_a0 V_ra V_va (by rw [own_tn]; omega) (by rw [List.length_replicate])
      have Zh30 : n0 ≤ h30.size := Nat.le_trans Zh29 Kc30.1
      have Kh30 : Keep h0 h30 [a0] := Kh29.trans Kc30 (allS (Or.inr sz_ra) all0)
      obtain ⟨fs, hr, hrun, hended, hW, hsame⟩ := X30.leave (v := none) (fun _ => rfl)
      refine ⟨_, _, pre0 _ ?_, hrun, hended, _, _, rfl, ?_, ⟨_, rfl⟩, hW, hsame.mono (by decide) (by decide)⟩
      · show Steps p.tables e below (s₁.setTop (mkF m 0 #[.val (.ref a0), .val (.int p1), .val (.long q2), .second, .unset, .unset, .unset, .unset, .unset, .unset, .unset, .unset, .unset, .unset, .unset] [])) _
        refine XS.aloadN X0.here hx rfl (hb hby d9_0) rfl rfl ?_
        refine st1.trans ?_
        show Steps p.tables e below (T1.setTop (mkF m 4 #[.val (.ref a0), .val (.int p1), .val (.long q2), .second, .unset, .unset, .unset, .unset, .unset, .unset, .unset, .unset, .unset, .unset, .unset] [(.int nn)])) _
        refine st2 _ ?_
        show Steps p.tables e below (T2.setTop (mkF m 6 #[.val (.ref a0), .val (.int p1), .val (.long q2), .second, .unset, .unset, .unset, .unset, .unset, .unset, .unset, .unset, .unset, .unset, .unset] [(.ref va)])) _
        refine XS.astore X2.here hx rfl (hb hby d9_6) rfl rfl (l' := #[.val (.ref a0), .val (.int p1), .val (.long q2), .second, .val (.ref va), .unset, .unset, .unset, .unset, .unset, .unset, .unset, .unset, .unset, .unset]) rfl ?_
        refine XS.lloadN X2.here hx rfl (hb hby d9_8) rfl ?_
        refine XS.lstore X2.here hx rfl (hb hby d9_9) rfl (l' := #[.val (.ref a0), .val (.int p1), .val (.long q2), .second, .val (.ref va), .val (.long q2), .second, .unset, .unset, .unset, .unset, .unset, .unset, .unset, .unset]) rfl ?_
        refine XS.lloadN X2.here hx rfl (hb hby d9_11) rfl ?_
        show Steps p.tables e below (T2.setTop (mkF m 12 #[.val (.ref a0), .val (.int p1), .val (.long q2), .second, .val (.ref va), .val (.long q2), .second, .unset, .unset, .unset, .unset, .unset, .unset, .unset, .unset] [(.long q2)])) _
        refine XS.lstore X2.here hx rfl (hb hby d9_12) rfl (l' := #[.val (.ref a0), .val (.int p1), .val (.long q2), .second, .val (.ref va), .val (.long q2), .second, .val (.long q2), .second, .unset, .unset, .unset, .unset, .unset, .unset]) rfl ?_
        refine XS.iconst X2.here hx rfl (hb hby d9_14) ?_
        refine XS.istore X2.here hx rfl (hb hby d9_15) rfl (l' := #[.val (.ref a0), .val (.int p1), .val (.long q2), .second, .val (.ref va), .val (.long q2), .second, .val (.long q2), .second, .val (.int (0 : Int32)), .unset, .unset, .unset, .unset, .unset]) rfl ?_
        refine st3 _ ?_
        show Steps p.tables e below (T3.setTop (mkF m 76 #[.val (.ref a0), .val (.int p1), .val (.long q2), .second, .val (.ref va), .val (.long ls), .second, .val (.long gr), .second, .val (.int (Int32.ofNat (0 + nn.toNatClampNeg))), .unset, .unset, .unset, .unset, .unset] [])) _
        refine XS.lload X3.here hx rfl (hb hby d9_76) rfl ?_
        refine XS.lload X3.here hx rfl (hb hby d9_78) rfl ?_
        refine XS.lsub X3.here hx rfl (hb hby d9_80) rfl ?_
        show Steps p.tables e below (T3.setTop (mkF m 81 #[.val (.ref a0), .val (.int p1), .val (.long q2), .second, .val (.ref va), .val (.long ls), .second, .val (.long gr), .second, .val (.int (Int32.ofNat (0 + nn.toNatClampNeg))), .unset, .unset, .unset, .unset, .unset] [(.long (gr - ls))])) _
        rw [← h_rg]
        show Steps p.tables e below (T3.setTop (mkF m 81 #[.val (.ref a0), .val (.int p1), .val (.long q2), .second, .val (.ref va), .val (.long ls), .second, .val (.long gr), .second, .val (.int (Int32.ofNat (0 + nn.toNatClampNeg))), .unset, .unset, .unset, .unset, .unset] [(.long rg)])) _
        refine XS.lstore X3.here hx rfl (hb hby d9_81) rfl (l' := #[.val (.ref a0), .val (.int p1), .val (.long q2), .second, .val (.ref va), .val (.long ls), .second, .val (.long gr), .second, .val (.long rg), .second, .unset, .unset, .unset, .unset]) rfl ?_
        refine XS.lloadN X3.here hx rfl (hb hby d9_83) rfl ?_
        refine XS.aloadN X3.here hx rfl (hb hby d9_84) rfl rfl ?_
        refine st4 _ ?_
        show Steps p.tables e below (T4.setTop (mkF m 88 #[.val (.ref a0), .val (.int p1), .val (.long q2), .second, .val (.ref va), .val (.long ls), .second, .val (.long gr), .second, .val (.long rg), .second, .unset, .unset, .unset, .unset] [(.long bb), (.long q2)])) _
        refine XS.lcmp X4.here hx rfl (hb hby d9_88) rfl ?_
        refine own_via (T4.setTop (mkF m 97 #[.val (.ref a0), .val (.int p1), .val (.long q2), .second, .val (.ref va), .val (.long ls), .second, .val (.long gr), .second, .val (.long rg), .second, .unset, .unset, .unset, .unset] [(.int (if q2 < bb then (1 : Int32) else (0 : Int32)))])) (fun k => ?_) ?_
        · by_cases hc89 : q2 < bb
          · show Steps p.tables e below (T4.setTop (mkF m 89 #[.val (.ref a0), .val (.int p1), .val (.long q2), .second, .val (.ref va), .val (.long ls), .second, .val (.long gr), .second, .val (.long rg), .second, .unset, .unset, .unset, .unset] [(.int (lcmpW q2 bb))])) _
            refine XS.ifNo X4.here hx rfl (hb hby d9_89) rfl ((if0 _ _).trans (tlt ((lw_lt _ _).mpr hc89)).2.1) ?_
            refine XS.iconst X4.here hx rfl (hb hby d9_92) ?_
            refine XS.goto X4.here hx rfl (pc0 := 93) (pc' := 97) rfl (hb hby d9_93) (by decide) (by decide) ?_
            try simp only [if_pos hc89] at k
            exact k
          · show Steps p.tables e below (T4.setTop (mkF m 89 #[.val (.ref a0), .val (.int p1), .val (.long q2), .second, .val (.ref va), .val (.long ls), .second, .val (.long gr), .second, .val (.long rg), .second, .unset, .unset, .unset, .unset] [(.int (lcmpW q2 bb))])) _
            refine XS.ifYes X4.here hx rfl (pc0 := 89) (pc' := 96) rfl (hb hby d9_89) rfl ((if0 _ _).trans (flt (mt (lw_lt _ _).mp hc89)).2.1) (by decide) (by decide) ?_
            show Steps p.tables e below (T4.setTop (mkF m 96 #[.val (.ref a0), .val (.int p1), .val (.long q2), .second, .val (.ref va), .val (.long ls), .second, .val (.long gr), .second, .val (.long rg), .second, .unset, .unset, .unset, .unset] [])) _
            refine XS.iconst X4.here hx rfl (hb hby d9_96) ?_
            try simp only [if_neg hc89] at k
            exact k
        show Steps p.tables e below (T4.setTop (mkF m 97 #[.val (.ref a0), .val (.int p1), .val (.long q2), .second, .val (.ref va), .val (.long ls), .second, .val (.long gr), .second, .val (.long rg), .second, .unset, .unset, .unset, .unset] [(.int (if q2 < bb then (1 : Int32) else (0 : Int32)))])) _
        rw [← h_fa]
        show Steps p.tables e below (T4.setTop (mkF m 97 #[.val (.ref a0), .val (.int p1), .val (.long q2), .second, .val (.ref va), .val (.long ls), .second, .val (.long gr), .second, .val (.long rg), .second, .unset, .unset, .unset, .unset] [(.int fa)])) _
        refine XS.istore X4.here hx rfl (hb hby d9_97) rfl (l' := #[.val (.ref a0), .val (.int p1), .val (.long q2), .second, .val (.ref va), .val (.long ls), .second, .val (.long gr), .second, .val (.long rg), .second, .val (.int fa), .unset, .unset, .unset]) rfl ?_
        refine XS.aloadN X4.here hx rfl (hb hby d9_99) rfl rfl ?_
        show Steps p.tables e below (T4.setTop (mkF m 100 #[.val (.ref a0), .val (.int p1), .val (.long q2), .second, .val (.ref va), .val (.long ls), .second, .val (.long gr), .second, .val (.long rg), .second, .val (.int fa), .unset, .unset, .unset] [(.ref a0)])) _
        refine XS.lload X4.here hx rfl (hb hby d9_100) rfl ?_
        refine X4.ldc2Long hx hown (mvT hZ (hw _ (List.mem_of_getElem? (i := 59) rfl))) (g := (mkF m 102 #[.val (.ref a0), .val (.int p1), .val (.long q2), .second, .val (.ref va), .val (.long ls), .second, .val (.long gr), .second, .val (.long rg), .second, .val (.int fa), .unset, .unset, .unset] [(.long rg), (.ref a0)])) rfl (hb hby d9_102) _ ?_
        show Steps p.tables e below (T4.setTop (mkF m 105 #[.val (.ref a0), .val (.int p1), .val (.long q2), .second, .val (.ref va), .val (.long ls), .second, .val (.long gr), .second, .val (.long rg), .second, .val (.int fa), .unset, .unset, .unset] [(.long (256 : Int64)), (.long rg), (.ref a0)])) _
        refine XS.lcmp X4.here hx rfl (hb hby d9_105) rfl ?_
        refine XS.ifYes X4.here hx rfl (pc0 := 106) (pc' := 113) rfl (hb hby d9_106) rfl ((if0 _ _).trans (flt (mt (lw_lt _ _).mp hc106)).2.1) (by decide) (by decide) ?_
        show Steps p.tables e below (T4.setTop (mkF m 113 #[.val (.ref a0), .val (.int p1), .val (.long q2), .second, .val (.ref va), .val (.long ls), .second, .val (.long gr), .second, .val (.long rg), .second, .val (.int fa), .unset, .unset, .unset] [(.ref a0)])) _
        refine XS.lload X4.here hx rfl (hb hby d9_113) rfl ?_
        refine X4.ldc2Long hx hown (mvT hZ (hw _ (List.mem_of_getElem? (i := 96) rfl))) (g := (mkF m 115 #[.val (.ref a0), .val (.int p1), .val (.long q2), .second, .val (.ref va), .val (.long ls), .second, .val (.long gr), .second, .val (.long rg), .second, .val (.int fa), .unset, .unset, .unset] [(.long rg), (.ref a0)])) rfl (hb hby d9_115) _ ?_
        show Steps p.tables e below (T4.setTop (mkF m 118 #[.val (.ref a0), .val (.int p1), .val (.long q2), .second, .val (.ref va), .val (.long ls), .second, .val (.long gr), .second, .val (.long rg), .second, .val (.int fa), .unset, .unset, .unset] [(.long (65536 : Int64)), (.long rg), (.ref a0)])) _
        refine XS.lcmp X4.here hx rfl (hb hby d9_118) rfl ?_
        refine XS.ifNo X4.here hx rfl (hb hby d9_119) rfl ((if0 _ _).trans (tlt ((lw_lt _ _).mpr hc119)).2.1) ?_
        show Steps p.tables e below (T4.setTop (mkF m 122 #[.val (.ref a0), .val (.int p1), .val (.long q2), .second, .val (.ref va), .val (.long ls), .second, .val (.long gr), .second, .val (.long rg), .second, .val (.int fa), .unset, .unset, .unset] [(.ref a0)])) _
        refine XS.iconst X4.here hx rfl (hb hby d9_122) ?_
        refine XS.goto X4.here hx rfl (pc0 := 123) (pc' := 127) rfl (hb hby d9_123) (by decide) (by decide) ?_
        show Steps p.tables e below (T4.setTop (mkF m 127 #[.val (.ref a0), .val (.int p1), .val (.long q2), .second, .val (.ref va), .val (.long ls), .second, .val (.long gr), .second, .val (.long rg), .second, .val (.int fa), .unset, .unset, .unset] [(.int (2 : Int32)), (.ref a0)])) _
        refine st18 _ ?_
        show Steps p.tables e below (T18.setTop (mkF m 130 #[.val (.ref a0), .val (.int p1), .val (.long q2), .second, .val (.ref va), .val (.long ls), .second, .val (.long gr), .second, .val (.long rg), .second, .val (.int fa), .unset, .unset, .unset] [])) _
        refine XS.lconst X18.here hx rfl (hb hby d9_130) ?_
        show Steps p.tables e below (T18.setTop (mkF m 131 #[.val (.ref a0), .val (.int p1), .val (.long q2), .second, .val (.ref va), .val (.long ls), .second, .val (.long gr), .second, .val (.long rg), .second, .val (.int fa), .unset, .unset, .unset] [(.long (1 : Int64))])) _
        refine XS.bipush X18.here hx rfl (hb hby d9_131) ?_
        refine XS.aloadN X18.here hx rfl (hb hby d9_133) rfl rfl ?_
        refine st19 _ ?_
        show Steps p.tables e below (T19.setTop (mkF m 137 #[.val (.ref a0), .val (.int p1), .val (.long q2), .second, .val (.ref va), .val (.long ls), .second, .val (.long gr), .second, .val (.long rg), .second, .val (.int fa), .unset, .unset, .unset] [(.int (2 : Int32)), (.int (8 : Int32)), (.long (1 : Int64))])) _
        refine XS.imul X19.here hx rfl (hb hby d9_137) rfl ?_
        show Steps p.tables e below (T19.setTop (mkF m 138 #[.val (.ref a0), .val (.int p1), .val (.long q2), .second, .val (.ref va), .val (.long ls), .second, .val (.long gr), .second, .val (.long rg), .second, .val (.int fa), .unset, .unset, .unset] [(.int ((8 : Int32) * (2 : Int32))), (.long (1 : Int64))])) _
        refine XS.lshl X19.here hx rfl (hb hby d9_138) rfl ?_
        refine XS.lconst X19.here hx rfl (hb hby d9_139) ?_
        refine XS.lsub X19.here hx rfl (hb hby d9_140) rfl ?_
        show Steps p.tables e below (T19.setTop (mkF m 141 #[.val (.ref a0), .val (.int p1), .val (.long q2), .second, .val (.ref va), .val (.long ls), .second, .val (.long gr), .second, .val (.long rg), .second, .val (.int fa), .unset, .unset, .unset] [(.long (((1 : Int64) <<< (((8 : Int32) * (2 : Int32)) &&& 0x3f).toInt64) - (1 : Int64)))])) _
        rw [← h_mo]
        show Steps p.tables e below (T19.setTop (mkF m 141 #[.val (.ref a0), .val (.int p1), .val (.long q2), .second, .val (.ref va), .val (.long ls), .second, .val (.long gr), .second, .val (.long rg), .second, .val (.int fa), .unset, .unset, .unset] [(.long mo)])) _
        refine XS.lstore X19.here hx rfl (hb hby d9_141) rfl (l' := #[.val (.ref a0), .val (.int p1), .val (.long q2), .second, .val (.ref va), .val (.long ls), .second, .val (.long gr), .second, .val (.long rg), .second, .val (.int fa), .val (.long mo), .second, .unset]) rfl ?_
        refine XS.aloadN X19.here hx rfl (hb hby d9_143) rfl rfl ?_
        refine XS.aloadN X19.here hx rfl (hb hby d9_144) rfl rfl ?_
        refine st20 _ ?_
        show Steps p.tables e below (T20.setTop (mkF m 148 #[.val (.ref a0), .val (.int p1), .val (.long q2), .second, .val (.ref va), .val (.long ls), .second, .val (.long gr), .second, .val (.long rg), .second, .val (.int fa), .val (.long mo), .second, .unset] [(.int (2 : Int32)), (.ref a0)])) _
        refine XS.iconst X20.here hx rfl (hb hby d9_148) ?_
        refine XS.icmpYes X20.here hx rfl (pc0 := 149) (pc' := 156) rfl (hb hby d9_149) rfl (feq (by decide : ¬ ((2 : Int32) = (4 : Int32)))).2 (by decide) (by decide) ?_
        show Steps p.tables e below (T20.setTop (mkF m 156 #[.val (.ref a0), .val (.int p1), .val (.long q2), .second, .val (.ref va), .val (.long ls), .second, .val (.long gr), .second, .val (.long rg), .second, .val (.int fa), .val (.long mo), .second, .unset] [(.ref a0)])) _
        refine XS.iload X20.here hx rfl (hb hby d9_156) rfl ?_
        refine own_via (T20.setTop (mkF m 171 #[.val (.ref a0), .val (.int p1), .val (.long q2), .second, .val (.ref va), .val (.long ls), .second, .val (.long gr), .second, .val (.long rg), .second, .val (.int fa), .val (.long mo), .second, .unset] [(.long (if fa = (0 : Int32) then ls else (gr - mo))), (.ref a0)])) (fun k => ?_) ?_
        · by_cases hc158 : fa = (0 : Int32)
          · show Steps p.tables e below (T20.setTop (mkF m 158 #[.val (.ref a0), .val (.int p1), .val (.long q2), .second, .val (.ref va), .val (.long ls), .second, .val (.long gr), .second, .val (.long rg), .second, .val (.int fa), .val (.long mo), .second, .unset] [(.int fa), (.ref a0)])) _
            refine XS.ifYes X20.here hx rfl (pc0 := 158) (pc' := 169) rfl (hb hby d9_158) rfl ((if0 _ _).trans (teq hc158).1) (by decide) (by decide) ?_
            show Steps p.tables e below (T20.setTop (mkF m 169 #[.val (.ref a0), .val (.int p1), .val (.long q2), .second, .val (.ref va), .val (.long ls), .second, .val (.long gr), .second, .val (.long rg), .second, .val (.int fa), .val (.long mo), .second, .unset] [(.ref a0)])) _
            refine XS.lload X20.here hx rfl (hb hby d9_169) rfl ?_
            try simp only [if_pos hc158] at k
            exact k
          · show Steps p.tables e below (T20.setTop (mkF m 158 #[.val (.ref a0), .val (.int p1), .val (.long q2), .second, .val (.ref va), .val (.long ls), .second, .val (.long gr), .second, .val (.long rg), .second, .val (.int fa), .val (.long mo), .second, .unset] [(.int fa), (.ref a0)])) _
            refine XS.ifNo X20.here hx rfl (hb hby d9_158) rfl ((if0 _ _).trans (feq hc158).1) ?_
            show Steps p.tables e below (T20.setTop (mkF m 161 #[.val (.ref a0), .val (.int p1), .val (.long q2), .second, .val (.ref va), .val (.long ls), .second, .val (.long gr), .second, .val (.long rg), .second, .val (.int fa), .val (.long mo), .second, .unset] [(.ref a0)])) _
            refine XS.lload X20.here hx rfl (hb hby d9_161) rfl ?_
            refine XS.lload X20.here hx rfl (hb hby d9_163) rfl ?_
            refine XS.lsub X20.here hx rfl (hb hby d9_165) rfl ?_
            refine XS.goto X20.here hx rfl (pc0 := 166) (pc' := 171) rfl (hb hby d9_166) (by decide) (by decide) ?_
            try simp only [if_neg hc158] at k
            exact k
        show Steps p.tables e below (T20.setTop (mkF m 171 #[.val (.ref a0), .val (.int p1), .val (.long q2), .second, .val (.ref va), .val (.long ls), .second, .val (.long gr), .second, .val (.long rg), .second, .val (.int fa), .val (.long mo), .second, .unset] [(.long (if fa = (0 : Int32) then ls else (gr - mo))), (.ref a0)])) _
        rw [← h_nb]
        show Steps p.tables e below (T20.setTop (mkF m 171 #[.val (.ref a0), .val (.int p1), .val (.long q2), .second, .val (.ref va), .val (.long ls), .second, .val (.long gr), .second, .val (.long rg), .second, .val (.int fa), .val (.long mo), .second, .unset] [(.long nb), (.ref a0)])) _
        refine st21 _ ?_
        show Steps p.tables e below (T21.setTop (mkF m 174 #[.val (.ref a0), .val (.int p1), .val (.long q2), .second, .val (.ref va), .val (.long ls), .second, .val (.long gr), .second, .val (.long rg), .second, .val (.int fa), .val (.long mo), .second, .unset] [])) _
        refine XS.aloadN X21.here hx rfl (hb hby d9_174) rfl rfl ?_
        refine XS.aloadN X21.here hx rfl (hb hby d9_175) rfl rfl ?_
        refine st22 _ ?_
        show Steps p.tables e below (T22.setTop (mkF m 179 #[.val (.ref a0), .val (.int p1), .val (.long q2), .second, .val (.ref va), .val (.long ls), .second, .val (.long gr), .second, .val (.long rg), .second, .val (.int fa), .val (.long mo), .second, .unset] [(.int (2 : Int32)), (.ref a0)])) _
        refine XS.iconst X22.here hx rfl (hb hby d9_179) ?_
        refine XS.icmpYes X22.here hx rfl (pc0 := 180) (pc' := 191) rfl (hb hby d9_180) rfl (feq (by decide : ¬ ((2 : Int32) = (1 : Int32)))).2 (by decide) (by decide) ?_
        show Steps p.tables e below (T22.setTop (mkF m 191 #[.val (.ref a0), .val (.int p1), .val (.long q2), .second, .val (.ref va), .val (.long ls), .second, .val (.long gr), .second, .val (.long rg), .second, .val (.int fa), .val (.long mo), .second, .unset] [(.ref a0)])) _
        refine XS.aconstNull X22.here hx rfl (hb hby d9_191) ?_
        refine st23 _ ?_
        show Steps p.tables e below (T23.setTop (mkF m 195 #[.val (.ref a0), .val (.int p1), .val (.long q2), .second, .val (.ref va), .val (.long ls), .second, .val (.long gr), .second, .val (.long rg), .second, .val (.int fa), .val (.long mo), .second, .unset] [])) _
        refine XS.aloadN X23.here hx rfl (hb hby d9_195) rfl rfl ?_
        refine XS.aloadN X23.here hx rfl (hb hby d9_196) rfl rfl ?_
        refine st24 _ ?_
        show Steps p.tables e below (T24.setTop (mkF m 200 #[.val (.ref a0), .val (.int p1), .val (.long q2), .second, .val (.ref va), .val (.long ls), .second, .val (.long gr), .second, .val (.long rg), .second, .val (.int fa), .val (.long mo), .second, .unset] [(.int (2 : Int32)), (.ref a0)])) _
        refine XS.iconst X24.here hx rfl (hb hby d9_200) ?_
        show Steps p.tables e below (T24.setTop (mkF m 201 #[.val (.ref a0), .val (.int p1), .val (.long q2), .second, .val (.ref va), .val (.long ls), .second, .val (.long gr), .second, .val (.long rg), .second, .val (.int fa), .val (.long mo), .second, .unset] [(.int (2 : Int32)), (.int (2 : Int32)), (.ref a0)])) _
        refine XS.icmpNo X24.here hx rfl (hb hby d9_201) rfl (teq (by decide : (2 : Int32) = (2 : Int32))).2 ?_
        refine XS.aload X24.here hx rfl (hb hby d9_204) rfl rfl ?_
        refine X24.arraylength hx (by rw [e24]; exact Ar25.1) (State.isArrayOf_alike hZ.alike Ar25.2.1) (g := (mkF m 206 #[.val (.ref a0), .val (.int p1), .val (.long q2), .second, .val (.ref va), .val (.long ls), .second, .val (.long gr), .second, .val (.long rg), .second, .val (.int fa), .val (.long mo), .second, .unset] [(.ref va), (.ref a0)])) rfl rfl (hb hby d9_206) _ ?_
        rw [len_of SS25 MM25]
        show Steps p.tables e below (T24.setTop (mkF m 207 #[.val (.ref a0), .val (.int p1), .val (.long q2), .second, .val (.ref va), .val (.long ls), .second, .val (.long gr), .second, .val (.long rg), .second, .val (.int fa), .val (.long mo), .second, .unset] [(.int nn), (.ref a0)])) _
        refine st26 _ ?_
        show Steps p.tables e below (T26.setTop (mkF m 209 #[.val (.ref a0), .val (.int p1), .val (.long q2), .second, .val (.ref va), .val (.long ls), .second, .val (.long gr), .second, .val (.long rg), .second, .val (.int fa), .val (.long mo), .second, .unset] [(.ref ra), (.ref a0)])) _
        refine XS.goto X26.here hx rfl (pc0 := 209) (pc' := 213) rfl (hb hby d9_209) (by decide) (by decide) ?_
        show Steps p.tables e below (T26.setTop (mkF m 213 #[.val (.ref a0), .val (.int p1), .val (.long q2), .second, .val (.ref va), .val (.long ls), .second, .val (.long gr), .second, .val (.long rg), .second, .val (.int fa), .val (.long mo), .second, .unset] [(.ref ra), (.ref a0)])) _
        refine st27 _ ?_
        show Steps p.tables e below (T27.setTop (mkF m 216 #[.val (.ref a0), .val (.int p1), .val (.long q2), .second, .val (.ref va), .val (.long ls), .second, .val (.long gr), .second, .val (.long rg), .second, .val (.int fa), .val (.long mo), .second, .unset] [])) _
        refine XS.aloadN X27.here hx rfl (hb hby d9_216) rfl rfl ?_
        refine XS.aloadN X27.here hx rfl (hb hby d9_217) rfl rfl ?_
        show Steps p.tables e below (T27.setTop (mkF m 218 #[.val (.ref a0), .val (.int p1), .val (.long q2), .second, .val (.ref va), .val (.long ls), .second, .val (.long gr), .second, .val (.long rg), .second, .val (.int fa), .val (.long mo), .second, .unset] [(.ref a0), (.ref a0)])) _
        refine st28 _ ?_
        show Steps p.tables e below (T28.setTop (mkF m 221 #[.val (.ref a0), .val (.int p1), .val (.long q2), .second, .val (.ref va), .val (.long ls), .second, .val (.long gr), .second, .val (.long rg), .second, .val (.int fa), .val (.long mo), .second, .unset] [(.int (2 : Int32)), (.ref a0)])) _
        refine XS.iconst X28.here hx rfl (hb hby d9_221) ?_
        refine XS.icmpYes X28.here hx rfl (pc0 := 222) (pc' := 233) rfl (hb hby d9_222) rfl (feq (by decide : ¬ ((2 : Int32) = (4 : Int32)))).2 (by decide) (by decide) ?_
        show Steps p.tables e below (T28.setTop (mkF m 233 #[.val (.ref a0), .val (.int p1), .val (.long q2), .second, .val (.ref va), .val (.long ls), .second, .val (.long gr), .second, .val (.long rg), .second, .val (.int fa), .val (.long mo), .second, .unset] [(.ref a0)])) _
        refine XS.aconstNull X28.here hx rfl (hb hby d9_233) ?_
        show Steps p.tables e below (T28.setTop (mkF m 234 #[.val (.ref a0), .val (.int p1), .val (.long q2), .second, .val (.ref va), .val (.long ls), .second, .val (.long gr), .second, .val (.long rg), .second, .val (.int fa), .val (.long mo), .second, .unset] [.null, (.ref a0)])) _
        refine st29 _ ?_
        show Steps p.tables e below (T29.setTop (mkF m 237 #[.val (.ref a0), .val (.int p1), .val (.long q2), .second, .val (.ref va), .val (.long ls), .second, .val (.long gr), .second, .val (.long rg), .second, .val (.int fa), .val (.long mo), .second, .unset] [])) _
        refine XS.iconst X29.here hx rfl (hb hby d9_237) ?_
        refine XS.istore X29.here hx rfl (hb hby d9_238) rfl (l' := #[.val (.ref a0), .val (.int p1), .val (.long q2), .second, .val (.ref va), .val (.long ls), .second, .val (.long gr), .second, .val (.long rg), .second, .val (.int fa), .val (.long mo), .second, .val (.int (0 : Int32))]) rfl ?_
        refine st30 _ ?_
        show Steps p.tables e below (T30.setTop (mkF m 327 #[.val (.ref a0), .val (.int p1), .val (.long q2), .second, .val (.ref va), .val (.long ls), .second, .val (.long gr), .second, .val (.long rg), .second, .val (.int fa), .val (.long mo), .second, .val (.int (Int32.ofNat (0 + nn.toNatClampNeg)))] [])) _
        exact X30.returnOut hx Bd.returns (hb hby d9_327) hr
      · show Qwd Z a0 p1 q2 (2 : Int32) bb u_based nn ys h0 n0 _ T30.heap _
        rw [e30]
        exact ⟨rfl, N30, Kh30.1, _, _, _, ⟨_, ls, gr, zs, rfl, h_ls, h_gr, h_zs, Or.inr (Or.inl ⟨by rw [← h_rg]; exact hc106, by rw [← h_rg]; exact hc119, rfl, by rw [h_nb, h_fa, h_mo]; rfl, rfl⟩)⟩, g_a0, E_a0, _, _, _, _, _, g_ra, (Ne.symm ne_a0_ra), F_width_a0, F_base_a0, F_based_a0, F_narrow_a0, F_middle_a0, F_wide_a0, F_nulls_a0, Or.inr (Or.inl ⟨rfl, rfl, V_ra⟩)⟩
    · obtain ⟨T31, h31, X31, e31, W31, st31⟩ := putF X4 hx hZ hown (host := "") (Or.inl (hw _ (List.mem_of_getElem? (i := 14) rfl))) Via.refl e4 F_width_a0 E_a0 (Or.inl (hw _ (List.mem_of_getElem? (i := 15) rfl))) (hw _ (List.mem_of_getElem? (i := 1) rfl)) (ty := .int) (by decide) rfl rfl (g := (mkF m 127 #[.val (.ref a0), .val (.int p1), .val (.long q2), .second, .val (.ref va), .val (.long ls), .second, .val (.long gr), .second, .val (.long rg), .second, .val (.int fa), .unset, .unset, .unset] [(.int (4 : Int32)), (.ref a0)])) rfl rfl (hb hby d9_127)
      have F_width_a0 : Fld Z h31 a0 "com/example/wadjet/wadjet/storage/IntegerChunk" "width" "I" (.int (4 : Int32)) := F_width_a0.same W31
      have E_a0 : Exa Z h31 a0 "com/example/wadjet/wadjet/storage/IntegerChunk" := E_a0.wr W31
      have F_base_a0 : Fld Z h31 a0 "com/example/wadjet/wadjet/storage/IntegerChunk" "base" "J" (.long bb) := F_base_a0.other W31 (Or.inr (slot_ne (Or.inl (hw _ (List.mem_of_getElem? (i := 31) rfl))) (Or.inl (hw _ (List.mem_of_getElem? (i := 15) rfl))) (by decide) (t := .long) (t' := .int) (by decide) (by decide)))
      have F_based_a0 : Fld Z h31 a0 "com/example/wadjet/wadjet/storage/IntegerChunk" "based" "Z" u_based := F_based_a0.other W31 (Or.inr (slot_ne (Or.inl (hw _ (List.mem_of_getElem? (i := 29) rfl))) (Or.inl (hw _ (List.mem_of_getElem? (i := 15) rfl))) (by decide) (t := .boolean) (t' := .int) (by decide) (by decide)))
      have F_narrow_a0 : Fld Z h31 a0 "com/example/wadjet/wadjet/storage/IntegerChunk" "narrow" "[B" u_narrow := F_narrow_a0.other W31 (Or.inr (slot_ne (Or.inl (hw _ (List.mem_of_getElem? (i := 18) rfl))) (Or.inl (hw _ (List.mem_of_getElem? (i := 15) rfl))) (by decide) (t := (.array .byte)) (t' := .int) (by decide) (by decide)))
      have F_middle_a0 : Fld Z h31 a0 "com/example/wadjet/wadjet/storage/IntegerChunk" "middle" "[C" (.ref nr) := F_middle_a0.other W31 (Or.inr (slot_ne (Or.inl (hw _ (List.mem_of_getElem? (i := 61) rfl))) (Or.inl (hw _ (List.mem_of_getElem? (i := 15) rfl))) (by decide) (t := (.array .char)) (t' := .int) (by decide) (by decide)))
      have F_wide_a0 : Fld Z h31 a0 "com/example/wadjet/wadjet/storage/IntegerChunk" "wide" "[I" u_wide := F_wide_a0.other W31 (Or.inr (slot_ne (Or.inl (hw _ (List.mem_of_getElem? (i := 63) rfl))) (Or.inl (hw _ (List.mem_of_getElem? (i := 15) rfl))) (by decide) (t := (.array .int)) (t' := .int) (by decide) (by decide)))
      have F_nulls_a0 : Fld Z h31 a0 "com/example/wadjet/wadjet/storage/IntegerChunk" "nulls" "[J" .null := F_nulls_a0.other W31 (Or.inr (slot_ne (Or.inl (hw _ (List.mem_of_getElem? (i := 37) rfl))) (Or.inl (hw _ (List.mem_of_getElem? (i := 15) rfl))) (by decide) (t := (.array .long)) (t' := .int) (by decide) (by decide)))
      have V_nr : Arv Z h31 nr kn .char nn (ys.map Value.int) (.int (0 : Int32)) := V_nr.other W31 ne_nr_a0
      have V_va : Arv Z h31 va k2 .long nn (zs.map Value.long) (.long (0 : Int64)) := V_va.other W31 (Ne.symm ne_a0_va)
      have Zh31 : n0 ≤ h31.size := Nat.le_trans Zh3 (Keep.of_wr W31).1
      have Kh31 : Keep h0 h31 [a0] := Kh3.wr W31 (Or.inl (by simp))
      have N31 := Fr.snoc X31 N3 g_a0
      obtain ⟨T32, X32, e32, st32⟩ := getF X31 hx hZ hown (host := "") (Or.inl (hw _ (List.mem_of_getElem? (i := 14) rfl))) Via.refl e31 F_width_a0 (g := (mkF m 134 #[.val (.ref a0), .val (.int p1), .val (.long q2), .second, .val (.ref va), .val (.long ls), .second, .val (.long gr), .second, .val (.long rg), .second, .val (.int fa), .unset, .unset, .unset] [(.ref a0), (.int (8 : Int32)), (.long (1 : Int64))])) rfl rfl (hb hby d9_134)
      obtain ⟨mo, h_mo⟩ : ∃ z : Int64, z = (((1 : Int64) <<< (((8 : Int32) * (4 : Int32)) &&& 0x3f).toInt64) - (1 : Int64)) := ⟨_, rfl⟩
      obtain ⟨T33, X33, e33, st33⟩ := getF X32 hx hZ hown (host := "") (Or.inl (hw _ (List.mem_of_getElem? (i := 14) rfl))) Via.refl e32 F_width_a0 (g := (mkF m 145 #[.val (.ref a0), .val (.int p1), .val (.long q2), .second, .val (.ref va), .val (.long ls), .second, .val (.long gr), .second, .val (.long rg), .second, .val (.int fa), .val (.long mo), .second, .unset] [(.ref a0), (.ref a0)])) rfl rfl (hb hby d9_145)
      obtain ⟨T34, h34, X34, e34, W34, st34⟩ := putF X33 hx hZ hown (host := "") (Or.inl (hw _ (List.mem_of_getElem? (i := 30) rfl))) Via.refl e33 F_base_a0 E_a0 (Or.inl (hw _ (List.mem_of_getElem? (i := 31) rfl))) (hw _ (List.mem_of_getElem? (i := 1) rfl)) (ty := .long) (by decide) rfl rfl (g := (mkF m 171 #[.val (.ref a0), .val (.int p1), .val (.long q2), .second, .val (.ref va), .val (.long ls), .second, .val (.long gr), .second, .val (.long rg), .second, .val (.int fa), .val (.long mo), .second, .unset] [(.long (0 : Int64)), (.ref a0)])) rfl rfl (hb hby d9_171)
      have F_base_a0 : Fld Z h34 a0 "com/example/wadjet/wadjet/storage/IntegerChunk" "base" "J" (.long (0 : Int64)) := F_base_a0.same W34
      have E_a0 : Exa Z h34 a0 "com/example/wadjet/wadjet/storage/IntegerChunk" := E_a0.wr W34
      have F_width_a0 : Fld Z h34 a0 "com/example/wadjet/wadjet/storage/IntegerChunk" "width" "I" (.int (4 : Int32)) := F_width_a0.other W34 (Or.inr (slot_ne (Or.inl (hw _ (List.mem_of_getElem? (i := 15) rfl))) (Or.inl (hw _ (List.mem_of_getElem? (i := 31) rfl))) (by decide) (t := .int) (t' := .long) (by decide) (by decide)))
      have F_based_a0 : Fld Z h34 a0 "com/example/wadjet/wadjet/storage/IntegerChunk" "based" "Z" u_based := F_based_a0.other W34 (Or.inr (slot_ne (Or.inl (hw _ (List.mem_of_getElem? (i := 29) rfl))) (Or.inl (hw _ (List.mem_of_getElem? (i := 31) rfl))) (by decide) (t := .boolean) (t' := .long) (by decide) (by decide)))
      have F_narrow_a0 : Fld Z h34 a0 "com/example/wadjet/wadjet/storage/IntegerChunk" "narrow" "[B" u_narrow := F_narrow_a0.other W34 (Or.inr (slot_ne (Or.inl (hw _ (List.mem_of_getElem? (i := 18) rfl))) (Or.inl (hw _ (List.mem_of_getElem? (i := 31) rfl))) (by decide) (t := (.array .byte)) (t' := .long) (by decide) (by decide)))
      have F_middle_a0 : Fld Z h34 a0 "com/example/wadjet/wadjet/storage/IntegerChunk" "middle" "[C" (.ref nr) := F_middle_a0.other W34 (Or.inr (slot_ne (Or.inl (hw _ (List.mem_of_getElem? (i := 61) rfl))) (Or.inl (hw _ (List.mem_of_getElem? (i := 31) rfl))) (by decide) (t := (.array .char)) (t' := .long) (by decide) (by decide)))
      have F_wide_a0 : Fld Z h34 a0 "com/example/wadjet/wadjet/storage/IntegerChunk" "wide" "[I" u_wide := F_wide_a0.other W34 (Or.inr (slot_ne (Or.inl (hw _ (List.mem_of_getElem? (i := 63) rfl))) (Or.inl (hw _ (List.mem_of_getElem? (i := 31) rfl))) (by decide) (t := (.array .int)) (t' := .long) (by decide) (by decide)))
      have F_nulls_a0 : Fld Z h34 a0 "com/example/wadjet/wadjet/storage/IntegerChunk" "nulls" "[J" .null := F_nulls_a0.other W34 (Or.inr (slot_ne (Or.inl (hw _ (List.mem_of_getElem? (i := 37) rfl))) (Or.inl (hw _ (List.mem_of_getElem? (i := 31) rfl))) (by decide) (t := (.array .long)) (t' := .long) (by decide) (by decide)))
      have V_nr : Arv Z h34 nr kn .char nn (ys.map Value.int) (.int (0 : Int32)) := V_nr.other W34 ne_nr_a0
      have V_va : Arv Z h34 va k2 .long nn (zs.map Value.long) (.long (0 : Int64)) := V_va.other W34 (Ne.symm ne_a0_va)
      have Zh34 : n0 ≤ h34.size := Nat.le_trans Zh31 (Keep.of_wr W34).1
      have Kh34 : Keep h0 h34 [a0] := Kh31.wr W34 (Or.inl (by simp))
      have N34 := Fr.snoc X34 N31 g_a0
      obtain ⟨T35, X35, e35, st35⟩ := getF X34 hx hZ hown (host := "") (Or.inl (hw _ (List.mem_of_getElem? (i := 14) rfl))) Via.refl e34 F_width_a0 (g := (mkF m 176 #[.val (.ref a0), .val (.int p1), .val (.long q2), .second, .val (.ref va), .val (.long ls), .second, .val (.long gr), .second, .val (.long rg), .second, .val (.int fa), .val (.long mo), .second, .unset] [(.ref a0), (.ref a0)])) rfl rfl (hb hby d9_176)
      obtain ⟨T36, h36, X36, e36, W36, st36⟩ := putF X35 hx hZ hown (host := "") (Or.inl (hw _ (List.mem_of_getElem? (i := 17) rfl))) Via.refl e35 F_narrow_a0 E_a0 (Or.inl (hw _ (List.mem_of_getElem? (i := 18) rfl))) (hw _ (List.mem_of_getElem? (i := 1) rfl)) (ty := (.array .byte)) (by decide) rfl rfl (g := (mkF m 192 #[.val (.ref a0), .val (.int p1), .val (.long q2), .second, .val (.ref va), .val (.long ls), .second, .val (.long gr), .second, .val (.long rg), .second, .val (.int fa), .val (.long mo), .second, .unset] [.null, (.ref a0)])) rfl rfl (hb hby d9_192)
      have F_narrow_a0 : Fld Z h36 a0 "com/example/wadjet/wadjet/storage/IntegerChunk" "narrow" "[B" .null := F_narrow_a0.same W36
      have E_a0 : Exa Z h36 a0 "com/example/wadjet/wadjet/storage/IntegerChunk" := E_a0.wr W36
      have F_width_a0 : Fld Z h36 a0 "com/example/wadjet/wadjet/storage/IntegerChunk" "width" "I" (.int (4 : Int32)) := F_width_a0.other W36 (Or.inr (slot_ne (Or.inl (hw _ (List.mem_of_getElem? (i := 15) rfl))) (Or.inl (hw _ (List.mem_of_getElem? (i := 18) rfl))) (by decide) (t := .int) (t' := (.array .byte)) (by decide) (by decide)))
      have F_base_a0 : Fld Z h36 a0 "com/example/wadjet/wadjet/storage/IntegerChunk" "base" "J" (.long (0 : Int64)) := F_base_a0.other W36 (Or.inr (slot_ne (Or.inl (hw _ (List.mem_of_getElem? (i := 31) rfl))) (Or.inl (hw _ (List.mem_of_getElem? (i := 18) rfl))) (by decide) (t := .long) (t' := (.array .byte)) (by decide) (by decide)))
      have F_based_a0 : Fld Z h36 a0 "com/example/wadjet/wadjet/storage/IntegerChunk" "based" "Z" u_based := F_based_a0.other W36 (Or.inr (slot_ne (Or.inl (hw _ (List.mem_of_getElem? (i := 29) rfl))) (Or.inl (hw _ (List.mem_of_getElem? (i := 18) rfl))) (by decide) (t := .boolean) (t' := (.array .byte)) (by decide) (by decide)))
      have F_middle_a0 : Fld Z h36 a0 "com/example/wadjet/wadjet/storage/IntegerChunk" "middle" "[C" (.ref nr) := F_middle_a0.other W36 (Or.inr (slot_ne (Or.inl (hw _ (List.mem_of_getElem? (i := 61) rfl))) (Or.inl (hw _ (List.mem_of_getElem? (i := 18) rfl))) (by decide) (t := (.array .char)) (t' := (.array .byte)) (by decide) (by decide)))
      have F_wide_a0 : Fld Z h36 a0 "com/example/wadjet/wadjet/storage/IntegerChunk" "wide" "[I" u_wide := F_wide_a0.other W36 (Or.inr (slot_ne (Or.inl (hw _ (List.mem_of_getElem? (i := 63) rfl))) (Or.inl (hw _ (List.mem_of_getElem? (i := 18) rfl))) (by decide) (t := (.array .int)) (t' := (.array .byte)) (by decide) (by decide)))
      have F_nulls_a0 : Fld Z h36 a0 "com/example/wadjet/wadjet/storage/IntegerChunk" "nulls" "[J" .null := F_nulls_a0.other W36 (Or.inr (slot_ne (Or.inl (hw _ (List.mem_of_getElem? (i := 37) rfl))) (Or.inl (hw _ (List.mem_of_getElem? (i := 18) rfl))) (by decide) (t := (.array .long)) (t' := (.array .byte)) (by decide) (by decide)))
      have V_nr : Arv Z h36 nr kn .char nn (ys.map Value.int) (.int (0 : Int32)) := V_nr.other W36 ne_nr_a0
      have V_va : Arv Z h36 va k2 .long nn (zs.map Value.long) (.long (0 : Int64)) := V_va.other W36 (Ne.symm ne_a0_va)
      have Zh36 : n0 ≤ h36.size := Nat.le_trans Zh34 (Keep.of_wr W36).1
      have Kh36 : Keep h0 h36 [a0] := Kh34.wr W36 (Or.inl (by simp))
      have N36 := Fr.snoc X36 N34 g_a0
      obtain ⟨T37, X37, e37, st37⟩ := getF X36 hx hZ hown (host := "") (Or.inl (hw _ (List.mem_of_getElem? (i := 14) rfl))) Via.refl e36 F_width_a0 (g := (mkF m 197 #[.val (.ref a0), .val (.int p1), .val (.long q2), .second, .val (.ref va), .val (.long ls), .second, .val (.long gr), .second, .val (.long rg), .second, .val (.int fa), .val (.long mo), .second, .unset] [(.ref a0), (.ref a0)])) rfl rfl (hb hby d9_197)
      obtain ⟨T38, h38, X38, e38, W38, st38⟩ := putF X37 hx hZ hown (host := "") (Or.inl (hw _ (List.mem_of_getElem? (i := 60) rfl))) Via.refl e37 F_middle_a0 E_a0 (Or.inl (hw _ (List.mem_of_getElem? (i := 61) rfl))) (hw _ (List.mem_of_getElem? (i := 1) rfl)) (ty := (.array .char)) (by decide) rfl rfl (g := (mkF m 213 #[.val (.ref a0), .val (.int p1), .val (.long q2), .second, .val (.ref va), .val (.long ls), .second, .val (.long gr), .second, .val (.long rg), .second, .val (.int fa), .val (.long mo), .second, .unset] [.null, (.ref a0)])) rfl rfl (hb hby d9_213)
      have F_middle_a0 : Fld Z h38 a0 "com/example/wadjet/wadjet/storage/IntegerChunk" "middle" "[C" .null := F_middle_a0.same W38
      have E_a0 : Exa Z h38 a0 "com/example/wadjet/wadjet/storage/IntegerChunk" := E_a0.wr W38
      have F_width_a0 : Fld Z h38 a0 "com/example/wadjet/wadjet/storage/IntegerChunk" "width" "I" (.int (4 : Int32)) := F_width_a0.other W38 (Or.inr (slot_ne (Or.inl (hw _ (List.mem_of_getElem? (i := 15) rfl))) (Or.inl (hw _ (List.mem_of_getElem? (i := 61) rfl))) (by decide) (t := .int) (t' := (.array .char)) (by decide) (by decide)))
      have F_base_a0 : Fld Z h38 a0 "com/example/wadjet/wadjet/storage/IntegerChunk" "base" "J" (.long (0 : Int64)) := F_base_a0.other W38 (Or.inr (slot_ne (Or.inl (hw _ (List.mem_of_getElem? (i := 31) rfl))) (Or.inl (hw _ (List.mem_of_getElem? (i := 61) rfl))) (by decide) (t := .long) (t' := (.array .char)) (by decide) (by decide)))
      have F_based_a0 : Fld Z h38 a0 "com/example/wadjet/wadjet/storage/IntegerChunk" "based" "Z" u_based := F_based_a0.other W38 (Or.inr (slot_ne (Or.inl (hw _ (List.mem_of_getElem? (i := 29) rfl))) (Or.inl (hw _ (List.mem_of_getElem? (i := 61) rfl))) (by decide) (t := .boolean) (t' := (.array .char)) (by decide) (by decide)))
      have F_narrow_a0 : Fld Z h38 a0 "com/example/wadjet/wadjet/storage/IntegerChunk" "narrow" "[B" .null := F_narrow_a0.other W38 (Or.inr (slot_ne (Or.inl (hw _ (List.mem_of_getElem? (i := 18) rfl))) (Or.inl (hw _ (List.mem_of_getElem? (i := 61) rfl))) (by decide) (t := (.array .byte)) (t' := (.array .char)) (by decide) (by decide)))
      have F_wide_a0 : Fld Z h38 a0 "com/example/wadjet/wadjet/storage/IntegerChunk" "wide" "[I" u_wide := F_wide_a0.other W38 (Or.inr (slot_ne (Or.inl (hw _ (List.mem_of_getElem? (i := 63) rfl))) (Or.inl (hw _ (List.mem_of_getElem? (i := 61) rfl))) (by decide) (t := (.array .int)) (t' := (.array .char)) (by decide) (by decide)))
      have F_nulls_a0 : Fld Z h38 a0 "com/example/wadjet/wadjet/storage/IntegerChunk" "nulls" "[J" .null := F_nulls_a0.other W38 (Or.inr (slot_ne (Or.inl (hw _ (List.mem_of_getElem? (i := 37) rfl))) (Or.inl (hw _ (List.mem_of_getElem? (i := 61) rfl))) (by decide) (t := (.array .long)) (t' := (.array .char)) (by decide) (by decide)))
      have V_nr : Arv Z h38 nr kn .char nn (ys.map Value.int) (.int (0 : Int32)) := V_nr.other W38 ne_nr_a0
      have V_va : Arv Z h38 va k2 .long nn (zs.map Value.long) (.long (0 : Int64)) := V_va.other W38 (Ne.symm ne_a0_va)
      have Zh38 : n0 ≤ h38.size := Nat.le_trans Zh36 (Keep.of_wr W38).1
      have Kh38 : Keep h0 h38 [a0] := Kh36.wr W38 (Or.inl (by simp))
      have N38 := Fr.snoc X38 N36 g_a0
      obtain ⟨T39, X39, e39, st39⟩ := getF X38 hx hZ hown (host := "") (Or.inl (hw _ (List.mem_of_getElem? (i := 14) rfl))) Via.refl e38 F_width_a0 (g := (mkF m 218 #[.val (.ref a0), .val (.int p1), .val (.long q2), .second, .val (.ref va), .val (.long ls), .second, .val (.long gr), .second, .val (.long rg), .second, .val (.int fa), .val (.long mo), .second, .unset] [(.ref a0), (.ref a0)])) rfl rfl (hb hby d9_218)
      obtain ⟨cl40, Ar40, -, SS40, MM40, -, -⟩ := id V_va
      obtain ⟨T41, h41, k41, X41, e41, E41, A41, st41⟩ := newP X39 hx hZ (hw _ (List.mem_of_getElem? (i := 97) rfl)) e39 (g := (mkF m 228 #[.val (.ref a0), .val (.int p1), .val (.long q2), .second, .val (.ref va), .val (.long ls), .second, .val (.long gr), .second, .val (.long rg), .second, .val (.int fa), .val (.long mo), .second, .unset] [(.int nn), (.ref a0)])) rfl (hb hby d9_228) rfl (own_nneg hn.1) (cap := 8) (by rw [own_tn]; omega) (by decide) (by decide) (by decide)
      obtain ⟨ra, g41⟩ : ∃ z, z = h38.size := ⟨_, rfl⟩
      rw [← g41] at A41 st41
      have ne_a0_ra : a0 ≠ ra := Nat.ne_of_lt (Nat.lt_of_lt_of_le E_a0.lt (Nat.le_of_eq g41.symm))
      have ne_nr_ra : nr ≠ ra := Nat.ne_of_lt (Nat.lt_of_lt_of_le V_nr.lt (Nat.le_of_eq g41.symm))
      have ne_va_ra : va ≠ ra := Nat.ne_of_lt (Nat.lt_of_lt_of_le V_va.lt (Nat.le_of_eq g41.symm))
      have g_ra : n0 ≤ ra := Nat.le_trans Zh38 (Nat.le_of_eq g41.symm)
      have sz_ra : h0.size ≤ ra := Nat.le_trans Kh38.1 (Nat.le_of_eq g41.symm)
      have E_a0 : Exa Z h41 a0 "com/example/wadjet/wadjet/storage/IntegerChunk" := E_a0.ext E41
      have F_width_a0 : Fld Z h41 a0 "com/example/wadjet/wadjet/storage/IntegerChunk" "width" "I" (.int (4 : Int32)) := F_width_a0.ext E41
      have F_base_a0 : Fld Z h41 a0 "com/example/wadjet/wadjet/storage/IntegerChunk" "base" "J" (.long (0 : Int64)) := F_base_a0.ext E41
      have F_based_a0 : Fld Z h41 a0 "com/example/wadjet/wadjet/storage/IntegerChunk" "based" "Z" u_based := F_based_a0.ext E41
      have F_narrow_a0 : Fld Z h41 a0 "com/example/wadjet/wadjet/storage/IntegerChunk" "narrow" "[B" .null := F_narrow_a0.ext E41
      have F_middle_a0 : Fld Z h41 a0 "com/example/wadjet/wadjet/storage/IntegerChunk" "middle" "[C" .null := F_middle_a0.ext E41
      have F_wide_a0 : Fld Z h41 a0 "com/example/wadjet/wadjet/storage/IntegerChunk" "wide" "[I" u_wide := F_wide_a0.ext E41
      have F_nulls_a0 : Fld Z h41 a0 "com/example/wadjet/wadjet/storage/IntegerChunk" "nulls" "[J" .null := F_nulls_a0.ext E41
      have V_nr : Arv Z h41 nr kn .char nn (ys.map Value.int) (.int (0 : Int32)) := V_nr.ext E41
      have V_va : Arv Z h41 va k2 .long nn (zs.map Value.long) (.long (0 : Int64)) := V_va.ext E41
      have Zh41 : n0 ≤ h41.size := Nat.le_trans Zh38 E41.1
      have Kh41 : Keep h0 h41 [a0] := Kh38.ext E41
      have V_ra : Arv Z h41 ra k41 .int nn [] (.int (0 : Int32)) := Arv.new A41 (own_nneg hn.1)
      have V_ra : Arv Z h41 ra k41 .int nn ((List.replicate nn.toNatClampNeg (0 : Int32)).map Value.int) (.int (0 : Int32)) := by rw [List.map_replicate]; exact V_ra.pad (pad_rep [] (.int (0 : Int32)) nn.toNatClampNeg)
      obtain ⟨T42, h42, X42, e42, W42, st42⟩ := putF X41 hx hZ hown (host := "") (Or.inl (hw _ (List.mem_of_getElem? (i := 62) rfl))) Via.refl e41 F_wide_a0 E_a0 (Or.inl (hw _ (List.mem_of_getElem? (i := 63) rfl))) (hw _ (List.mem_of_getElem? (i := 1) rfl)) (ty := (.array .int)) (by decide) rfl rfl (g := (mkF m 234 #[.val (.ref a0), .val (.int p1), .val (.long q2), .second, .val (.ref va), .val (.long ls), .second, .val (.long gr), .second, .val (.long rg), .second, .val (.int fa), .val (.long mo), .second, .unset] [(.ref ra), (.ref a0)])) rfl rfl (hb hby d9_234)
      have F_wide_a0 : Fld Z h42 a0 "com/example/wadjet/wadjet/storage/IntegerChunk" "wide" "[I" (.ref ra) := F_wide_a0.same W42
      have E_a0 : Exa Z h42 a0 "com/example/wadjet/wadjet/storage/IntegerChunk" := E_a0.wr W42
      have F_width_a0 : Fld Z h42 a0 "com/example/wadjet/wadjet/storage/IntegerChunk" "width" "I" (.int (4 : Int32)) := F_width_a0.other W42 (Or.inr (slot_ne (Or.inl (hw _ (List.mem_of_getElem? (i := 15) rfl))) (Or.inl (hw _ (List.mem_of_getElem? (i := 63) rfl))) (by decide) (t := .int) (t' := (.array .int)) (by decide) (by decide)))
      have F_base_a0 : Fld Z h42 a0 "com/example/wadjet/wadjet/storage/IntegerChunk" "base" "J" (.long (0 : Int64)) := F_base_a0.other W42 (Or.inr (slot_ne (Or.inl (hw _ (List.mem_of_getElem? (i := 31) rfl))) (Or.inl (hw _ (List.mem_of_getElem? (i := 63) rfl))) (by decide) (t := .long) (t' := (.array .int)) (by decide) (by decide)))
      have F_based_a0 : Fld Z h42 a0 "com/example/wadjet/wadjet/storage/IntegerChunk" "based" "Z" u_based := F_based_a0.other W42 (Or.inr (slot_ne (Or.inl (hw _ (List.mem_of_getElem? (i := 29) rfl))) (Or.inl (hw _ (List.mem_of_getElem? (i := 63) rfl))) (by decide) (t := .boolean) (t' := (.array .int)) (by decide) (by decide)))
      have F_narrow_a0 : Fld Z h42 a0 "com/example/wadjet/wadjet/storage/IntegerChunk" "narrow" "[B" .null := F_narrow_a0.other W42 (Or.inr (slot_ne (Or.inl (hw _ (List.mem_of_getElem? (i := 18) rfl))) (Or.inl (hw _ (List.mem_of_getElem? (i := 63) rfl))) (by decide) (t := (.array .byte)) (t' := (.array .int)) (by decide) (by decide)))
      have F_middle_a0 : Fld Z h42 a0 "com/example/wadjet/wadjet/storage/IntegerChunk" "middle" "[C" .null := F_middle_a0.other W42 (Or.inr (slot_ne (Or.inl (hw _ (List.mem_of_getElem? (i := 61) rfl))) (Or.inl (hw _ (List.mem_of_getElem? (i := 63) rfl))) (by decide) (t := (.array .char)) (t' := (.array .int)) (by decide) (by decide)))
      have F_nulls_a0 : Fld Z h42 a0 "com/example/wadjet/wadjet/storage/IntegerChunk" "nulls" "[J" .null := F_nulls_a0.other W42 (Or.inr (slot_ne (Or.inl (hw _ (List.mem_of_getElem? (i := 37) rfl))) (Or.inl (hw _ (List.mem_of_getElem? (i := 63) rfl))) (by decide) (t := (.array .long)) (t' := (.array .int)) (by decide) (by decide)))
      have V_nr : Arv Z h42 nr kn .char nn (ys.map Value.int) (.int (0 : Int32)) := V_nr.other W42 ne_nr_a0
      have V_va : Arv Z h42 va k2 .long nn (zs.map Value.long) (.long (0 : Int64)) := V_va.other W42 (Ne.symm ne_a0_va)
      have V_ra : Arv Z h42 ra k41 .int nn ((List.replicate nn.toNatClampNeg (0 : Int32)).map Value.int) (.int (0 : Int32)) := V_ra.other W42 (Ne.symm ne_a0_ra)
      have Zh42 : n0 ≤ h42.size := Nat.le_trans Zh41 (Keep.of_wr W42).1
      have Kh42 : Keep h0 h42 [a0] := Kh41.wr W42 (Or.inl (by simp))
      have N42 := Fr.snoc X42 N38 g_a0
      obtain ⟨T43, h43, L43, X43, e43, N43, Kc43, E_a0, F_width_a0, F_base_a0, F_based_a0, F_narrow_a0, F_middle_a0, F_wide_a0, F_nulls_a0, V_ra, V_va, st43⟩ := lq4 a0 p1 q2 va ls gr rg mo fa u_based .null .null .null (0 : Int64) ra k41 nn k2 zs hx hZ hw hby hml hown g_ra ne_a0_ra ne_va_ra hn.2 nn.toNatClampNeg 0 (List.replicate nn.toNatClampNeg 0) X42 e42 N42 Zh42 E_a0 F_width_a0 F_base_a0 F_based_a0 F_narrow_a0 F_middle_a0 F_wide_a0 F_nulls_a0 V_ra V_va (by rw [own_tn]; omega) (by rw [List.length_replicate])
      have Zh43 : n0 ≤ h43.size := Nat.le_trans Zh42 Kc43.1
      have Kh43 : Keep h0 h43 [a0] := Kh42.trans Kc43 (allS (Or.inr sz_ra) all0)
      obtain ⟨fs, hr, hrun, hended, hW, hsame⟩ := X43.leave (v := none) (fun _ => rfl)
      refine ⟨_, _, pre0 _ ?_, hrun, hended, _, _, rfl, ?_, ⟨_, rfl⟩, hW, hsame.mono (by decide) (by decide)⟩
      · show Steps p.tables e below (s₁.setTop (mkF m 0 #[.val (.ref a0), .val (.int p1), .val (.long q2), .second, .unset, .unset, .unset, .unset, .unset, .unset, .unset, .unset, .unset, .unset, .unset] [])) _
        refine XS.aloadN X0.here hx rfl (hb hby d9_0) rfl rfl ?_
        refine st1.trans ?_
        show Steps p.tables e below (T1.setTop (mkF m 4 #[.val (.ref a0), .val (.int p1), .val (.long q2), .second, .unset, .unset, .unset, .unset, .unset, .unset, .unset, .unset, .unset, .unset, .unset] [(.int nn)])) _
        refine st2 _ ?_
        show Steps p.tables e below (T2.setTop (mkF m 6 #[.val (.ref a0), .val (.int p1), .val (.long q2), .second, .unset, .unset, .unset, .unset, .unset, .unset, .unset, .unset, .unset, .unset, .unset] [(.ref va)])) _
        refine XS.astore X2.here hx rfl (hb hby d9_6) rfl rfl (l' := #[.val (.ref a0), .val (.int p1), .val (.long q2), .second, .val (.ref va), .unset, .unset, .unset, .unset, .unset, .unset, .unset, .unset, .unset, .unset]) rfl ?_
        refine XS.lloadN X2.here hx rfl (hb hby d9_8) rfl ?_
        refine XS.lstore X2.here hx rfl (hb hby d9_9) rfl (l' := #[.val (.ref a0), .val (.int p1), .val (.long q2), .second, .val (.ref va), .val (.long q2), .second, .unset, .unset, .unset, .unset, .unset, .unset, .unset, .unset]) rfl ?_
        refine XS.lloadN X2.here hx rfl (hb hby d9_11) rfl ?_
        show Steps p.tables e below (T2.setTop (mkF m 12 #[.val (.ref a0), .val (.int p1), .val (.long q2), .second, .val (.ref va), .val (.long q2), .second, .unset, .unset, .unset, .unset, .unset, .unset, .unset, .unset] [(.long q2)])) _
        refine XS.lstore X2.here hx rfl (hb hby d9_12) rfl (l' := #[.val (.ref a0), .val (.int p1), .val (.long q2), .second, .val (.ref va), .val (.long q2), .second, .val (.long q2), .second, .unset, .unset, .unset, .unset, .unset, .unset]) rfl ?_
        refine XS.iconst X2.here hx rfl (hb hby d9_14) ?_
        refine XS.istore X2.here hx rfl (hb hby d9_15) rfl (l' := #[.val (.ref a0), .val (.int p1), .val (.long q2), .second, .val (.ref va), .val (.long q2), .second, .val (.long q2), .second, .val (.int (0 : Int32)), .unset, .unset, .unset, .unset, .unset]) rfl ?_
        refine st3 _ ?_
        show Steps p.tables e below (T3.setTop (mkF m 76 #[.val (.ref a0), .val (.int p1), .val (.long q2), .second, .val (.ref va), .val (.long ls), .second, .val (.long gr), .second, .val (.int (Int32.ofNat (0 + nn.toNatClampNeg))), .unset, .unset, .unset, .unset, .unset] [])) _
        refine XS.lload X3.here hx rfl (hb hby d9_76) rfl ?_
        refine XS.lload X3.here hx rfl (hb hby d9_78) rfl ?_
        refine XS.lsub X3.here hx rfl (hb hby d9_80) rfl ?_
        show Steps p.tables e below (T3.setTop (mkF m 81 #[.val (.ref a0), .val (.int p1), .val (.long q2), .second, .val (.ref va), .val (.long ls), .second, .val (.long gr), .second, .val (.int (Int32.ofNat (0 + nn.toNatClampNeg))), .unset, .unset, .unset, .unset, .unset] [(.long (gr - ls))])) _
        rw [← h_rg]
        show Steps p.tables e below (T3.setTop (mkF m 81 #[.val (.ref a0), .val (.int p1), .val (.long q2), .second, .val (.ref va), .val (.long ls), .second, .val (.long gr), .second, .val (.int (Int32.ofNat (0 + nn.toNatClampNeg))), .unset, .unset, .unset, .unset, .unset] [(.long rg)])) _
        refine XS.lstore X3.here hx rfl (hb hby d9_81) rfl (l' := #[.val (.ref a0), .val (.int p1), .val (.long q2), .second, .val (.ref va), .val (.long ls), .second, .val (.long gr), .second, .val (.long rg), .second, .unset, .unset, .unset, .unset]) rfl ?_
        refine XS.lloadN X3.here hx rfl (hb hby d9_83) rfl ?_
        refine XS.aloadN X3.here hx rfl (hb hby d9_84) rfl rfl ?_
        refine st4 _ ?_
        show Steps p.tables e below (T4.setTop (mkF m 88 #[.val (.ref a0), .val (.int p1), .val (.long q2), .second, .val (.ref va), .val (.long ls), .second, .val (.long gr), .second, .val (.long rg), .second, .unset, .unset, .unset, .unset] [(.long bb), (.long q2)])) _
        refine XS.lcmp X4.here hx rfl (hb hby d9_88) rfl ?_
        refine own_via (T4.setTop (mkF m 97 #[.val (.ref a0), .val (.int p1), .val (.long q2), .second, .val (.ref va), .val (.long ls), .second, .val (.long gr), .second, .val (.long rg), .second, .unset, .unset, .unset, .unset] [(.int (if q2 < bb then (1 : Int32) else (0 : Int32)))])) (fun k => ?_) ?_
        · by_cases hc89 : q2 < bb
          · show Steps p.tables e below (T4.setTop (mkF m 89 #[.val (.ref a0), .val (.int p1), .val (.long q2), .second, .val (.ref va), .val (.long ls), .second, .val (.long gr), .second, .val (.long rg), .second, .unset, .unset, .unset, .unset] [(.int (lcmpW q2 bb))])) _
            refine XS.ifNo X4.here hx rfl (hb hby d9_89) rfl ((if0 _ _).trans (tlt ((lw_lt _ _).mpr hc89)).2.1) ?_
            refine XS.iconst X4.here hx rfl (hb hby d9_92) ?_
            refine XS.goto X4.here hx rfl (pc0 := 93) (pc' := 97) rfl (hb hby d9_93) (by decide) (by decide) ?_
            try simp only [if_pos hc89] at k
            exact k
          · show Steps p.tables e below (T4.setTop (mkF m 89 #[.val (.ref a0), .val (.int p1), .val (.long q2), .second, .val (.ref va), .val (.long ls), .second, .val (.long gr), .second, .val (.long rg), .second, .unset, .unset, .unset, .unset] [(.int (lcmpW q2 bb))])) _
            refine XS.ifYes X4.here hx rfl (pc0 := 89) (pc' := 96) rfl (hb hby d9_89) rfl ((if0 _ _).trans (flt (mt (lw_lt _ _).mp hc89)).2.1) (by decide) (by decide) ?_
            show Steps p.tables e below (T4.setTop (mkF m 96 #[.val (.ref a0), .val (.int p1), .val (.long q2), .second, .val (.ref va), .val (.long ls), .second, .val (.long gr), .second, .val (.long rg), .second, .unset, .unset, .unset, .unset] [])) _
            refine XS.iconst X4.here hx rfl (hb hby d9_96) ?_
            try simp only [if_neg hc89] at k
            exact k
        show Steps p.tables e below (T4.setTop (mkF m 97 #[.val (.ref a0), .val (.int p1), .val (.long q2), .second, .val (.ref va), .val (.long ls), .second, .val (.long gr), .second, .val (.long rg), .second, .unset, .unset, .unset, .unset] [(.int (if q2 < bb then (1 : Int32) else (0 : Int32)))])) _
        rw [← h_fa]
        show Steps p.tables e below (T4.setTop (mkF m 97 #[.val (.ref a0), .val (.int p1), .val (.long q2), .second, .val (.ref va), .val (.long ls), .second, .val (.long gr), .second, .val (.long rg), .second, .unset, .unset, .unset, .unset] [(.int fa)])) _
        refine XS.istore X4.here hx rfl (hb hby d9_97) rfl (l' := #[.val (.ref a0), .val (.int p1), .val (.long q2), .second, .val (.ref va), .val (.long ls), .second, .val (.long gr), .second, .val (.long rg), .second, .val (.int fa), .unset, .unset, .unset]) rfl ?_
        refine XS.aloadN X4.here hx rfl (hb hby d9_99) rfl rfl ?_
        show Steps p.tables e below (T4.setTop (mkF m 100 #[.val (.ref a0), .val (.int p1), .val (.long q2), .second, .val (.ref va), .val (.long ls), .second, .val (.long gr), .second, .val (.long rg), .second, .val (.int fa), .unset, .unset, .unset] [(.ref a0)])) _
        refine XS.lload X4.here hx rfl (hb hby d9_100) rfl ?_
        refine X4.ldc2Long hx hown (mvT hZ (hw _ (List.mem_of_getElem? (i := 59) rfl))) (g := (mkF m 102 #[.val (.ref a0), .val (.int p1), .val (.long q2), .second, .val (.ref va), .val (.long ls), .second, .val (.long gr), .second, .val (.long rg), .second, .val (.int fa), .unset, .unset, .unset] [(.long rg), (.ref a0)])) rfl (hb hby d9_102) _ ?_
        show Steps p.tables e below (T4.setTop (mkF m 105 #[.val (.ref a0), .val (.int p1), .val (.long q2), .second, .val (.ref va), .val (.long ls), .second, .val (.long gr), .second, .val (.long rg), .second, .val (.int fa), .unset, .unset, .unset] [(.long (256 : Int64)), (.long rg), (.ref a0)])) _
        refine XS.lcmp X4.here hx rfl (hb hby d9_105) rfl ?_
        refine XS.ifYes X4.here hx rfl (pc0 := 106) (pc' := 113) rfl (hb hby d9_106) rfl ((if0 _ _).trans (flt (mt (lw_lt _ _).mp hc106)).2.1) (by decide) (by decide) ?_
        show Steps p.tables e below (T4.setTop (mkF m 113 #[.val (.ref a0), .val (.int p1), .val (.long q2), .second, .val (.ref va), .val (.long ls), .second, .val (.long gr), .second, .val (.long rg), .second, .val (.int fa), .unset, .unset, .unset] [(.ref a0)])) _
        refine XS.lload X4.here hx rfl (hb hby d9_113) rfl ?_
        refine X4.ldc2Long hx hown (mvT hZ (hw _ (List.mem_of_getElem? (i := 96) rfl))) (g := (mkF m 115 #[.val (.ref a0), .val (.int p1), .val (.long q2), .second, .val (.ref va), .val (.long ls), .second, .val (.long gr), .second, .val (.long rg), .second, .val (.int fa), .unset, .unset, .unset] [(.long rg), (.ref a0)])) rfl (hb hby d9_115) _ ?_
        show Steps p.tables e below (T4.setTop (mkF m 118 #[.val (.ref a0), .val (.int p1), .val (.long q2), .second, .val (.ref va), .val (.long ls), .second, .val (.long gr), .second, .val (.long rg), .second, .val (.int fa), .unset, .unset, .unset] [(.long (65536 : Int64)), (.long rg), (.ref a0)])) _
        refine XS.lcmp X4.here hx rfl (hb hby d9_118) rfl ?_
        refine XS.ifYes X4.here hx rfl (pc0 := 119) (pc' := 126) rfl (hb hby d9_119) rfl ((if0 _ _).trans (flt (mt (lw_lt _ _).mp hc119)).2.1) (by decide) (by decide) ?_
        show Steps p.tables e below (T4.setTop (mkF m 126 #[.val (.ref a0), .val (.int p1), .val (.long q2), .second, .val (.ref va), .val (.long ls), .second, .val (.long gr), .second, .val (.long rg), .second, .val (.int fa), .unset, .unset, .unset] [(.ref a0)])) _
        refine XS.iconst X4.here hx rfl (hb hby d9_126) ?_
        refine st31 _ ?_
        show Steps p.tables e below (T31.setTop (mkF m 130 #[.val (.ref a0), .val (.int p1), .val (.long q2), .second, .val (.ref va), .val (.long ls), .second, .val (.long gr), .second, .val (.long rg), .second, .val (.int fa), .unset, .unset, .unset] [])) _
        refine XS.lconst X31.here hx rfl (hb hby d9_130) ?_
        refine XS.bipush X31.here hx rfl (hb hby d9_131) ?_
        show Steps p.tables e below (T31.setTop (mkF m 133 #[.val (.ref a0), .val (.int p1), .val (.long q2), .second, .val (.ref va), .val (.long ls), .second, .val (.long gr), .second, .val (.long rg), .second, .val (.int fa), .unset, .unset, .unset] [(.int (8 : Int32)), (.long (1 : Int64))])) _
        refine XS.aloadN X31.here hx rfl (hb hby d9_133) rfl rfl ?_
        refine st32 _ ?_
        show Steps p.tables e below (T32.setTop (mkF m 137 #[.val (.ref a0), .val (.int p1), .val (.long q2), .second, .val (.ref va), .val (.long ls), .second, .val (.long gr), .second, .val (.long rg), .second, .val (.int fa), .unset, .unset, .unset] [(.int (4 : Int32)), (.int (8 : Int32)), (.long (1 : Int64))])) _
        refine XS.imul X32.here hx rfl (hb hby d9_137) rfl ?_
        refine XS.lshl X32.here hx rfl (hb hby d9_138) rfl ?_
        show Steps p.tables e below (T32.setTop (mkF m 139 #[.val (.ref a0), .val (.int p1), .val (.long q2), .second, .val (.ref va), .val (.long ls), .second, .val (.long gr), .second, .val (.long rg), .second, .val (.int fa), .unset, .unset, .unset] [(.long ((1 : Int64) <<< (((8 : Int32) * (4 : Int32)) &&& 0x3f).toInt64))])) _
        refine XS.lconst X32.here hx rfl (hb hby d9_139) ?_
        refine XS.lsub X32.here hx rfl (hb hby d9_140) rfl ?_
        show Steps p.tables e below (T32.setTop (mkF m 141 #[.val (.ref a0), .val (.int p1), .val (.long q2), .second, .val (.ref va), .val (.long ls), .second, .val (.long gr), .second, .val (.long rg), .second, .val (.int fa), .unset, .unset, .unset] [(.long (((1 : Int64) <<< (((8 : Int32) * (4 : Int32)) &&& 0x3f).toInt64) - (1 : Int64)))])) _
        rw [← h_mo]
        show Steps p.tables e below (T32.setTop (mkF m 141 #[.val (.ref a0), .val (.int p1), .val (.long q2), .second, .val (.ref va), .val (.long ls), .second, .val (.long gr), .second, .val (.long rg), .second, .val (.int fa), .unset, .unset, .unset] [(.long mo)])) _
        refine XS.lstore X32.here hx rfl (hb hby d9_141) rfl (l' := #[.val (.ref a0), .val (.int p1), .val (.long q2), .second, .val (.ref va), .val (.long ls), .second, .val (.long gr), .second, .val (.long rg), .second, .val (.int fa), .val (.long mo), .second, .unset]) rfl ?_
        show Steps p.tables e below (T32.setTop (mkF m 143 #[.val (.ref a0), .val (.int p1), .val (.long q2), .second, .val (.ref va), .val (.long ls), .second, .val (.long gr), .second, .val (.long rg), .second, .val (.int fa), .val (.long mo), .second, .unset] [])) _
        refine XS.aloadN X32.here hx rfl (hb hby d9_143) rfl rfl ?_
        refine XS.aloadN X32.here hx rfl (hb hby d9_144) rfl rfl ?_
        refine st33 _ ?_
        show Steps p.tables e below (T33.setTop (mkF m 148 #[.val (.ref a0), .val (.int p1), .val (.long q2), .second, .val (.ref va), .val (.long ls), .second, .val (.long gr), .second, .val (.long rg), .second, .val (.int fa), .val (.long mo), .second, .unset] [(.int (4 : Int32)), (.ref a0)])) _
        refine XS.iconst X33.here hx rfl (hb hby d9_148) ?_
        show Steps p.tables e below (T33.setTop (mkF m 149 #[.val (.ref a0), .val (.int p1), .val (.long q2), .second, .val (.ref va), .val (.long ls), .second, .val (.long gr), .second, .val (.long rg), .second, .val (.int fa), .val (.long mo), .second, .unset] [(.int (4 : Int32)), (.int (4 : Int32)), (.ref a0)])) _
        refine XS.icmpNo X33.here hx rfl (hb hby d9_149) rfl (teq (by decide : (4 : Int32) = (4 : Int32))).2 ?_
        refine XS.lconst X33.here hx rfl (hb hby d9_152) ?_
        refine XS.goto X33.here hx rfl (pc0 := 153) (pc' := 171) rfl (hb hby d9_153) (by decide) (by decide) ?_
        show Steps p.tables e below (T33.setTop (mkF m 171 #[.val (.ref a0), .val (.int p1), .val (.long q2), .second, .val (.ref va), .val (.long ls), .second, .val (.long gr), .second, .val (.long rg), .second, .val (.int fa), .val (.long mo), .second, .unset] [(.long (0 : Int64)), (.ref a0)])) _
        refine st34 _ ?_
        show Steps p.tables e below (T34.setTop (mkF m 174 #[.val (.ref a0), .val (.int p1), .val (.long q2), .second, .val (.ref va), .val (.long ls), .second, .val (.long gr), .second, .val (.long rg), .second, .val (.int fa), .val (.long mo), .second, .unset] [])) _
        refine XS.aloadN X34.here hx rfl (hb hby d9_174) rfl rfl ?_
        refine XS.aloadN X34.here hx rfl (hb hby d9_175) rfl rfl ?_
        refine st35 _ ?_
        show Steps p.tables e below (T35.setTop (mkF m 179 #[.val (.ref a0), .val (.int p1), .val (.long q2), .second, .val (.ref va), .val (.long ls), .second, .val (.long gr), .second, .val (.long rg), .second, .val (.int fa), .val (.long mo), .second, .unset] [(.int (4 : Int32)), (.ref a0)])) _
        refine XS.iconst X35.here hx rfl (hb hby d9_179) ?_
        show Steps p.tables e below (T35.setTop (mkF m 180 #[.val (.ref a0), .val (.int p1), .val (.long q2), .second, .val (.ref va), .val (.long ls), .second, .val (.long gr), .second, .val (.long rg), .second, .val (.int fa), .val (.long mo), .second, .unset] [(.int (1 : Int32)), (.int (4 : Int32)), (.ref a0)])) _
        refine XS.icmpYes X35.here hx rfl (pc0 := 180) (pc' := 191) rfl (hb hby d9_180) rfl (feq (by decide : ¬ ((4 : Int32) = (1 : Int32)))).2 (by decide) (by decide) ?_
        show Steps p.tables e below (T35.setTop (mkF m 191 #[.val (.ref a0), .val (.int p1), .val (.long q2), .second, .val (.ref va), .val (.long ls), .second, .val (.long gr), .second, .val (.long rg), .second, .val (.int fa), .val (.long mo), .second, .unset] [(.ref a0)])) _
        refine XS.aconstNull X35.here hx rfl (hb hby d9_191) ?_
        refine st36 _ ?_
        show Steps p.tables e below (T36.setTop (mkF m 195 #[.val (.ref a0), .val (.int p1), .val (.long q2), .second, .val (.ref va), .val (.long ls), .second, .val (.long gr), .second, .val (.long rg), .second, .val (.int fa), .val (.long mo), .second, .unset] [])) _
        refine XS.aloadN X36.here hx rfl (hb hby d9_195) rfl rfl ?_
        show Steps p.tables e below (T36.setTop (mkF m 196 #[.val (.ref a0), .val (.int p1), .val (.long q2), .second, .val (.ref va), .val (.long ls), .second, .val (.long gr), .second, .val (.long rg), .second, .val (.int fa), .val (.long mo), .second, .unset] [(.ref a0)])) _
        refine XS.aloadN X36.here hx rfl (hb hby d9_196) rfl rfl ?_
        refine st37 _ ?_
        show Steps p.tables e below (T37.setTop (mkF m 200 #[.val (.ref a0), .val (.int p1), .val (.long q2), .second, .val (.ref va), .val (.long ls), .second, .val (.long gr), .second, .val (.long rg), .second, .val (.int fa), .val (.long mo), .second, .unset] [(.int (4 : Int32)), (.ref a0)])) _
        refine XS.iconst X37.here hx rfl (hb hby d9_200) ?_
        refine XS.icmpYes X37.here hx rfl (pc0 := 201) (pc' := 212) rfl (hb hby d9_201) rfl (feq (by decide : ¬ ((4 : Int32) = (2 : Int32)))).2 (by decide) (by decide) ?_
        show Steps p.tables e below (T37.setTop (mkF m 212 #[.val (.ref a0), .val (.int p1), .val (.long q2), .second, .val (.ref va), .val (.long ls), .second, .val (.long gr), .second, .val (.long rg), .second, .val (.int fa), .val (.long mo), .second, .unset] [(.ref a0)])) _
        refine XS.aconstNull X37.here hx rfl (hb hby d9_212) ?_
        refine st38 _ ?_
        show Steps p.tables e below (T38.setTop (mkF m 216 #[.val (.ref a0), .val (.int p1), .val (.long q2), .second, .val (.ref va), .val (.long ls), .second, .val (.long gr), .second, .val (.long rg), .second, .val (.int fa), .val (.long mo), .second, .unset] [])) _
        refine XS.aloadN X38.here hx rfl (hb hby d9_216) rfl rfl ?_
        refine XS.aloadN X38.here hx rfl (hb hby d9_217) rfl rfl ?_
        show Steps p.tables e below (T38.setTop (mkF m 218 #[.val (.ref a0), .val (.int p1), .val (.long q2), .second, .val (.ref va), .val (.long ls), .second, .val (.long gr), .second, .val (.long rg), .second, .val (.int fa), .val (.long mo), .second, .unset] [(.ref a0), (.ref a0)])) _
        refine st39 _ ?_
        show Steps p.tables e below (T39.setTop (mkF m 221 #[.val (.ref a0), .val (.int p1), .val (.long q2), .second, .val (.ref va), .val (.long ls), .second, .val (.long gr), .second, .val (.long rg), .second, .val (.int fa), .val (.long mo), .second, .unset] [(.int (4 : Int32)), (.ref a0)])) _
        refine XS.iconst X39.here hx rfl (hb hby d9_221) ?_
        refine XS.icmpNo X39.here hx rfl (hb hby d9_222) rfl (teq (by decide : (4 : Int32) = (4 : Int32))).2 ?_
        refine XS.aload X39.here hx rfl (hb hby d9_225) rfl rfl ?_
        show Steps p.tables e below (T39.setTop (mkF m 227 #[.val (.ref a0), .val (.int p1), .val (.long q2), .second, .val (.ref va), .val (.long ls), .second, .val (.long gr), .second, .val (.long rg), .second, .val (.int fa), .val (.long mo), .second, .unset] [(.ref va), (.ref a0)])) _
        refine X39.arraylength hx (by rw [e39]; exact Ar40.1) (State.isArrayOf_alike hZ.alike Ar40.2.1) (g := (mkF m 227 #[.val (.ref a0), .val (.int p1), .val (.long q2), .second, .val (.ref va), .val (.long ls), .second, .val (.long gr), .second, .val (.long rg), .second, .val (.int fa), .val (.long mo), .second, .unset] [(.ref va), (.ref a0)])) rfl rfl (hb hby d9_227) _ ?_
        rw [len_of SS40 MM40]
        show Steps p.tables e below (T39.setTop (mkF m 228 #[.val (.ref a0), .val (.int p1), .val (.long q2), .second, .val (.ref va), .val (.long ls), .second, .val (.long gr), .second, .val (.long rg), .second, .val (.int fa), .val (.long mo), .second, .unset] [(.int nn), (.ref a0)])) _
        refine st41 _ ?_
        show Steps p.tables e below (T41.setTop (mkF m 230 #[.val (.ref a0), .val (.int p1), .val (.long q2), .second, .val (.ref va), .val (.long ls), .second, .val (.long gr), .second, .val (.long rg), .second, .val (.int fa), .val (.long mo), .second, .unset] [(.ref ra), (.ref a0)])) _
        refine XS.goto X41.here hx rfl (pc0 := 230) (pc' := 234) rfl (hb hby d9_230) (by decide) (by decide) ?_
        show Steps p.tables e below (T41.setTop (mkF m 234 #[.val (.ref a0), .val (.int p1), .val (.long q2), .second, .val (.ref va), .val (.long ls), .second, .val (.long gr), .second, .val (.long rg), .second, .val (.int fa), .val (.long mo), .second, .unset] [(.ref ra), (.ref a0)])) _
        refine st42 _ ?_
        show Steps p.tables e below (T42.setTop (mkF m 237 #[.val (.ref a0), .val (.int p1), .val (.long q2), .second, .val (.ref va), .val (.long ls), .second, .val (.long gr), .second, .val (.long rg), .second, .val (.int fa), .val (.long mo), .second, .unset] [])) _
        refine XS.iconst X42.here hx rfl (hb hby d9_237) ?_
        refine XS.istore X42.here hx rfl (hb hby d9_238) rfl (l' := #[.val (.ref a0), .val (.int p1), .val (.long q2), .second, .val (.ref va), .val (.long ls), .second, .val (.long gr), .second, .val (.long rg), .second, .val (.int fa), .val (.long mo), .second, .val (.int (0 : Int32))]) rfl ?_
        refine st43 _ ?_
        show Steps p.tables e below (T43.setTop (mkF m 327 #[.val (.ref a0), .val (.int p1), .val (.long q2), .second, .val (.ref va), .val (.long ls), .second, .val (.long gr), .second, .val (.long rg), .second, .val (.int fa), .val (.long mo), .second, .val (.int (Int32.ofNat (0 + nn.toNatClampNeg)))] [])) _
        exact X43.returnOut hx Bd.returns (hb hby d9_327) hr
      · show Qwd Z a0 p1 q2 (2 : Int32) bb u_based nn ys h0 n0 _ T43.heap _
        rw [e43]
        exact ⟨rfl, N43, Kh43.1, _, _, _, ⟨_, ls, gr, zs, rfl, h_ls, h_gr, h_zs, Or.inr (Or.inr ⟨rfl, rfl, rfl⟩)⟩, g_a0, E_a0, _, _, _, _, _, g_ra, (Ne.symm ne_a0_ra), F_width_a0, F_base_a0, F_based_a0, F_narrow_a0, F_middle_a0, F_wide_a0, F_nulls_a0, Or.inr (Or.inr ⟨rfl, rfl, V_ra⟩)⟩
theorem own_growall : ∀ k : Fin 8, 4 ≤ k.1 → (own_grow 4 (Int32.ofNat k.1)).toInt = 8 := by decide +kernel
theorem own_growb {nn z : Int32} (hp : 0 ≤ z.toInt ∧ z.toInt < 8) (hN : nn.toInt = 4 ∨ nn.toInt = 8) (h : ¬ (z < nn)) : 4 ≤ z.toInt ∧ nn.toInt = 4 ∧ (own_grow nn z).toInt = 8 := by
  rw [Int32.lt_iff_toInt_lt] at h
  have e4 : (4 : Int32).toInt = 4 := by decide
  have hc : nn = 4 := by apply Int32.toInt_inj.mp; omega
  subst hc
  have hz : z = Int32.ofNat z.toInt.toNat := by
    apply Int32.toInt_inj.mp
    rw [own_nat8 (by omega)]; omega
  have g := own_growall ⟨z.toInt.toNat, by omega⟩ (by show 4 ≤ z.toInt.toNat; omega)
  rw [← hz] at g
  exact ⟨by omega, e4, g⟩

def own_i64 (x : Int64) : Prop := -(2 ^ 31 : Int) ≤ x.toInt ∧ x.toInt < (2 ^ 31 : Int)
theorem own_mn_i (a b : Int64) : (own_mn a b).toInt = min a.toInt b.toInt := by
  unfold own_mn
  by_cases h : b < a
  · rw [if_pos h]; rw [Int64.lt_iff_toInt_lt] at h; omega
  · rw [if_neg h]; rw [Int64.lt_iff_toInt_lt] at h; omega
theorem own_mx_i (a b : Int64) : (own_mx a b).toInt = max a.toInt b.toInt := by
  unfold own_mx
  by_cases h : a < b
  · rw [if_pos h]; rw [Int64.lt_iff_toInt_lt] at h; omega
  · rw [if_neg h]; rw [Int64.lt_iff_toInt_lt] at h; omega
theorem own_rl_s (X : Nat → Int64) (lo : Int) : ∀ (t i : Nat) (a : Int64), lo ≤ a.toInt → (∀ j, i ≤ j → j < i + t → lo ≤ (X j).toInt) →
    lo ≤ (own_rl X t i a).toInt ∧ (own_rl X t i a).toInt ≤ a.toInt ∧ ∀ j, i ≤ j → j < i + t → (own_rl X t i a).toInt ≤ (X j).toInt := by
  intro t
  induction t with
  | zero => intro i a h1 _; exact ⟨h1, Int.le_refl _, fun j h2 h3 => by omega⟩
  | succ t ih =>
    intro i a h1 h2
    have hi := h2 i (Nat.le_refl _) (by omega)
    have hm := own_mn_i a (X i)
    have r := ih (i + 1) (own_mn a (X i)) (by omega) (fun j h3 h4 => h2 j (by omega) (by omega))
    refine ⟨r.1, by have := r.2.1; simp only [own_rl]; omega, fun j h3 h4 => ?_⟩
    simp only [own_rl]
    by_cases e : j = i
    · subst e; have := r.2.1; omega
    · exact r.2.2 j (by omega) (by omega)
theorem own_rg_s (X : Nat → Int64) (hi : Int) : ∀ (t i : Nat) (a : Int64), a.toInt ≤ hi → (∀ j, i ≤ j → j < i + t → (X j).toInt ≤ hi) →
    (own_rg X t i a).toInt ≤ hi ∧ a.toInt ≤ (own_rg X t i a).toInt ∧ ∀ j, i ≤ j → j < i + t → (X j).toInt ≤ (own_rg X t i a).toInt := by
  intro t
  induction t with
  | zero => intro i a h1 _; exact ⟨h1, Int.le_refl _, fun j h2 h3 => by omega⟩
  | succ t ih =>
    intro i a h1 h2
    have hi := h2 i (Nat.le_refl _) (by omega)
    have hm := own_mx_i a (X i)
    have r := ih (i + 1) (own_mx a (X i)) (by omega) (fun j h3 h4 => h2 j (by omega) (by omega))
    refine ⟨r.1, by have := r.2.1; simp only [own_rg]; omega, fun j h3 h4 => ?_⟩
    simp only [own_rg]
    by_cases e : j = i
    · subst e; have := r.2.1; omega
    · exact r.2.2 j (by omega) (by omega)
theorem own_rz_s (X : Nat → Int64) : ∀ (t i : Nat) (zs : List Int64), i + t ≤ zs.length → ∀ j, (own_rz X t i zs).getD j 0 = if i ≤ j ∧ j < i + t then X j else zs.getD j 0 := by
  intro t
  induction t with
  | zero => intro i zs _ j; rw [if_neg (by omega)]; rfl
  | succ t ih =>
    intro i zs h j
    simp only [own_rz]
    rw [ih (i + 1) (zs.set i (X i)) (by rw [List.length_set]; omega) j, own_sgl]
    by_cases e : i = j
    · subst e; rw [if_neg (by omega), if_pos ⟨rfl, by omega⟩, if_pos (by omega)]
    · rw [if_neg (c := i = j ∧ j < zs.length) (by omega)]
      by_cases e2 : i + 1 ≤ j ∧ j < i + 1 + t
      · rw [if_pos e2, if_pos (by omega)]
      · rw [if_neg e2, if_neg (by omega)]
theorem own_rw_s (f : Nat → Int32) : ∀ (t i : Nat) (zs : List Int32), i + t ≤ zs.length → (own_rw f t i zs).length = zs.length ∧ ∀ j, (own_rw f t i zs).getD j 0 = if i ≤ j ∧ j < i + t then f j else zs.getD j 0 := by
  intro t
  induction t with
  | zero => intro i zs _; refine ⟨rfl, fun j => ?_⟩; rw [if_neg (by omega)]; rfl
  | succ t ih =>
    intro i zs h
    have r := ih (i + 1) (zs.set i (f i)) (by rw [List.length_set]; omega)
    rw [List.length_set] at r
    simp only [own_rw]
    refine ⟨r.1, fun j => ?_⟩
    rw [r.2 j, own_sgi]
    by_cases e : i = j
    · subst e; rw [if_neg (by omega), if_pos ⟨rfl, by omega⟩, if_pos (by omega)]
    · rw [if_neg (c := i = j ∧ j < zs.length) (by omega)]
      by_cases e2 : i + 1 ≤ j ∧ j < i + 1 + t
      · rw [if_pos e2, if_pos (by omega)]
      · rw [if_neg e2, if_neg (by omega)]
theorem own_b64 {x : Int} (h1 : -(2 ^ 63 : Int) ≤ x) (h2 : x < (2 ^ 63 : Int)) : x.bmod (2 ^ 64) = x := by
  apply Int.bmod_eq_of_le_mul_two <;> omega
theorem own_sub64 {x y : Int64} (h1 : -(2 ^ 63 : Int) ≤ x.toInt - y.toInt) (h2 : x.toInt - y.toInt < (2 ^ 63 : Int)) : (x - y).toInt = x.toInt - y.toInt := by
  rw [Int64.toInt_sub]; exact own_b64 h1 h2
theorem own_add64 {x y : Int64} (h1 : -(2 ^ 63 : Int) ≤ x.toInt + y.toInt) (h2 : x.toInt + y.toInt < (2 ^ 63 : Int)) : (x + y).toInt = x.toInt + y.toInt := by
  rw [Int64.toInt_add]; exact own_b64 h1 h2
theorem own_asc (b x : Int64) : b + (x - b) = x := by rw [Int64.add_comm, Int64.sub_add_cancel]
theorem own_t32 {x : Int64} (h : own_i64 x) : x.toInt32.toInt64 = x := by
  unfold own_i64 at h
  apply Int64.toInt_inj.mp
  rw [Int32.toInt_toInt64, Int64.toInt_toInt32]
  apply Int.bmod_eq_of_le_mul_two <;> omega
theorem own_r32 (y : Int32) : own_i64 y.toInt64 := by
  unfold own_i64; rw [Int32.toInt_toInt64]
  have h1 := y.le_toInt
  have h2 := y.toInt_lt
  omega
theorem own_k64 {d : Int64} {n : Nat} (hn : n ≤ 65536) (h1 : 0 ≤ d.toInt) (h2 : d.toInt < n) : ∃ k : Nat, k < n ∧ d = Int64.ofNat k := by
  refine ⟨d.toInt.toNat, by omega, ?_⟩
  apply Int64.toInt_inj.mp
  rw [Int64.toInt_ofNat_of_lt (by omega)]
  omega
theorem own_e1 : ∀ k : Fin 256, ((nar .byte (((Int64.ofNat k.1).toInt32).toInt8.toInt32)) &&& (255 : Int32)).toInt64 = Int64.ofNat k.1 := by decide +kernel
theorem own_rde1 {b x : Int64} (h1 : 0 ≤ x.toInt - b.toInt) (h2 : x.toInt - b.toInt < 256) : own_rd (1 : Int32) b (own_en1 b x) = x := by
  have e := own_sub64 (x := x) (y := b) (by omega) (by omega)
  obtain ⟨k, hk, ek⟩ := own_k64 (d := x - b) (n := 256) (by omega) (by omega) (by omega)
  rw [own_rd1]
  unfold own_en1
  rw [ek, own_e1 ⟨k, hk⟩, ← ek, own_asc]
theorem own_e2 {k : Nat} (h : k < 65536) : (nar .char (((Int64.ofNat k).toInt32).toUInt32.toUInt16.toUInt32.toInt32)).toInt64 = Int64.ofNat k := by
  have h0 : ∀ u : UInt16, (u.toUInt32.toInt32).toInt = u.toNat := fun u => by
    have hu := u.toNat_lt
    show ((u.toUInt32).toBitVec).toInt = _
    have hm : (u.toUInt32).toBitVec.toNat = u.toNat := by
      show (u.toUInt32).toNat = _
      simp
    rw [BitVec.toInt_eq_toNat_cond, hm, if_pos (by omega)]
  have e1 : ((Int64.ofNat k).toInt32).toUInt32.toUInt16.toNat = k := by
    rw [Int64.toInt32_ofNat']
    show (UInt32.toUInt16 ((Int32.ofNat k).toUInt32)).toNat = k
    rw [UInt32.toNat_toUInt16]
    show ((BitVec.ofNat 32 k).toNat) % 65536 = k
    rw [BitVec.toNat_ofNat]; omega
  have e2 : ((Int64.ofNat k).toInt32).toUInt32.toUInt16.toUInt32.toInt32.toUInt32.toUInt16.toUInt32.toInt32 = ((Int64.ofNat k).toInt32).toUInt32.toUInt16.toUInt32.toInt32 := by
    simp
  apply Int64.toInt_inj.mp
  rw [Int32.toInt_toInt64, Int64.toInt_ofNat_of_lt (by omega)]
  show (((Int64.ofNat k).toInt32).toUInt32.toUInt16.toUInt32.toInt32.toUInt32.toUInt16.toUInt32.toInt32).toInt = _
  rw [e2, h0, e1]
theorem own_rde2 {b x : Int64} (h1 : 0 ≤ x.toInt - b.toInt) (h2 : x.toInt - b.toInt < 65536) : own_rd (2 : Int32) b (own_en2 b x) = x := by
  have e := own_sub64 (x := x) (y := b) (by omega) (by omega)
  obtain ⟨k, hk, ek⟩ := own_k64 (d := x - b) (n := 65536) (by omega) (by omega) (by omega)
  rw [own_rd2]
  unfold own_en2
  rw [ek, own_e2 hk, ← ek, own_asc]
theorem own_rde4 {b x : Int64} (h : own_i64 x) : own_rd (4 : Int32) b (own_en4 b x) = x := by rw [own_rd4]; exact own_t32 h

def own_en (w : Int32) (b v : Int64) : Int32 := if w = (1 : Int32) then own_en1 b v else if w = (2 : Int32) then own_en2 b v else own_en4 b v
def own_inv (m : Nat) (w : Int32) (b : Int64) (N : Int32) (ys : List Int32) : Prop :=
  (w = 1 ∨ w = 2 ∨ w = 4) ∧ (N.toInt = 4 ∨ N.toInt = 8) ∧ ys.length = N.toNatClampNeg ∧ (-(2147483648 + 65536 * (m : Int)) ≤ b.toInt ∧ b.toInt ≤ 2147483648 + 65536 * (m : Int)) ∧
  ∀ j : Nat, (j : Int) < N.toInt → -(2147483648 + 65536 * (m : Int)) ≤ (own_rd w b (ys.getD j 0)).toInt ∧ (own_rd w b (ys.getD j 0)).toInt ≤ 2147483648 + 65536 * (m : Int)
def own_rs (N : Int32) (ys : List Int32) (p1 : Int32) (N' : Int32) (ys' : List Int32) : Prop := (p1 < N ∧ N' = N ∧ ys' = ys) ∨ (¬ (p1 < N) ∧ N' = own_grow N p1 ∧ ys' = own_cp ys (own_grow N p1).toNatClampNeg)
def own_ws (w : Int32) (b : Int64) (ys : List Int32) (p1 : Int32) (q2 : Int64) (n : Nat) (w' : Int32) (b' : Int64) (ys' : List Int32) : Prop :=
  (w' = w ∧ b' = b ∧ ys' = ys ∧ (w = 4 ∨ ((w = 1 ∨ w = 2) ∧ ¬ (q2 < b) ∧ (q2 - b) < ((1 : Int64) <<< (((8 : Int32) * w) &&& 0x3f).toInt64)))) ∨ ((w = 1 ∨ w = 2) ∧ own_wsp w b ys p1 q2 n w' b' ys')
def own_fit (w : Int32) (b v : Int64) : Prop := own_rd w b (own_en w b v) = v
theorem own_rd0 {w : Int32} (hw : w = 1 ∨ w = 2 ∨ w = 4) (b : Int64) : own_rd w b 0 = b ∨ own_rd w b 0 = 0 := by
  rcases hw with rfl | rfl | rfl
  · left; rw [own_rd1]; show b + 0 = b; exact Int64.add_zero b
  · left; rw [own_rd2]; show b + 0 = b; exact Int64.add_zero b
  · right; rw [own_rd4]; rfl
theorem own_cp_get {ys : List Int32} {m j : Nat} : (own_cp ys m).getD j 0 = if j < ys.length then ys.getD j 0 else 0 := by
  unfold own_cp
  simp only [List.getD_eq_getElem?_getD]
  by_cases h : j < ys.length
  · rw [if_pos h, List.getElem?_append_left h]
  · rw [if_neg h, List.getElem?_append_right (by omega), List.getElem?_replicate]
    split <;> rfl
theorem own_L1 {m : Nat} {w : Int32} {b : Int64} {N N' p1 : Int32} {ys ys' : List Int32} (hI : own_inv m w b N ys) (hp : 0 ≤ p1.toInt ∧ p1.toInt < 8) (h : own_rs N ys p1 N' ys') :
    own_inv m w b N' ys' ∧ N.toInt ≤ N'.toInt ∧ p1.toInt < N'.toInt ∧ ∀ j : Nat, (j : Int) < N.toInt → ys'.getD j 0 = ys.getD j 0 := by
  rcases h with ⟨h, rfl, rfl⟩ | ⟨h, rfl, rfl⟩
  · rw [Int32.lt_iff_toInt_lt] at h
    exact ⟨hI, Int.le_refl _, h, fun _ _ => rfl⟩
  · obtain ⟨hw, hN, hl, hb, hr⟩ := hI
    have g := own_growb hp hN h
    rw [own_tn] at hl
    refine ⟨⟨hw, Or.inr g.2.2, own_cp_len (by rw [own_tn]; omega), hb, fun j hj => ?_⟩, by omega, by omega, fun j hj => ?_⟩
    · rw [own_cp_get]
      by_cases h2 : j < ys.length
      · rw [if_pos h2]; exact hr j (by omega)
      · rw [if_neg h2]
        rcases own_rd0 hw b with e | e
        · rw [e]; exact hb
        · rw [e]; have : (0 : Int64).toInt = 0 := by decide
          omega
    · rw [own_cp_get, if_pos (by omega)]
theorem own_Xe {k : Int32} {bb : Int64} {ys : List Int32} {p1 : Int32} {q2 : Int64} (hp : 0 ≤ p1.toInt ∧ p1.toInt < 8) {j : Nat} (hj : j < 8) : own_X k bb ys p1 q2 j = if j = p1.toNatClampNeg then q2 else own_rd k bb (ys.getD j 0) := by
  unfold own_X
  have e := own_nat8 (n := j) (by omega)
  have e2 := own_tn p1
  by_cases h : j = p1.toNatClampNeg
  · rw [if_pos h, if_pos]
    apply Int32.toInt_inj.mp; omega
  · rw [if_neg h, if_neg]
    intro q
    rw [q] at e
    omega
theorem own_m1 : (own_most 1).toInt = 255 := by decide
theorem own_m2 : (own_most 2).toInt = 65535 := by decide
theorem own_nb_i {q2 bb ls gr mo : Int64} (P : Int64 → Prop) (h1 : P ls) (h2 : P (gr - mo)) : P (own_nb q2 bb ls gr mo) := by
  unfold own_nb; split <;> assumption
theorem own_L2 {m : Nat} {w w' : Int32} {b b' : Int64} {N p1 : Int32} {q2 : Int64} {ys ys' : List Int32} (hm : m ≤ 100) (hI : own_inv m w b N ys) (hp : 0 ≤ p1.toInt ∧ p1.toInt < N.toInt) (hq : own_i64 q2) (h : own_ws w b ys p1 q2 N.toNatClampNeg w' b' ys') :
    own_inv (m + 1) w' b' N ys' ∧ own_fit w' b' q2 ∧ ∀ j : Nat, (j : Int) < N.toInt → j ≠ p1.toNatClampNeg → own_i64 (own_rd w b (ys.getD j 0)) → own_rd w' b' (ys'.getD j 0) = own_rd w b (ys.getD j 0) := by
  obtain ⟨hw, hN, hl, hb, hr⟩ := hI
  have hq' := hq
  unfold own_i64 at hq'
  rcases h with ⟨rfl, rfl, rfl, h⟩ | ⟨hw2, X, ls, gr, zs, hX, hls, hgr, hzs, h⟩
  · refine ⟨⟨hw, hN, hl, by omega, fun j hj => by have := hr j hj; omega⟩, ?_, fun _ _ _ _ => rfl⟩
    unfold own_fit
    rcases h with rfl | ⟨hw2, h1, h2⟩
    · show own_rd 4 b' (own_en4 b' q2) = q2
      exact own_rde4 hq
    · rw [Int64.lt_iff_toInt_lt] at h1 h2
      rw [own_sub64 (by omega) (by omega)] at h2
      rcases hw2 with rfl | rfl
      · have e : ((1 : Int64) <<< (((8 : Int32) * 1) &&& 0x3f).toInt64).toInt = 256 := by decide
        exact own_rde1 (by omega) (by omega)
      · have e : ((1 : Int64) <<< (((8 : Int32) * 2) &&& 0x3f).toInt64).toInt = 65536 := by decide
        exact own_rde2 (by omega) (by omega)
  · have hn := own_tn N
    have hpn := own_tn p1
    have hXb : ∀ j : Nat, 0 ≤ j → j < 0 + N.toNatClampNeg → -(2147483648 + 65536 * (m : Int)) ≤ (X j).toInt ∧ (X j).toInt ≤ 2147483648 + 65536 * (m : Int) := by
      intro j _ hj
      rw [hX, own_Xe (by omega) (by omega)]
      split
      · omega
      · exact hr j (by omega)
    obtain ⟨l1, l2, l3⟩ := own_rl_s X (-(2147483648 + 65536 * (m : Int))) N.toNatClampNeg 0 q2 (by omega) (fun j a c => (hXb j a c).1)
    obtain ⟨g1, g2, g3⟩ := own_rg_s X (2147483648 + 65536 * (m : Int)) N.toNatClampNeg 0 q2 (by omega) (fun j a c => (hXb j a c).2)
    rw [← hls] at l1 l2 l3
    rw [← hgr] at g1 g2 g3
    have hz : ∀ j : Nat, (j : Int) < N.toInt → zs.getD j 0 = X j := by
      intro j hj
      rw [hzs, own_rz_s X _ 0 _ (by rw [List.length_replicate]; omega) j, if_pos (by omega)]
    have hrg := own_sub64 (x := gr) (y := ls) (by omega) (by omega)
    have hXj : ∀ j : Nat, (j : Int) < N.toInt → j ≠ p1.toNatClampNeg → X j = own_rd w b (ys.getD j 0) := by
      intro j hj hne
      rw [hX, own_Xe (by omega) (by omega), if_neg hne]
    have hrw := fun (f : Nat → Int32) => own_rw_s f N.toNatClampNeg 0 (List.replicate N.toNatClampNeg 0) (by rw [List.length_replicate]; omega)
    have fin : ∀ (f : Nat → Int32), ys' = own_rw f N.toNatClampNeg 0 (List.replicate N.toNatClampNeg 0) → ys'.length = N.toNatClampNeg ∧ ∀ j : Nat, (j : Int) < N.toInt → ys'.getD j 0 = f j := by
      intro f hf
      have r := hrw f
      rw [← hf, List.length_replicate] at r
      refine ⟨r.1, fun j hj => ?_⟩
      rw [r.2 j, if_pos (by omega)]
    rcases h with ⟨hr1, rfl, hb', hy⟩ | ⟨-, hr1, rfl, hb', hy⟩ | ⟨rfl, hb', hy⟩
    · have e256 : (256 : Int64).toInt = 256 := by decide
      rw [Int64.lt_iff_toInt_lt, hrg, e256] at hr1
      have m1 := own_m1
      have hbb : gr.toInt - 255 ≤ b'.toInt ∧ b'.toInt ≤ ls.toInt := by
        rw [hb']
        refine own_nb_i (fun z => gr.toInt - 255 ≤ z.toInt ∧ z.toInt ≤ ls.toInt) ⟨by omega, by omega⟩ ?_
        rw [own_sub64 (by omega) (by omega)]; omega
      obtain ⟨hl', hg'⟩ := fin _ hy
      have hrd : ∀ j : Nat, (j : Int) < N.toInt → own_rd 1 b' (ys'.getD j 0) = X j := by
        intro j hj
        rw [hg' j hj, hz j hj]
        have := l3 j (by omega) (by omega)
        have := g3 j (by omega) (by omega)
        exact own_rde1 (by omega) (by omega)
      refine ⟨⟨Or.inl rfl, hN, hl', by omega, fun j hj => ?_⟩, own_rde1 (by omega) (by omega), fun j hj hne _ => ?_⟩
      · rw [hrd j hj]; have := hXb j (by omega) (by omega); omega
      · rw [hrd j hj, hXj j hj hne]
    · have e256 : (65536 : Int64).toInt = 65536 := by decide
      rw [Int64.lt_iff_toInt_lt, hrg, e256] at hr1
      have m1 := own_m2
      have hbb : gr.toInt - 65535 ≤ b'.toInt ∧ b'.toInt ≤ ls.toInt := by
        rw [hb']
        refine own_nb_i (fun z => gr.toInt - 65535 ≤ z.toInt ∧ z.toInt ≤ ls.toInt) ⟨by omega, by omega⟩ ?_
        rw [own_sub64 (by omega) (by omega)]; omega
      obtain ⟨hl', hg'⟩ := fin _ hy
      have hrd : ∀ j : Nat, (j : Int) < N.toInt → own_rd 2 b' (ys'.getD j 0) = X j := by
        intro j hj
        rw [hg' j hj, hz j hj]
        have := l3 j (by omega) (by omega)
        have := g3 j (by omega) (by omega)
        exact own_rde2 (by omega) (by omega)
      refine ⟨⟨Or.inr (Or.inl rfl), hN, hl', by omega, fun j hj => ?_⟩, own_rde2 (by omega) (by omega), fun j hj hne _ => ?_⟩
      · rw [hrd j hj]; have := hXb j (by omega) (by omega); omega
      · rw [hrd j hj, hXj j hj hne]
    · obtain ⟨hl', hg'⟩ := fin _ hy
      have e0 : (0 : Int64).toInt = 0 := by decide
      refine ⟨⟨Or.inr (Or.inr rfl), hN, hl', by rw [hb']; omega, fun j hj => ?_⟩, own_rde4 hq, fun j hj hne hi => ?_⟩
      · rw [own_rd4]; have := own_r32 (ys'.getD j 0); unfold own_i64 at this; omega
      · rw [hg' j hj, hz j hj, hXj j hj hne]; exact own_rde4 hi
theorem own_L3 {m : Nat} {w : Int32} {b : Int64} {N p1 : Int32} {q2 : Int64} {ys : List Int32} (hI : own_inv m w b N ys) (hp : 0 ≤ p1.toInt ∧ p1.toInt < N.toInt) (hq : own_i64 q2) (hf : own_fit w b q2) :
    own_inv m w b N (ys.set p1.toNatClampNeg (own_en w b q2)) ∧ own_rd w b ((ys.set p1.toNatClampNeg (own_en w b q2)).getD p1.toNatClampNeg 0) = q2 ∧
    ∀ j : Nat, (j : Int) < N.toInt → j ≠ p1.toNatClampNeg → (ys.set p1.toNatClampNeg (own_en w b q2)).getD j 0 = ys.getD j 0 := by
  obtain ⟨hw, hN, hl, hb, hr⟩ := hI
  have hn := own_tn N
  have hpn := own_tn p1
  have hg : own_rd w b ((ys.set p1.toNatClampNeg (own_en w b q2)).getD p1.toNatClampNeg 0) = q2 := by
    rw [own_sgi, if_pos ⟨rfl, by omega⟩]; exact hf
  have ho : ∀ j : Nat, j ≠ p1.toNatClampNeg → (ys.set p1.toNatClampNeg (own_en w b q2)).getD j 0 = ys.getD j 0 := by
    intro j hne
    rw [own_sgi, if_neg (by omega)]
  unfold own_i64 at hq
  refine ⟨⟨hw, hN, by rw [List.length_set]; exact hl, hb, fun j hj => ?_⟩, hg, fun j _ hne => ho j hne⟩
  by_cases e : j = p1.toNatClampNeg
  · rw [e, hg]; omega
  · rw [ho j e]; exact hr j hj
/-- one write: its pure worth -/
def own_st (w : Int32) (b : Int64) (N : Int32) (ys : List Int32) (p1 : Int32) (q2 : Int64) (w' : Int32) (b' : Int64) (N' : Int32) (ys' : List Int32) : Prop :=
  ∃ ys1 ys2, own_rs N ys p1 N' ys1 ∧ own_ws w b ys1 p1 q2 N'.toNatClampNeg w' b' ys2 ∧ ys' = ys2.set p1.toNatClampNeg (own_en w' b' q2)
theorem own_L4 {m : Nat} {w w' : Int32} {b b' : Int64} {N N' p1 : Int32} {q2 : Int64} {ys ys' : List Int32} (hm : m ≤ 100) (hI : own_inv m w b N ys) (hp : 0 ≤ p1.toInt ∧ p1.toInt < 8) (hq : own_i64 q2) (h : own_st w b N ys p1 q2 w' b' N' ys') :
    own_inv (m + 1) w' b' N' ys' ∧ p1.toInt < N'.toInt ∧ own_rd w' b' (ys'.getD p1.toNatClampNeg 0) = q2 ∧ N.toInt ≤ N'.toInt ∧
    ∀ j : Nat, (j : Int) < N.toInt → j ≠ p1.toNatClampNeg → own_i64 (own_rd w b (ys.getD j 0)) → own_rd w' b' (ys'.getD j 0) = own_rd w b (ys.getD j 0) := by
  obtain ⟨ys1, ys2, h1, h2, rfl⟩ := h
  obtain ⟨I1, n1, p1', k1⟩ := own_L1 hI hp h1
  obtain ⟨I2, f2, k2⟩ := own_L2 hm I1 ⟨hp.1, p1'⟩ hq h2
  obtain ⟨I3, g3, k3⟩ := own_L3 I2 ⟨hp.1, p1'⟩ hq f2
  refine ⟨I3, p1', g3, n1, fun j hj hne hi => ?_⟩
  have e := k1 j hj
  rw [k3 j (by omega) hne, k2 j (by omega) hne (by rw [e]; exact hi), e]

theorem own_en_1 (b v : Int64) : own_en (1 : Int32) b v = own_en1 b v := if_pos rfl
theorem own_en_2 (b v : Int64) : own_en (2 : Int32) b v = own_en2 b v := by unfold own_en; rw [if_neg (by decide), if_pos rfl]
theorem own_en_4 (b v : Int64) : own_en (4 : Int32) b v = own_en4 b v := by unfold own_en; rw [if_neg (by decide), if_neg (by decide)]
theorem own_ltN {z n : Int32} (h : 0 ≤ z.toInt ∧ z.toInt < n.toInt) : ¬ (z < 0) ∧ z < n := ⟨own_nneg h.1, by rw [Int32.lt_iff_toInt_lt]; exact h.2⟩
theorem own_inv0 {q2 : Int64} (h : own_i64 q2) : own_inv 0 (1 : Int32) q2 (4 : Int32) (List.replicate ((4 : Int32)).toNatClampNeg (0 : Int32)) := by
  unfold own_i64 at h
  refine ⟨Or.inl rfl, Or.inl (by decide), by rw [List.length_replicate], by omega, fun j _ => ?_⟩
  have e : (List.replicate ((4 : Int32)).toNatClampNeg (0 : Int32)).getD j 0 = 0 := by
    simp only [List.getD_eq_getElem?_getD, List.getElem?_replicate]; split <;> rfl
  rw [e, own_rd1]
  show _ ≤ (q2 + 0).toInt ∧ (q2 + 0).toInt ≤ _
  rw [Int64.add_zero]; omega
theorem own_7 : ∀ k : Fin 8, 0 ≤ (Int32.ofNat k.1).toInt ∧ (Int32.ofNat k.1).toInt < 8 := by decide
theorem own_and7 (x : Int32) : 0 ≤ (x &&& (7 : Int32)).toInt ∧ (x &&& (7 : Int32)).toInt < 8 := by
  have h1 : (x &&& (7 : Int32)).toBitVec.toNat ≤ 7 := by
    show (x.toBitVec &&& 7#32).toNat ≤ 7
    rw [BitVec.toNat_and]
    exact Nat.and_le_right
  have h2 : (x &&& (7 : Int32)).toInt = ((x &&& (7 : Int32)).toBitVec.toNat : Int) := by
    show (x &&& (7 : Int32)).toBitVec.toInt = _
    rw [BitVec.toInt_eq_toNat_cond, if_pos (by omega)]
  omega

theorem pd_8 : parseMethodDescriptor "(I)V" = some ⟨[.int], none⟩ := by decide +kernel
theorem d4_22 : decode prog_257_method_8_code 22 = .ok (.iload_n 1, 1) := by decide +kernel
theorem d4_23 : decode prog_257_method_8_code 23 = .ok (.aload_n 0, 1) := by decide +kernel
theorem d4_24 : decode prog_257_method_8_code 24 = .ok (.invokevirtual 70, 3) := by decide +kernel
theorem d4_27 : decode prog_257_method_8_code 27 = .ok (.if_icmp .lt 15, 3) := by decide +kernel
theorem d4_30 : decode prog_257_method_8_code 30 = .ok (.aload_n 0, 1) := by decide +kernel
theorem d4_31 : decode prog_257_method_8_code 31 = .ok (.aload_n 0, 1) := by decide +kernel
theorem d4_32 : decode prog_257_method_8_code 32 = .ok (.invokevirtual 70, 3) := by decide +kernel
theorem d4_35 : decode prog_257_method_8_code 35 = .ok (.iload_n 1, 1) := by decide +kernel
theorem d4_36 : decode prog_257_method_8_code 36 = .ok (.invokestatic 74, 3) := by decide +kernel
theorem d4_39 : decode prog_257_method_8_code 39 = .ok (.invokevirtual 78, 3) := by decide +kernel
set_option maxRecDepth 65536 in
set_option maxHeartbeats 40000000 in
theorem sg2 {p : Program} {l : Launch} {e : Env} {s : State} {m : MethodId} {args : Array Value} {below : List Frame} {meth : Method} {c : Code} {T0 : State} {locs : List Loc} {cells slots : Nat} {Z : State} {A0 : Array Value} {h0 : Heap} {n0 : Nat} (a0 : Addr) (p1 : Int32) (q2 : Int64) (w : Int32) (bb : Int64) (bd : Value) (nn : Int32) (ys : List Int32) (X0 : Stand p l e ({ frames := 3, cells := 5, slots := 40, locals := 90 } : Room) s m args below meth c T0 locs cells slots) (hx : p.tables.exec = Jvm.exec) (hZ : Z.Warmed39 s.vm) (hw : ∀ d ∈ tables_1, d.before A0 Z = true) (hby : c.code = prog_257_method_8_code) (hml : c.maxLocals = 4) (hown : s.vm.findClass "com/example/wadjet/wadjet/storage/IntegerChunk" = some m.cls) (e0 : T0.heap = h0) (N0 : Fr n0 locs) (Z0 : n0 ≤ h0.size) (hp : 0 ≤ p1.toInt ∧ p1.toInt < 8) (hN : nn.toInt = 4 ∨ nn.toInt = 8) (hlen : ys.length = nn.toNatClampNeg) (hcl : cells + 1 ≤ 5) (hsl : slots + 8 ≤ 40) (HK : own_K Z h0 n0 a0 w bb bd nn ys) :
    ∃ (T' : State) (h' : Heap) (locs' : List Loc) (c' s' : Nat) (w' : Int32) (b' : Int64) (N' : Int32) (ys' : List Int32), Stand p l e ({ frames := 3, cells := 5, slots := 40, locals := 90 } : Room) s m args below meth c T' locs' c' s' ∧ T'.heap = h' ∧ Fr n0 locs' ∧ n0 ≤ h'.size ∧ own_K Z h' n0 a0 w' b' bd N' ys' ∧ (w' = w ∧ b' = bb ∧ own_rs nn ys p1 N' ys') ∧ c' ≤ cells + 1 ∧ s' ≤ slots + 8 ∧
      ∀ target, Steps p.tables e below (T'.setTop (mkF m 42 #[.val (.ref a0), .val (.int p1), .val (.long q2), .second] [])) target → Steps p.tables e below (T0.setTop (mkF m 22 #[.val (.ref a0), .val (.int p1), .val (.long q2), .second] [])) target := by
  obtain ⟨g_a0, E_a0, nr, kn, vn, vm, vw, g_nr, ne_nr_a0, F_width_a0, F_base_a0, F_based_a0, F_narrow_a0, F_middle_a0, F_wide_a0, F_nulls_a0, HV⟩ := HK
  rcases HV with ⟨rfl, rfl, V_nr⟩ | ⟨rfl, rfl, V_nr⟩ | ⟨rfl, rfl, V_nr⟩
  · have K0 : Keep h0 h0 [a0, nr] := Keep.refl _ _
    obtain ⟨cq1, qv1, qv1'⟩ := E_a0.cell
    obtain ⟨_, _, ⟨T1, L1, k1, n1⟩, -, X1, ⟨Lc1, hQ1, l1, y1, z1⟩, st1⟩ := X0.privateBack hx (y := (⟨"com/example/wadjet/wadjet/storage/IntegerChunk", "capacity", "()I"⟩ : MethodName)) hown (mvT hZ (hw _ (List.mem_of_getElem? (i := 32) rfl))) (mvT hZ (hw _ (List.mem_of_getElem? (i := 33) rfl))) (own_selP hZ (hw _ (List.mem_of_getElem? (i := 1) rfl)) (hw _ (List.mem_of_getElem? (i := 34) rfl)) (hw _ (List.mem_of_getElem? (i := 33) rfl)) (by decide)) (Cond.privateMethod_at (mvP hZ (hw _ (List.mem_of_getElem? (i := 34) rfl)) (args := #[]))) (mvT hZ (hw _ (List.mem_of_getElem? (i := 35) rfl))) (by decide) (backOf (W := 1) (rmC_1 l Z A0 hw [] a0 nr kn nn ys h0 n0 Z0 F_width_a0 F_narrow_a0 V_nr) hZ (hw _ (List.mem_of_getElem? (i := 35) rfl)) (hw _ (List.mem_of_getElem? (i := 2) rfl)) (by decide) (by decide)) (g := (mkF m 24 #[.val (.ref a0), .val (.int p1), .val (.long q2), .second] [(.ref a0), (.int p1)])) rfl (by rw [hml]; rfl) (Steps.refl _) (a := a0) (by rw [e0]; exact qv1) qv1' (argsL := []) (rest := [(.int p1)]) (lenOf pd_7 rfl) rfl (by show 2 * 0 + _ ≤ _; exact Nat.le_of_eq rfl) (hb hby d4_24) (fun _ _ => ⟨rfl, e0, (by show cells + 0 ≤ 5; omega), (by show slots + 0 ≤ 40; omega)⟩)
    dsimp only [Pt.U, Pt.locs, Pt.cells, Pt.slots] at X1 l1 y1 z1 st1 hQ1
    rw [y1, z1] at X1
    obtain ⟨rfl, N1q, eh1⟩ := hQ1
    have N1 : Fr n0 L1 := by rw [l1]; exact Fr.app N0 N1q
    clear l1
    by_cases hc27 : p1 < nn
    · refine ⟨T1, _, _, cells, slots, (1 : Int32), bb, nn, ys, X1, eh1, N1, Z0, ⟨g_a0, E_a0, _, _, _, _, _, g_nr, ne_nr_a0, F_width_a0, F_base_a0, F_based_a0, F_narrow_a0, F_middle_a0, F_wide_a0, F_nulls_a0, Or.inl ⟨rfl, rfl, V_nr⟩⟩, ⟨rfl, rfl, Or.inl ⟨hc27, rfl, rfl⟩⟩, by omega, by omega, fun target kt => ?_⟩
      show Steps p.tables e below (T0.setTop (mkF m 22 #[.val (.ref a0), .val (.int p1), .val (.long q2), .second] [])) _
      refine XS.iloadN X0.here hx rfl (hb hby d4_22) rfl ?_
      refine XS.aloadN X0.here hx rfl (hb hby d4_23) rfl rfl ?_
      refine st1.trans ?_
      show Steps p.tables e below (T1.setTop (mkF m 27 #[.val (.ref a0), .val (.int p1), .val (.long q2), .second] [(.int nn), (.int p1)])) _
      refine XS.icmpYes X1.here hx rfl (pc0 := 27) (pc' := 42) rfl (hb hby d4_27) rfl (tlt hc27).1 (by decide) (by decide) ?_
      show Steps p.tables e below (T1.setTop (mkF m 42 #[.val (.ref a0), .val (.int p1), .val (.long q2), .second] [])) _
      exact kt
    · obtain ⟨cq2, qv2, qv2'⟩ := E_a0.cell
      obtain ⟨_, _, ⟨T2, L2, k2, n2⟩, -, X2, ⟨Lc2, hQ2, l2, y2, z2⟩, st2⟩ := X1.privateBack hx (y := (⟨"com/example/wadjet/wadjet/storage/IntegerChunk", "capacity", "()I"⟩ : MethodName)) hown (mvT hZ (hw _ (List.mem_of_getElem? (i := 32) rfl))) (mvT hZ (hw _ (List.mem_of_getElem? (i := 33) rfl))) (own_selP hZ (hw _ (List.mem_of_getElem? (i := 1) rfl)) (hw _ (List.mem_of_getElem? (i := 34) rfl)) (hw _ (List.mem_of_getElem? (i := 33) rfl)) (by decide)) (Cond.privateMethod_at (mvP hZ (hw _ (List.mem_of_getElem? (i := 34) rfl)) (args := #[]))) (mvT hZ (hw _ (List.mem_of_getElem? (i := 35) rfl))) (by decide) (backOf (W := 1) (rmC_1 l Z A0 hw [] a0 nr kn nn ys h0 n0 Z0 F_width_a0 F_narrow_a0 V_nr) hZ (hw _ (List.mem_of_getElem? (i := 35) rfl)) (hw _ (List.mem_of_getElem? (i := 2) rfl)) (by decide) (by decide)) (g := (mkF m 32 #[.val (.ref a0), .val (.int p1), .val (.long q2), .second] [(.ref a0), (.ref a0)])) rfl (by rw [hml]; rfl) (Steps.refl _) (a := a0) (by rw [eh1]; exact qv2) qv2' (argsL := []) (rest := [(.ref a0)]) (lenOf pd_7 rfl) rfl (by show 2 * 0 + _ ≤ _; exact Nat.le_of_eq rfl) (hb hby d4_32) (fun _ _ => ⟨rfl, eh1, (by show cells + 0 ≤ 5; omega), (by show slots + 0 ≤ 40; omega)⟩)
      dsimp only [Pt.U, Pt.locs, Pt.cells, Pt.slots] at X2 l2 y2 z2 st2 hQ2
      rw [y2, z2] at X2
      obtain ⟨rfl, N2q, eh2⟩ := hQ2
      have N2 : Fr n0 L2 := by rw [l2]; exact Fr.app N1 N2q
      clear l2
      have hgr := own_growb hp hN hc27
      have hslot : 0 < p1.toInt ∧ p1.toInt < 256 := by omega
      obtain ⟨_, _, ⟨T3, L3, k3, n3⟩, -, X3, ⟨Lc3, hQ3, l3, y3, z3⟩, st3⟩ := own_callSU X2 hx (x := (⟨"com/example/wadjet/wadjet/storage/IntegerChunk", "grownCapacity", "(II)I"⟩ : MethodName)) (owner := "com/example/wadjet/wadjet/storage/ColumnChunk") hown (mvT hZ (hw _ (List.mem_of_getElem? (i := 64) rfl))) (mvT hZ (hw _ (List.mem_of_getElem? (i := 65) rfl))) (mvT hZ (hw _ (List.mem_of_getElem? (i := 66) rfl))) (mvT hZ (hw _ (List.mem_of_getElem? (i := 9) rfl))) (mvT hZ (hw _ (List.mem_of_getElem? (i := 67) rfl))) (by decide) (backOf (W := 1) (rm12 l Z A0 hw [] nn p1  h0 n0 Z0 (hslot)) hZ (hw _ (List.mem_of_getElem? (i := 67) rfl)) (hw _ (List.mem_of_getElem? (i := 9) rfl)) (by decide) (by decide)) (g := (mkF m 36 #[.val (.ref a0), .val (.int p1), .val (.long q2), .second] [(.int p1), (.int nn), (.ref a0)])) rfl (by rw [hml]; rfl) (argsL := [(.int nn), (.int p1)]) (rest := [(.ref a0)]) (lenOf pd_1 rfl) rfl (by show 2 * 0 + _ ≤ _; exact Nat.le_of_eq rfl) (hb hby d4_36) (fun _ _ => ⟨rfl, eh2, (by show cells + 0 ≤ 5; omega), (by show slots + 0 ≤ 40; omega)⟩)
      dsimp only [Pt.U, Pt.locs, Pt.cells, Pt.slots] at X3 l3 y3 z3 st3 hQ3
      rw [y3, z3] at X3
      obtain ⟨rfl, N3q, eh3⟩ := hQ3
      have N3 : Fr n0 L3 := by rw [l3]; exact Fr.app N2 N3q
      clear l3
      obtain ⟨gw, h_gw⟩ : ∃ z : Int32, z = (own_grow nn p1) := ⟨_, rfl⟩
      have hgb : nn.toInt = 4 ∧ gw.toInt = 8 := by rw [h_gw]; exact hgr.2
      have hrne : ¬ (gw = nn) := by intro q; rw [q] at hgb; omega
      have hrle : 0 ≤ nn.toInt ∧ nn.toInt ≤ gw.toInt ∧ gw.toInt ≤ 8 := by omega
      obtain ⟨cq4, qv4, qv4'⟩ := E_a0.cell
      obtain ⟨_, _, ⟨T4, L4, k4, n4⟩, -, X4, ⟨Lc4, hQ4, l4, y4, z4⟩, st4⟩ := X3.privateBack hx (y := (⟨"com/example/wadjet/wadjet/storage/IntegerChunk", "resize", "(I)V"⟩ : MethodName)) hown (mvT hZ (hw _ (List.mem_of_getElem? (i := 83) rfl))) (mvT hZ (hw _ (List.mem_of_getElem? (i := 84) rfl))) (own_selP hZ (hw _ (List.mem_of_getElem? (i := 1) rfl)) (hw _ (List.mem_of_getElem? (i := 85) rfl)) (hw _ (List.mem_of_getElem? (i := 84) rfl)) (by decide)) (Cond.privateMethod_at (mvP hZ (hw _ (List.mem_of_getElem? (i := 85) rfl)) (args := #[]))) (mvT hZ (hw _ (List.mem_of_getElem? (i := 86) rfl))) (by decide) (backOf (W := 0) (rmR_1 l Z A0 hw [] a0 gw (.long bb) bd vm vw .null nr kn nn ys h0 n0 Z0 E_a0 F_width_a0 F_base_a0 F_based_a0 F_narrow_a0 F_middle_a0 F_wide_a0 F_nulls_a0 V_nr g_a0 ne_nr_a0 (hrne) (hrle) (hlen)) hZ (hw _ (List.mem_of_getElem? (i := 86) rfl)) (hw _ (List.mem_of_getElem? (i := 2) rfl)) (by decide) (by decide)) (g := (mkF m 39 #[.val (.ref a0), .val (.int p1), .val (.long q2), .second] [(.int gw), (.ref a0)])) rfl (by rw [hml]; rfl) (Steps.refl _) (a := a0) (by rw [eh3]; exact qv4) qv4' (argsL := [(.int gw)]) (rest := []) (lenOf pd_8 rfl) rfl (by show 2 * 0 + _ ≤ _; exact Nat.le_of_eq rfl) (hb hby d4_39) (fun _ _ => ⟨rfl, eh3, (by show cells + 1 ≤ 5; omega), (by show slots + 8 ≤ 40; omega)⟩)
      dsimp only [Pt.U, Pt.locs, Pt.cells, Pt.slots] at X4 l4 y4 z4 st4 hQ4
      rw [y4, z4] at X4
      obtain ⟨b4, kb4, rfl, N4q, gs_b4, Kc4, P4_0, P4_1, P4_2, P4_3, P4_4, P4_5, P4_6, P4_7, P4_8⟩ := hQ4
      have N4 : Fr n0 L4 := by rw [l4]; exact Fr.app N3 N4q
      clear l4
      have ne_a0_b4 : a0 ≠ b4 := Nat.ne_of_lt (Nat.lt_of_lt_of_le E_a0.lt gs_b4.2)
      have ne_nr_b4 : nr ≠ b4 := Nat.ne_of_lt (Nat.lt_of_lt_of_le V_nr.lt gs_b4.2)
      have sz_b4 : h0.size ≤ b4 := Nat.le_trans K0.1 gs_b4.2
      have E_a0 : Exa Z T4.heap a0 "com/example/wadjet/wadjet/storage/IntegerChunk" := E_a0.keep Kc4
      have V_nr : Arv Z T4.heap nr kn .byte nn (ys.map Value.int) (.int (0 : Int32)) := V_nr.keep Kc4 (ninS ne_nr_a0 nin0)
      have ZT4_heap : n0 ≤ T4.heap.size := Nat.le_trans Z0 Kc4.1
      have KT4_heap : Keep h0 T4.heap [a0, nr] := K0.trans Kc4 (allS (Or.inl (by simp)) all0)
      have E_a0 : Exa Z T4.heap a0 "com/example/wadjet/wadjet/storage/IntegerChunk" := P4_0
      have F_width_a0 : Fld Z T4.heap a0 "com/example/wadjet/wadjet/storage/IntegerChunk" "width" "I" (.int (1 : Int32)) := P4_1
      have F_base_a0 : Fld Z T4.heap a0 "com/example/wadjet/wadjet/storage/IntegerChunk" "base" "J" (.long bb) := P4_2
      have F_based_a0 : Fld Z T4.heap a0 "com/example/wadjet/wadjet/storage/IntegerChunk" "based" "Z" bd := P4_3
      have F_narrow_a0 : Fld Z T4.heap a0 "com/example/wadjet/wadjet/storage/IntegerChunk" "narrow" "[B" (.ref b4) := P4_4
      have F_middle_a0 : Fld Z T4.heap a0 "com/example/wadjet/wadjet/storage/IntegerChunk" "middle" "[C" vm := P4_5
      have F_wide_a0 : Fld Z T4.heap a0 "com/example/wadjet/wadjet/storage/IntegerChunk" "wide" "[I" vw := P4_6
      have F_nulls_a0 : Fld Z T4.heap a0 "com/example/wadjet/wadjet/storage/IntegerChunk" "nulls" "[J" .null := P4_7
      have V_b4 : Arv Z T4.heap b4 kb4 .byte gw ((own_cp ys gw.toNatClampNeg).map Value.int) (.int (0 : Int32)) := P4_8
      refine ⟨T4, _, _, (cells + 1), (slots + 8), (1 : Int32), bb, gw, (own_cp ys gw.toNatClampNeg), X4, rfl, N4, ZT4_heap, ⟨g_a0, E_a0, _, _, _, _, _, gs_b4.1, (Ne.symm ne_a0_b4), F_width_a0, F_base_a0, F_based_a0, F_narrow_a0, F_middle_a0, F_wide_a0, F_nulls_a0, Or.inl ⟨rfl, rfl, V_b4⟩⟩, ⟨rfl, rfl, Or.inr ⟨hc27, h_gw, by rw [h_gw]⟩⟩, by omega, by omega, fun target kt => ?_⟩
      show Steps p.tables e below (T0.setTop (mkF m 22 #[.val (.ref a0), .val (.int p1), .val (.long q2), .second] [])) _
      refine XS.iloadN X0.here hx rfl (hb hby d4_22) rfl ?_
      refine XS.aloadN X0.here hx rfl (hb hby d4_23) rfl rfl ?_
      refine st1.trans ?_
      show Steps p.tables e below (T1.setTop (mkF m 27 #[.val (.ref a0), .val (.int p1), .val (.long q2), .second] [(.int nn), (.int p1)])) _
      refine XS.icmpNo X1.here hx rfl (hb hby d4_27) rfl (flt hc27).1 ?_
      refine XS.aloadN X1.here hx rfl (hb hby d4_30) rfl rfl ?_
      refine XS.aloadN X1.here hx rfl (hb hby d4_31) rfl rfl ?_
      refine st2.trans ?_
      show Steps p.tables e below (T2.setTop (mkF m 35 #[.val (.ref a0), .val (.int p1), .val (.long q2), .second] [(.int nn), (.ref a0)])) _
      refine XS.iloadN X2.here hx rfl (hb hby d4_35) rfl ?_
      refine st3 _ ?_
      show Steps p.tables e below (T3.setTop (mkF m 39 #[.val (.ref a0), .val (.int p1), .val (.long q2), .second] [(.int (own_grow nn p1)), (.ref a0)])) _
      rw [← h_gw]
      show Steps p.tables e below (T3.setTop (mkF m 39 #[.val (.ref a0), .val (.int p1), .val (.long q2), .second] [(.int gw), (.ref a0)])) _
      refine st4.trans ?_
      show Steps p.tables e below (T4.setTop (mkF m 42 #[.val (.ref a0), .val (.int p1), .val (.long q2), .second] [])) _
      exact kt
  · have K0 : Keep h0 h0 [a0, nr] := Keep.refl _ _
    obtain ⟨cq5, qv5, qv5'⟩ := E_a0.cell
    obtain ⟨_, _, ⟨T5, L5, k5, n5⟩, -, X5, ⟨Lc5, hQ5, l5, y5, z5⟩, st5⟩ := X0.privateBack hx (y := (⟨"com/example/wadjet/wadjet/storage/IntegerChunk", "capacity", "()I"⟩ : MethodName)) hown (mvT hZ (hw _ (List.mem_of_getElem? (i := 32) rfl))) (mvT hZ (hw _ (List.mem_of_getElem? (i := 33) rfl))) (own_selP hZ (hw _ (List.mem_of_getElem? (i := 1) rfl)) (hw _ (List.mem_of_getElem? (i := 34) rfl)) (hw _ (List.mem_of_getElem? (i := 33) rfl)) (by decide)) (Cond.privateMethod_at (mvP hZ (hw _ (List.mem_of_getElem? (i := 34) rfl)) (args := #[]))) (mvT hZ (hw _ (List.mem_of_getElem? (i := 35) rfl))) (by decide) (backOf (W := 1) (rmC_2 l Z A0 hw [] a0 nr kn nn ys h0 n0 Z0 F_width_a0 F_middle_a0 V_nr) hZ (hw _ (List.mem_of_getElem? (i := 35) rfl)) (hw _ (List.mem_of_getElem? (i := 2) rfl)) (by decide) (by decide)) (g := (mkF m 24 #[.val (.ref a0), .val (.int p1), .val (.long q2), .second] [(.ref a0), (.int p1)])) rfl (by rw [hml]; rfl) (Steps.refl _) (a := a0) (by rw [e0]; exact qv5) qv5' (argsL := []) (rest := [(.int p1)]) (lenOf pd_7 rfl) rfl (by show 2 * 0 + _ ≤ _; exact Nat.le_of_eq rfl) (hb hby d4_24) (fun _ _ => ⟨rfl, e0, (by show cells + 0 ≤ 5; omega), (by show slots + 0 ≤ 40; omega)⟩)
    dsimp only [Pt.U, Pt.locs, Pt.cells, Pt.slots] at X5 l5 y5 z5 st5 hQ5
    rw [y5, z5] at X5
    obtain ⟨rfl, N5q, eh5⟩ := hQ5
    have N5 : Fr n0 L5 := by rw [l5]; exact Fr.app N0 N5q
    clear l5
    by_cases hc27 : p1 < nn
    · refine ⟨T5, _, _, cells, slots, (2 : Int32), bb, nn, ys, X5, eh5, N5, Z0, ⟨g_a0, E_a0, _, _, _, _, _, g_nr, ne_nr_a0, F_width_a0, F_base_a0, F_based_a0, F_narrow_a0, F_middle_a0, F_wide_a0, F_nulls_a0, Or.inr (Or.inl ⟨rfl, rfl, V_nr⟩)⟩, ⟨rfl, rfl, Or.inl ⟨hc27, rfl, rfl⟩⟩, by omega, by omega, fun target kt => ?_⟩
      show Steps p.tables e below (T0.setTop (mkF m 22 #[.val (.ref a0), .val (.int p1), .val (.long q2), .second] [])) _
      refine XS.iloadN X0.here hx rfl (hb hby d4_22) rfl ?_
      refine XS.aloadN X0.here hx rfl (hb hby d4_23) rfl rfl ?_
      refine st5.trans ?_
      show Steps p.tables e below (T5.setTop (mkF m 27 #[.val (.ref a0), .val (.int p1), .val (.long q2), .second] [(.int nn), (.int p1)])) _
      refine XS.icmpYes X5.here hx rfl (pc0 := 27) (pc' := 42) rfl (hb hby d4_27) rfl (tlt hc27).1 (by decide) (by decide) ?_
      show Steps p.tables e below (T5.setTop (mkF m 42 #[.val (.ref a0), .val (.int p1), .val (.long q2), .second] [])) _
      exact kt
    · obtain ⟨cq6, qv6, qv6'⟩ := E_a0.cell
      obtain ⟨_, _, ⟨T6, L6, k6, n6⟩, -, X6, ⟨Lc6, hQ6, l6, y6, z6⟩, st6⟩ := X5.privateBack hx (y := (⟨"com/example/wadjet/wadjet/storage/IntegerChunk", "capacity", "()I"⟩ : MethodName)) hown (mvT hZ (hw _ (List.mem_of_getElem? (i := 32) rfl))) (mvT hZ (hw _ (List.mem_of_getElem? (i := 33) rfl))) (own_selP hZ (hw _ (List.mem_of_getElem? (i := 1) rfl)) (hw _ (List.mem_of_getElem? (i := 34) rfl)) (hw _ (List.mem_of_getElem? (i := 33) rfl)) (by decide)) (Cond.privateMethod_at (mvP hZ (hw _ (List.mem_of_getElem? (i := 34) rfl)) (args := #[]))) (mvT hZ (hw _ (List.mem_of_getElem? (i := 35) rfl))) (by decide) (backOf (W := 1) (rmC_2 l Z A0 hw [] a0 nr kn nn ys h0 n0 Z0 F_width_a0 F_middle_a0 V_nr) hZ (hw _ (List.mem_of_getElem? (i := 35) rfl)) (hw _ (List.mem_of_getElem? (i := 2) rfl)) (by decide) (by decide)) (g := (mkF m 32 #[.val (.ref a0), .val (.int p1), .val (.long q2), .second] [(.ref a0), (.ref a0)])) rfl (by rw [hml]; rfl) (Steps.refl _) (a := a0) (by rw [eh5]; exact qv6) qv6' (argsL := []) (rest := [(.ref a0)]) (lenOf pd_7 rfl) rfl (by show 2 * 0 + _ ≤ _; exact Nat.le_of_eq rfl) (hb hby d4_32) (fun _ _ => ⟨rfl, eh5, (by show cells + 0 ≤ 5; omega), (by show slots + 0 ≤ 40; omega)⟩)
      dsimp only [Pt.U, Pt.locs, Pt.cells, Pt.slots] at X6 l6 y6 z6 st6 hQ6
      rw [y6, z6] at X6
      obtain ⟨rfl, N6q, eh6⟩ := hQ6
      have N6 : Fr n0 L6 := by rw [l6]; exact Fr.app N5 N6q
      clear l6
      have hgr := own_growb hp hN hc27
      have hslot : 0 < p1.toInt ∧ p1.toInt < 256 := by omega
      obtain ⟨_, _, ⟨T7, L7, k7, n7⟩, -, X7, ⟨Lc7, hQ7, l7, y7, z7⟩, st7⟩ := own_callSU X6 hx (x := (⟨"com/example/wadjet/wadjet/storage/IntegerChunk", "grownCapacity", "(II)I"⟩ : MethodName)) (owner := "com/example/wadjet/wadjet/storage/ColumnChunk") hown (mvT hZ (hw _ (List.mem_of_getElem? (i := 64) rfl))) (mvT hZ (hw _ (List.mem_of_getElem? (i := 65) rfl))) (mvT hZ (hw _ (List.mem_of_getElem? (i := 66) rfl))) (mvT hZ (hw _ (List.mem_of_getElem? (i := 9) rfl))) (mvT hZ (hw _ (List.mem_of_getElem? (i := 67) rfl))) (by decide) (backOf (W := 1) (rm12 l Z A0 hw [] nn p1  h0 n0 Z0 (hslot)) hZ (hw _ (List.mem_of_getElem? (i := 67) rfl)) (hw _ (List.mem_of_getElem? (i := 9) rfl)) (by decide) (by decide)) (g := (mkF m 36 #[.val (.ref a0), .val (.int p1), .val (.long q2), .second] [(.int p1), (.int nn), (.ref a0)])) rfl (by rw [hml]; rfl) (argsL := [(.int nn), (.int p1)]) (rest := [(.ref a0)]) (lenOf pd_1 rfl) rfl (by show 2 * 0 + _ ≤ _; exact Nat.le_of_eq rfl) (hb hby d4_36) (fun _ _ => ⟨rfl, eh6, (by show cells + 0 ≤ 5; omega), (by show slots + 0 ≤ 40; omega)⟩)
      dsimp only [Pt.U, Pt.locs, Pt.cells, Pt.slots] at X7 l7 y7 z7 st7 hQ7
      rw [y7, z7] at X7
      obtain ⟨rfl, N7q, eh7⟩ := hQ7
      have N7 : Fr n0 L7 := by rw [l7]; exact Fr.app N6 N7q
      clear l7
      obtain ⟨gw, h_gw⟩ : ∃ z : Int32, z = (own_grow nn p1) := ⟨_, rfl⟩
      have hgb : nn.toInt = 4 ∧ gw.toInt = 8 := by rw [h_gw]; exact hgr.2
      have hrne : ¬ (gw = nn) := by intro q; rw [q] at hgb; omega
      have hrle : 0 ≤ nn.toInt ∧ nn.toInt ≤ gw.toInt ∧ gw.toInt ≤ 8 := by omega
      obtain ⟨cq8, qv8, qv8'⟩ := E_a0.cell
      obtain ⟨_, _, ⟨T8, L8, k8, n8⟩, -, X8, ⟨Lc8, hQ8, l8, y8, z8⟩, st8⟩ := X7.privateBack hx (y := (⟨"com/example/wadjet/wadjet/storage/IntegerChunk", "resize", "(I)V"⟩ : MethodName)) hown (mvT hZ (hw _ (List.mem_of_getElem? (i := 83) rfl))) (mvT hZ (hw _ (List.mem_of_getElem? (i := 84) rfl))) (own_selP hZ (hw _ (List.mem_of_getElem? (i := 1) rfl)) (hw _ (List.mem_of_getElem? (i := 85) rfl)) (hw _ (List.mem_of_getElem? (i := 84) rfl)) (by decide)) (Cond.privateMethod_at (mvP hZ (hw _ (List.mem_of_getElem? (i := 85) rfl)) (args := #[]))) (mvT hZ (hw _ (List.mem_of_getElem? (i := 86) rfl))) (by decide) (backOf (W := 0) (rmR_2 l Z A0 hw [] a0 gw (.long bb) bd vn vw .null nr kn nn ys h0 n0 Z0 E_a0 F_width_a0 F_base_a0 F_based_a0 F_narrow_a0 F_middle_a0 F_wide_a0 F_nulls_a0 V_nr g_a0 ne_nr_a0 (hrne) (hrle) (hlen)) hZ (hw _ (List.mem_of_getElem? (i := 86) rfl)) (hw _ (List.mem_of_getElem? (i := 2) rfl)) (by decide) (by decide)) (g := (mkF m 39 #[.val (.ref a0), .val (.int p1), .val (.long q2), .second] [(.int gw), (.ref a0)])) rfl (by rw [hml]; rfl) (Steps.refl _) (a := a0) (by rw [eh7]; exact qv8) qv8' (argsL := [(.int gw)]) (rest := []) (lenOf pd_8 rfl) rfl (by show 2 * 0 + _ ≤ _; exact Nat.le_of_eq rfl) (hb hby d4_39) (fun _ _ => ⟨rfl, eh7, (by show cells + 1 ≤ 5; omega), (by show slots + 8 ≤ 40; omega)⟩)
      dsimp only [Pt.U, Pt.locs, Pt.cells, Pt.slots] at X8 l8 y8 z8 st8 hQ8
      rw [y8, z8] at X8
      obtain ⟨b8, kb8, rfl, N8q, gs_b8, Kc8, P8_0, P8_1, P8_2, P8_3, P8_4, P8_5, P8_6, P8_7, P8_8⟩ := hQ8
      have N8 : Fr n0 L8 := by rw [l8]; exact Fr.app N7 N8q
      clear l8
      have ne_a0_b8 : a0 ≠ b8 := Nat.ne_of_lt (Nat.lt_of_lt_of_le E_a0.lt gs_b8.2)
      have ne_nr_b8 : nr ≠ b8 := Nat.ne_of_lt (Nat.lt_of_lt_of_le V_nr.lt gs_b8.2)
      have sz_b8 : h0.size ≤ b8 := Nat.le_trans K0.1 gs_b8.2
      have E_a0 : Exa Z T8.heap a0 "com/example/wadjet/wadjet/storage/IntegerChunk" := E_a0.keep Kc8
      have V_nr : Arv Z T8.heap nr kn .char nn (ys.map Value.int) (.int (0 : Int32)) := V_nr.keep Kc8 (ninS ne_nr_a0 nin0)
      have ZT8_heap : n0 ≤ T8.heap.size := Nat.le_trans Z0 Kc8.1
      have KT8_heap : Keep h0 T8.heap [a0, nr] := K0.trans Kc8 (allS (Or.inl (by simp)) all0)
      have E_a0 : Exa Z T8.heap a0 "com/example/wadjet/wadjet/storage/IntegerChunk" := P8_0
      have F_width_a0 : Fld Z T8.heap a0 "com/example/wadjet/wadjet/storage/IntegerChunk" "width" "I" (.int (2 : Int32)) := P8_1
      have F_base_a0 : Fld Z T8.heap a0 "com/example/wadjet/wadjet/storage/IntegerChunk" "base" "J" (.long bb) := P8_2
      have F_based_a0 : Fld Z T8.heap a0 "com/example/wadjet/wadjet/storage/IntegerChunk" "based" "Z" bd := P8_3
      have F_narrow_a0 : Fld Z T8.heap a0 "com/example/wadjet/wadjet/storage/IntegerChunk" "narrow" "[B" vn := P8_4
      have F_middle_a0 : Fld Z T8.heap a0 "com/example/wadjet/wadjet/storage/IntegerChunk" "middle" "[C" (.ref b8) := P8_5
      have F_wide_a0 : Fld Z T8.heap a0 "com/example/wadjet/wadjet/storage/IntegerChunk" "wide" "[I" vw := P8_6
      have F_nulls_a0 : Fld Z T8.heap a0 "com/example/wadjet/wadjet/storage/IntegerChunk" "nulls" "[J" .null := P8_7
      have V_b8 : Arv Z T8.heap b8 kb8 .char gw ((own_cp ys gw.toNatClampNeg).map Value.int) (.int (0 : Int32)) := P8_8
      refine ⟨T8, _, _, (cells + 1), (slots + 8), (2 : Int32), bb, gw, (own_cp ys gw.toNatClampNeg), X8, rfl, N8, ZT8_heap, ⟨g_a0, E_a0, _, _, _, _, _, gs_b8.1, (Ne.symm ne_a0_b8), F_width_a0, F_base_a0, F_based_a0, F_narrow_a0, F_middle_a0, F_wide_a0, F_nulls_a0, Or.inr (Or.inl ⟨rfl, rfl, V_b8⟩)⟩, ⟨rfl, rfl, Or.inr ⟨hc27, h_gw, by rw [h_gw]⟩⟩, by omega, by omega, fun target kt => ?_⟩
      show Steps p.tables e below (T0.setTop (mkF m 22 #[.val (.ref a0), .val (.int p1), .val (.long q2), .second] [])) _
      refine XS.iloadN X0.here hx rfl (hb hby d4_22) rfl ?_
      refine XS.aloadN X0.here hx rfl (hb hby d4_23) rfl rfl ?_
      refine st5.trans ?_
      show Steps p.tables e below (T5.setTop (mkF m 27 #[.val (.ref a0), .val (.int p1), .val (.long q2), .second] [(.int nn), (.int p1)])) _
      refine XS.icmpNo X5.here hx rfl (hb hby d4_27) rfl (flt hc27).1 ?_
      refine XS.aloadN X5.here hx rfl (hb hby d4_30) rfl rfl ?_
      refine XS.aloadN X5.here hx rfl (hb hby d4_31) rfl rfl ?_
      refine st6.trans ?_
      show Steps p.tables e below (T6.setTop (mkF m 35 #[.val (.ref a0), .val (.int p1), .val (.long q2), .second] [(.int nn), (.ref a0)])) _
      refine XS.iloadN X6.here hx rfl (hb hby d4_35) rfl ?_
      refine st7 _ ?_
      show Steps p.tables e below (T7.setTop (mkF m 39 #[.val (.ref a0), .val (.int p1), .val (.long q2), .second] [(.int (own_grow nn p1)), (.ref a0)])) _
      rw [← h_gw]
      show Steps p.tables e below (T7.setTop (mkF m 39 #[.val (.ref a0), .val (.int p1), .val (.long q2), .second] [(.int gw), (.ref a0)])) _
      refine st8.trans ?_
      show Steps p.tables e below (T8.setTop (mkF m 42 #[.val (.ref a0), .val (.int p1), .val (.long q2), .second] [])) _
      exact kt
  · have K0 : Keep h0 h0 [a0, nr] := Keep.refl _ _
    obtain ⟨cq9, qv9, qv9'⟩ := E_a0.cell
    obtain ⟨_, _, ⟨T9, L9, k9, n9⟩, -, X9, ⟨Lc9, hQ9, l9, y9, z9⟩, st9⟩ := X0.privateBack hx (y := (⟨"com/example/wadjet/wadjet/storage/IntegerChunk", "capacity", "()I"⟩ : MethodName)) hown (mvT hZ (hw _ (List.mem_of_getElem? (i := 32) rfl))) (mvT hZ (hw _ (List.mem_of_getElem? (i := 33) rfl))) (own_selP hZ (hw _ (List.mem_of_getElem? (i := 1) rfl)) (hw _ (List.mem_of_getElem? (i := 34) rfl)) (hw _ (List.mem_of_getElem? (i := 33) rfl)) (by decide)) (Cond.privateMethod_at (mvP hZ (hw _ (List.mem_of_getElem? (i := 34) rfl)) (args := #[]))) (mvT hZ (hw _ (List.mem_of_getElem? (i := 35) rfl))) (by decide) (backOf (W := 1) (rmC_4 l Z A0 hw [] a0 nr kn nn ys h0 n0 Z0 F_width_a0 F_wide_a0 V_nr) hZ (hw _ (List.mem_of_getElem? (i := 35) rfl)) (hw _ (List.mem_of_getElem? (i := 2) rfl)) (by decide) (by decide)) (g := (mkF m 24 #[.val (.ref a0), .val (.int p1), .val (.long q2), .second] [(.ref a0), (.int p1)])) rfl (by rw [hml]; rfl) (Steps.refl _) (a := a0) (by rw [e0]; exact qv9) qv9' (argsL := []) (rest := [(.int p1)]) (lenOf pd_7 rfl) rfl (by show 2 * 0 + _ ≤ _; exact Nat.le_of_eq rfl) (hb hby d4_24) (fun _ _ => ⟨rfl, e0, (by show cells + 0 ≤ 5; omega), (by show slots + 0 ≤ 40; omega)⟩)
    dsimp only [Pt.U, Pt.locs, Pt.cells, Pt.slots] at X9 l9 y9 z9 st9 hQ9
    rw [y9, z9] at X9
    obtain ⟨rfl, N9q, eh9⟩ := hQ9
    have N9 : Fr n0 L9 := by rw [l9]; exact Fr.app N0 N9q
    clear l9
    by_cases hc27 : p1 < nn
    · refine ⟨T9, _, _, cells, slots, (4 : Int32), bb, nn, ys, X9, eh9, N9, Z0, ⟨g_a0, E_a0, _, _, _, _, _, g_nr, ne_nr_a0, F_width_a0, F_base_a0, F_based_a0, F_narrow_a0, F_middle_a0, F_wide_a0, F_nulls_a0, Or.inr (Or.inr ⟨rfl, rfl, V_nr⟩)⟩, ⟨rfl, rfl, Or.inl ⟨hc27, rfl, rfl⟩⟩, by omega, by omega, fun target kt => ?_⟩
      show Steps p.tables e below (T0.setTop (mkF m 22 #[.val (.ref a0), .val (.int p1), .val (.long q2), .second] [])) _
      refine XS.iloadN X0.here hx rfl (hb hby d4_22) rfl ?_
      refine XS.aloadN X0.here hx rfl (hb hby d4_23) rfl rfl ?_
      refine st9.trans ?_
      show Steps p.tables e below (T9.setTop (mkF m 27 #[.val (.ref a0), .val (.int p1), .val (.long q2), .second] [(.int nn), (.int p1)])) _
      refine XS.icmpYes X9.here hx rfl (pc0 := 27) (pc' := 42) rfl (hb hby d4_27) rfl (tlt hc27).1 (by decide) (by decide) ?_
      show Steps p.tables e below (T9.setTop (mkF m 42 #[.val (.ref a0), .val (.int p1), .val (.long q2), .second] [])) _
      exact kt
    · obtain ⟨cq10, qv10, qv10'⟩ := E_a0.cell
      obtain ⟨_, _, ⟨T10, L10, k10, n10⟩, -, X10, ⟨Lc10, hQ10, l10, y10, z10⟩, st10⟩ := X9.privateBack hx (y := (⟨"com/example/wadjet/wadjet/storage/IntegerChunk", "capacity", "()I"⟩ : MethodName)) hown (mvT hZ (hw _ (List.mem_of_getElem? (i := 32) rfl))) (mvT hZ (hw _ (List.mem_of_getElem? (i := 33) rfl))) (own_selP hZ (hw _ (List.mem_of_getElem? (i := 1) rfl)) (hw _ (List.mem_of_getElem? (i := 34) rfl)) (hw _ (List.mem_of_getElem? (i := 33) rfl)) (by decide)) (Cond.privateMethod_at (mvP hZ (hw _ (List.mem_of_getElem? (i := 34) rfl)) (args := #[]))) (mvT hZ (hw _ (List.mem_of_getElem? (i := 35) rfl))) (by decide) (backOf (W := 1) (rmC_4 l Z A0 hw [] a0 nr kn nn ys h0 n0 Z0 F_width_a0 F_wide_a0 V_nr) hZ (hw _ (List.mem_of_getElem? (i := 35) rfl)) (hw _ (List.mem_of_getElem? (i := 2) rfl)) (by decide) (by decide)) (g := (mkF m 32 #[.val (.ref a0), .val (.int p1), .val (.long q2), .second] [(.ref a0), (.ref a0)])) rfl (by rw [hml]; rfl) (Steps.refl _) (a := a0) (by rw [eh9]; exact qv10) qv10' (argsL := []) (rest := [(.ref a0)]) (lenOf pd_7 rfl) rfl (by show 2 * 0 + _ ≤ _; exact Nat.le_of_eq rfl) (hb hby d4_32) (fun _ _ => ⟨rfl, eh9, (by show cells + 0 ≤ 5; omega), (by show slots + 0 ≤ 40; omega)⟩)
      dsimp only [Pt.U, Pt.locs, Pt.cells, Pt.slots] at X10 l10 y10 z10 st10 hQ10
      rw [y10, z10] at X10
      obtain ⟨rfl, N10q, eh10⟩ := hQ10
      have N10 : Fr n0 L10 := by rw [l10]; exact Fr.app N9 N10q
      clear l10
      have hgr := own_growb hp hN hc27
      have hslot : 0 < p1.toInt ∧ p1.toInt < 256 := by omega
      obtain ⟨_, _, ⟨T11, L11, k11, n11⟩, -, X11, ⟨Lc11, hQ11, l11, y11, z11⟩, st11⟩ := own_callSU X10 hx (x := (⟨"com/example/wadjet/wadjet/storage/IntegerChunk", "grownCapacity", "(II)I"⟩ : MethodName)) (owner := "com/example/wadjet/wadjet/storage/ColumnChunk") hown (mvT hZ (hw _ (List.mem_of_getElem? (i := 64) rfl))) (mvT hZ (hw _ (List.mem_of_getElem? (i := 65) rfl))) (mvT hZ (hw _ (List.mem_of_getElem? (i := 66) rfl))) (mvT hZ (hw _ (List.mem_of_getElem? (i := 9) rfl))) (mvT hZ (hw _ (List.mem_of_getElem? (i := 67) rfl))) (by decide) (backOf (W := 1) (rm12 l Z A0 hw [] nn p1  h0 n0 Z0 (hslot)) hZ (hw _ (List.mem_of_getElem? (i := 67) rfl)) (hw _ (List.mem_of_getElem? (i := 9) rfl)) (by decide) (by decide)) (g := (mkF m 36 #[.val (.ref a0), .val (.int p1), .val (.long q2), .second] [(.int p1), (.int nn), (.ref a0)])) rfl (by rw [hml]; rfl) (argsL := [(.int nn), (.int p1)]) (rest := [(.ref a0)]) (lenOf pd_1 rfl) rfl (by show 2 * 0 + _ ≤ _; exact Nat.le_of_eq rfl) (hb hby d4_36) (fun _ _ => ⟨rfl, eh10, (by show cells + 0 ≤ 5; omega), (by show slots + 0 ≤ 40; omega)⟩)
      dsimp only [Pt.U, Pt.locs, Pt.cells, Pt.slots] at X11 l11 y11 z11 st11 hQ11
      rw [y11, z11] at X11
      obtain ⟨rfl, N11q, eh11⟩ := hQ11
      have N11 : Fr n0 L11 := by rw [l11]; exact Fr.app N10 N11q
      clear l11
      obtain ⟨gw, h_gw⟩ : ∃ z : Int32, z = (own_grow nn p1) := ⟨_, rfl⟩
      have hgb : nn.toInt = 4 ∧ gw.toInt = 8 := by rw [h_gw]; exact hgr.2
      have hrne : ¬ (gw = nn) := by intro q; rw [q] at hgb; omega
      have hrle : 0 ≤ nn.toInt ∧ nn.toInt ≤ gw.toInt ∧ gw.toInt ≤ 8 := by omega
      obtain ⟨cq12, qv12, qv12'⟩ := E_a0.cell
      obtain ⟨_, _, ⟨T12, L12, k12, n12⟩, -, X12, ⟨Lc12, hQ12, l12, y12, z12⟩, st12⟩ := X11.privateBack hx (y := (⟨"com/example/wadjet/wadjet/storage/IntegerChunk", "resize", "(I)V"⟩ : MethodName)) hown (mvT hZ (hw _ (List.mem_of_getElem? (i := 83) rfl))) (mvT hZ (hw _ (List.mem_of_getElem? (i := 84) rfl))) (own_selP hZ (hw _ (List.mem_of_getElem? (i := 1) rfl)) (hw _ (List.mem_of_getElem? (i := 85) rfl)) (hw _ (List.mem_of_getElem? (i := 84) rfl)) (by decide)) (Cond.privateMethod_at (mvP hZ (hw _ (List.mem_of_getElem? (i := 85) rfl)) (args := #[]))) (mvT hZ (hw _ (List.mem_of_getElem? (i := 86) rfl))) (by decide) (backOf (W := 0) (rmR_4 l Z A0 hw [] a0 gw (.long bb) bd vn vm .null nr kn nn ys h0 n0 Z0 E_a0 F_width_a0 F_base_a0 F_based_a0 F_narrow_a0 F_middle_a0 F_wide_a0 F_nulls_a0 V_nr g_a0 ne_nr_a0 (hrne) (hrle) (hlen)) hZ (hw _ (List.mem_of_getElem? (i := 86) rfl)) (hw _ (List.mem_of_getElem? (i := 2) rfl)) (by decide) (by decide)) (g := (mkF m 39 #[.val (.ref a0), .val (.int p1), .val (.long q2), .second] [(.int gw), (.ref a0)])) rfl (by rw [hml]; rfl) (Steps.refl _) (a := a0) (by rw [eh11]; exact qv12) qv12' (argsL := [(.int gw)]) (rest := []) (lenOf pd_8 rfl) rfl (by show 2 * 0 + _ ≤ _; exact Nat.le_of_eq rfl) (hb hby d4_39) (fun _ _ => ⟨rfl, eh11, (by show cells + 1 ≤ 5; omega), (by show slots + 8 ≤ 40; omega)⟩)
      dsimp only [Pt.U, Pt.locs, Pt.cells, Pt.slots] at X12 l12 y12 z12 st12 hQ12
      rw [y12, z12] at X12
      obtain ⟨b12, kb12, rfl, N12q, gs_b12, Kc12, P12_0, P12_1, P12_2, P12_3, P12_4, P12_5, P12_6, P12_7, P12_8⟩ := hQ12
      have N12 : Fr n0 L12 := by rw [l12]; exact Fr.app N11 N12q
      clear l12
      have ne_a0_b12 : a0 ≠ b12 := Nat.ne_of_lt (Nat.lt_of_lt_of_le E_a0.lt gs_b12.2)
      have ne_nr_b12 : nr ≠ b12 := Nat.ne_of_lt (Nat.lt_of_lt_of_le V_nr.lt gs_b12.2)
      have sz_b12 : h0.size ≤ b12 := Nat.le_trans K0.1 gs_b12.2
      have E_a0 : Exa Z T12.heap a0 "com/example/wadjet/wadjet/storage/IntegerChunk" := E_a0.keep Kc12
      have V_nr : Arv Z T12.heap nr kn .int nn (ys.map Value.int) (.int (0 : Int32)) := V_nr.keep Kc12 (ninS ne_nr_a0 nin0)
      have ZT12_heap : n0 ≤ T12.heap.size := Nat.le_trans Z0 Kc12.1
      have KT12_heap : Keep h0 T12.heap [a0, nr] := K0.trans Kc12 (allS (Or.inl (by simp)) all0)
      have E_a0 : Exa Z T12.heap a0 "com/example/wadjet/wadjet/storage/IntegerChunk" := P12_0
      have F_width_a0 : Fld Z T12.heap a0 "com/example/wadjet/wadjet/storage/IntegerChunk" "width" "I" (.int (4 : Int32)) := P12_1
      have F_base_a0 : Fld Z T12.heap a0 "com/example/wadjet/wadjet/storage/IntegerChunk" "base" "J" (.long bb) := P12_2
      have F_based_a0 : Fld Z T12.heap a0 "com/example/wadjet/wadjet/storage/IntegerChunk" "based" "Z" bd := P12_3
      have F_narrow_a0 : Fld Z T12.heap a0 "com/example/wadjet/wadjet/storage/IntegerChunk" "narrow" "[B" vn := P12_4
      have F_middle_a0 : Fld Z T12.heap a0 "com/example/wadjet/wadjet/storage/IntegerChunk" "middle" "[C" vm := P12_5
      have F_wide_a0 : Fld Z T12.heap a0 "com/example/wadjet/wadjet/storage/IntegerChunk" "wide" "[I" (.ref b12) := P12_6
      have F_nulls_a0 : Fld Z T12.heap a0 "com/example/wadjet/wadjet/storage/IntegerChunk" "nulls" "[J" .null := P12_7
      have V_b12 : Arv Z T12.heap b12 kb12 .int gw ((own_cp ys gw.toNatClampNeg).map Value.int) (.int (0 : Int32)) := P12_8
      refine ⟨T12, _, _, (cells + 1), (slots + 8), (4 : Int32), bb, gw, (own_cp ys gw.toNatClampNeg), X12, rfl, N12, ZT12_heap, ⟨g_a0, E_a0, _, _, _, _, _, gs_b12.1, (Ne.symm ne_a0_b12), F_width_a0, F_base_a0, F_based_a0, F_narrow_a0, F_middle_a0, F_wide_a0, F_nulls_a0, Or.inr (Or.inr ⟨rfl, rfl, V_b12⟩)⟩, ⟨rfl, rfl, Or.inr ⟨hc27, h_gw, by rw [h_gw]⟩⟩, by omega, by omega, fun target kt => ?_⟩
      show Steps p.tables e below (T0.setTop (mkF m 22 #[.val (.ref a0), .val (.int p1), .val (.long q2), .second] [])) _
      refine XS.iloadN X0.here hx rfl (hb hby d4_22) rfl ?_
      refine XS.aloadN X0.here hx rfl (hb hby d4_23) rfl rfl ?_
      refine st9.trans ?_
      show Steps p.tables e below (T9.setTop (mkF m 27 #[.val (.ref a0), .val (.int p1), .val (.long q2), .second] [(.int nn), (.int p1)])) _
      refine XS.icmpNo X9.here hx rfl (hb hby d4_27) rfl (flt hc27).1 ?_
      refine XS.aloadN X9.here hx rfl (hb hby d4_30) rfl rfl ?_
      refine XS.aloadN X9.here hx rfl (hb hby d4_31) rfl rfl ?_
      refine st10.trans ?_
      show Steps p.tables e below (T10.setTop (mkF m 35 #[.val (.ref a0), .val (.int p1), .val (.long q2), .second] [(.int nn), (.ref a0)])) _
      refine XS.iloadN X10.here hx rfl (hb hby d4_35) rfl ?_
      refine st11 _ ?_
      show Steps p.tables e below (T11.setTop (mkF m 39 #[.val (.ref a0), .val (.int p1), .val (.long q2), .second] [(.int (own_grow nn p1)), (.ref a0)])) _
      rw [← h_gw]
      show Steps p.tables e below (T11.setTop (mkF m 39 #[.val (.ref a0), .val (.int p1), .val (.long q2), .second] [(.int gw), (.ref a0)])) _
      refine st12.trans ?_
      show Steps p.tables e below (T12.setTop (mkF m 42 #[.val (.ref a0), .val (.int p1), .val (.long q2), .second] [])) _
      exact kt
theorem pd_9 : parseMethodDescriptor "(IJ)V" = some ⟨[.int, .long], none⟩ := by decide +kernel
theorem d4_42 : decode prog_257_method_8_code 42 = .ok (.aload_n 0, 1) := by decide +kernel
theorem d4_43 : decode prog_257_method_8_code 43 = .ok (.getfield 7, 3) := by decide +kernel
theorem d4_46 : decode prog_257_method_8_code 46 = .ok (.iconst 4, 1) := by decide +kernel
theorem d4_47 : decode prog_257_method_8_code 47 = .ok (.if_icmp .ge 37, 3) := by decide +kernel
theorem d4_50 : decode prog_257_method_8_code 50 = .ok (.lload_n 2, 1) := by decide +kernel
theorem d4_51 : decode prog_257_method_8_code 51 = .ok (.aload_n 0, 1) := by decide +kernel
theorem d4_52 : decode prog_257_method_8_code 52 = .ok (.getfield 35, 3) := by decide +kernel
theorem d4_55 : decode prog_257_method_8_code 55 = .ok (.lcmp, 1) := by decide +kernel
theorem d4_56 : decode prog_257_method_8_code 56 = .ok (.ifCond .lt 22, 3) := by decide +kernel
theorem d4_59 : decode prog_257_method_8_code 59 = .ok (.lload_n 2, 1) := by decide +kernel
theorem d4_60 : decode prog_257_method_8_code 60 = .ok (.aload_n 0, 1) := by decide +kernel
theorem d4_61 : decode prog_257_method_8_code 61 = .ok (.getfield 35, 3) := by decide +kernel
theorem d4_64 : decode prog_257_method_8_code 64 = .ok (.lsub, 1) := by decide +kernel
theorem d4_65 : decode prog_257_method_8_code 65 = .ok (.lconst 1, 1) := by decide +kernel
theorem d4_66 : decode prog_257_method_8_code 66 = .ok (.bipush 8, 2) := by decide +kernel
theorem d4_68 : decode prog_257_method_8_code 68 = .ok (.aload_n 0, 1) := by decide +kernel
theorem d4_69 : decode prog_257_method_8_code 69 = .ok (.getfield 7, 3) := by decide +kernel
theorem d4_72 : decode prog_257_method_8_code 72 = .ok (.imul, 1) := by decide +kernel
theorem d4_73 : decode prog_257_method_8_code 73 = .ok (.lshl, 1) := by decide +kernel
theorem d4_74 : decode prog_257_method_8_code 74 = .ok (.lcmp, 1) := by decide +kernel
theorem d4_75 : decode prog_257_method_8_code 75 = .ok (.ifCond .lt 9, 3) := by decide +kernel
theorem d4_78 : decode prog_257_method_8_code 78 = .ok (.aload_n 0, 1) := by decide +kernel
theorem d4_79 : decode prog_257_method_8_code 79 = .ok (.iload_n 1, 1) := by decide +kernel
theorem d4_80 : decode prog_257_method_8_code 80 = .ok (.lload_n 2, 1) := by decide +kernel
theorem d4_81 : decode prog_257_method_8_code 81 = .ok (.invokevirtual 81, 3) := by decide +kernel
set_option maxRecDepth 65536 in
set_option maxHeartbeats 40000000 in
theorem sg3 {p : Program} {l : Launch} {e : Env} {s : State} {m : MethodId} {args : Array Value} {below : List Frame} {meth : Method} {c : Code} {T0 : State} {locs : List Loc} {cells slots : Nat} {Z : State} {A0 : Array Value} {h0 : Heap} {n0 : Nat} (a0 : Addr) (p1 : Int32) (q2 : Int64) (w : Int32) (bb : Int64) (bd : Value) (nn : Int32) (ys : List Int32) (X0 : Stand p l e ({ frames := 3, cells := 5, slots := 40, locals := 90 } : Room) s m args below meth c T0 locs cells slots) (hx : p.tables.exec = Jvm.exec) (hZ : Z.Warmed39 s.vm) (hw : ∀ d ∈ tables_1, d.before A0 Z = true) (hby : c.code = prog_257_method_8_code) (hml : c.maxLocals = 4) (hown : s.vm.findClass "com/example/wadjet/wadjet/storage/IntegerChunk" = some m.cls) (e0 : T0.heap = h0) (N0 : Fr n0 locs) (Z0 : n0 ≤ h0.size) (hN : nn.toInt = 4 ∨ nn.toInt = 8) (hcl : cells + 2 ≤ 5) (hsl : slots + 16 ≤ 40) (HK : own_K Z h0 n0 a0 w bb bd nn ys) :
    ∃ (T' : State) (h' : Heap) (locs' : List Loc) (c' s' : Nat) (w' : Int32) (b' : Int64) (N' : Int32) (ys' : List Int32), Stand p l e ({ frames := 3, cells := 5, slots := 40, locals := 90 } : Room) s m args below meth c T' locs' c' s' ∧ T'.heap = h' ∧ Fr n0 locs' ∧ n0 ≤ h'.size ∧ own_K Z h' n0 a0 w' b' bd N' ys' ∧ (N' = nn ∧ own_ws w bb ys p1 q2 nn.toNatClampNeg w' b' ys') ∧ c' ≤ cells + 2 ∧ s' ≤ slots + 16 ∧
      ∀ target, Steps p.tables e below (T'.setTop (mkF m 84 #[.val (.ref a0), .val (.int p1), .val (.long q2), .second] [])) target → Steps p.tables e below (T0.setTop (mkF m 42 #[.val (.ref a0), .val (.int p1), .val (.long q2), .second] [])) target := by
  obtain ⟨g_a0, E_a0, nr, kn, vn, vm, vw, g_nr, ne_nr_a0, F_width_a0, F_base_a0, F_based_a0, F_narrow_a0, F_middle_a0, F_wide_a0, F_nulls_a0, HV⟩ := HK
  rcases HV with ⟨rfl, rfl, V_nr⟩ | ⟨rfl, rfl, V_nr⟩ | ⟨rfl, rfl, V_nr⟩
  · have K0 : Keep h0 h0 [a0, nr] := Keep.refl _ _
    obtain ⟨T1, X1, e1, st1⟩ := getF X0 hx hZ hown (host := "") (Or.inl (hw _ (List.mem_of_getElem? (i := 14) rfl))) Via.refl e0 F_width_a0 (g := (mkF m 43 #[.val (.ref a0), .val (.int p1), .val (.long q2), .second] [(.ref a0)])) rfl rfl (hb hby d4_43)
    obtain ⟨T2, X2, e2, st2⟩ := getF X1 hx hZ hown (host := "") (Or.inl (hw _ (List.mem_of_getElem? (i := 30) rfl))) Via.refl e1 F_base_a0 (g := (mkF m 52 #[.val (.ref a0), .val (.int p1), .val (.long q2), .second] [(.ref a0), (.long q2)])) rfl rfl (hb hby d4_52)
    by_cases hc56 : q2 < bb
    · obtain ⟨cq3, qv3, qv3'⟩ := E_a0.cell
      obtain ⟨_, _, ⟨T3, L3, k3, n3⟩, -, X3, ⟨Lc3, hQ3, l3, y3, z3⟩, st3⟩ := X2.privateBack hx (y := (⟨"com/example/wadjet/wadjet/storage/IntegerChunk", "widen", "(IJ)V"⟩ : MethodName)) hown (mvT hZ (hw _ (List.mem_of_getElem? (i := 47) rfl))) (mvT hZ (hw _ (List.mem_of_getElem? (i := 48) rfl))) (own_selP hZ (hw _ (List.mem_of_getElem? (i := 1) rfl)) (hw _ (List.mem_of_getElem? (i := 49) rfl)) (hw _ (List.mem_of_getElem? (i := 48) rfl)) (by decide)) (Cond.privateMethod_at (mvP hZ (hw _ (List.mem_of_getElem? (i := 49) rfl)) (args := #[]))) (mvT hZ (hw _ (List.mem_of_getElem? (i := 50) rfl))) (by decide) (backOf (W := 0) (rmW_1 l Z A0 hw [] a0 p1 q2 bd vm vw bb nr kn nn ys h0 n0 Z0 E_a0 F_width_a0 F_base_a0 F_based_a0 F_narrow_a0 F_middle_a0 F_wide_a0 F_nulls_a0 V_nr g_a0 ne_nr_a0 (by omega)) hZ (hw _ (List.mem_of_getElem? (i := 50) rfl)) (hw _ (List.mem_of_getElem? (i := 2) rfl)) (by decide) (by decide)) (g := (mkF m 81 #[.val (.ref a0), .val (.int p1), .val (.long q2), .second] [(.long q2), (.int p1), (.ref a0)])) rfl (by rw [hml]; rfl) (Steps.refl _) (a := a0) (by rw [e2]; exact qv3) qv3' (argsL := [(.int p1), (.long q2)]) (rest := []) (lenOf pd_9 rfl) rfl (by show 2 * 0 + _ ≤ _; exact Nat.le_of_eq rfl) (hb hby d4_81) (fun _ _ => ⟨rfl, e2, (by show cells + 2 ≤ 5; omega), (by show slots + 16 ≤ 40; omega)⟩)
      dsimp only [Pt.U, Pt.locs, Pt.cells, Pt.slots] at X3 l3 y3 z3 st3 hQ3
      rw [y3, z3] at X3
      obtain ⟨rfl, N3q, hsz3, wq3, bq3, yq3, HW3, HK3⟩ := hQ3
      have N3 : Fr n0 L3 := by rw [l3]; exact Fr.app N0 N3q
      clear l3
      have Z_3 : n0 ≤ T3.heap.size := Nat.le_trans Z0 hsz3
      refine ⟨T3, _, _, (cells + 2), (slots + 16), wq3, bq3, nn, yq3, X3, rfl, N3, Z_3, HK3, ⟨rfl, Or.inr ⟨Or.inl rfl, HW3⟩⟩, by omega, by omega, fun target kt => ?_⟩
      show Steps p.tables e below (T0.setTop (mkF m 42 #[.val (.ref a0), .val (.int p1), .val (.long q2), .second] [])) _
      refine XS.aloadN X0.here hx rfl (hb hby d4_42) rfl rfl ?_
      refine st1 _ ?_
      show Steps p.tables e below (T1.setTop (mkF m 46 #[.val (.ref a0), .val (.int p1), .val (.long q2), .second] [(.int (1 : Int32))])) _
      refine XS.iconst X1.here hx rfl (hb hby d4_46) ?_
      show Steps p.tables e below (T1.setTop (mkF m 47 #[.val (.ref a0), .val (.int p1), .val (.long q2), .second] [(.int (4 : Int32)), (.int (1 : Int32))])) _
      refine XS.icmpNo X1.here hx rfl (hb hby d4_47) rfl (tlt (by decide : (1 : Int32) < (4 : Int32))).2.1 ?_
      refine XS.lloadN X1.here hx rfl (hb hby d4_50) rfl ?_
      refine XS.aloadN X1.here hx rfl (hb hby d4_51) rfl rfl ?_
      refine st2 _ ?_
      show Steps p.tables e below (T2.setTop (mkF m 55 #[.val (.ref a0), .val (.int p1), .val (.long q2), .second] [(.long bb), (.long q2)])) _
      refine XS.lcmp X2.here hx rfl (hb hby d4_55) rfl ?_
      refine XS.ifYes X2.here hx rfl (pc0 := 56) (pc' := 78) rfl (hb hby d4_56) rfl ((if0 _ _).trans (tlt ((lw_lt _ _).mpr hc56)).1) (by decide) (by decide) ?_
      show Steps p.tables e below (T2.setTop (mkF m 78 #[.val (.ref a0), .val (.int p1), .val (.long q2), .second] [])) _
      refine XS.aloadN X2.here hx rfl (hb hby d4_78) rfl rfl ?_
      refine XS.iloadN X2.here hx rfl (hb hby d4_79) rfl ?_
      show Steps p.tables e below (T2.setTop (mkF m 80 #[.val (.ref a0), .val (.int p1), .val (.long q2), .second] [(.int p1), (.ref a0)])) _
      refine XS.lloadN X2.here hx rfl (hb hby d4_80) rfl ?_
      refine st3.trans ?_
      show Steps p.tables e below (T3.setTop (mkF m 84 #[.val (.ref a0), .val (.int p1), .val (.long q2), .second] [])) _
      exact kt
    · obtain ⟨T4, X4, e4, st4⟩ := getF X2 hx hZ hown (host := "") (Or.inl (hw _ (List.mem_of_getElem? (i := 30) rfl))) Via.refl e2 F_base_a0 (g := (mkF m 61 #[.val (.ref a0), .val (.int p1), .val (.long q2), .second] [(.ref a0), (.long q2)])) rfl rfl (hb hby d4_61)
      obtain ⟨T5, X5, e5, st5⟩ := getF X4 hx hZ hown (host := "") (Or.inl (hw _ (List.mem_of_getElem? (i := 14) rfl))) Via.refl e4 F_width_a0 (g := (mkF m 69 #[.val (.ref a0), .val (.int p1), .val (.long q2), .second] [(.ref a0), (.int (8 : Int32)), (.long (1 : Int64)), (.long (q2 - bb))])) rfl rfl (hb hby d4_69)
      by_cases hc75 : (q2 - bb) < ((1 : Int64) <<< (((8 : Int32) * (1 : Int32)) &&& 0x3f).toInt64)
      · refine ⟨T5, _, _, cells, slots, (1 : Int32), bb, nn, ys, X5, e5, N0, Z0, ⟨g_a0, E_a0, _, _, _, _, _, g_nr, ne_nr_a0, F_width_a0, F_base_a0, F_based_a0, F_narrow_a0, F_middle_a0, F_wide_a0, F_nulls_a0, Or.inl ⟨rfl, rfl, V_nr⟩⟩, ⟨rfl, Or.inl ⟨rfl, rfl, rfl, Or.inr ⟨Or.inl rfl, hc56, hc75⟩⟩⟩, by omega, by omega, fun target kt => ?_⟩
        show Steps p.tables e below (T0.setTop (mkF m 42 #[.val (.ref a0), .val (.int p1), .val (.long q2), .second] [])) _
        refine XS.aloadN X0.here hx rfl (hb hby d4_42) rfl rfl ?_
        refine st1 _ ?_
        show Steps p.tables e below (T1.setTop (mkF m 46 #[.val (.ref a0), .val (.int p1), .val (.long q2), .second] [(.int (1 : Int32))])) _
        refine XS.iconst X1.here hx rfl (hb hby d4_46) ?_
        show Steps p.tables e below (T1.setTop (mkF m 47 #[.val (.ref a0), .val (.int p1), .val (.long q2), .second] [(.int (4 : Int32)), (.int (1 : Int32))])) _
        refine XS.icmpNo X1.here hx rfl (hb hby d4_47) rfl (tlt (by decide : (1 : Int32) < (4 : Int32))).2.1 ?_
        refine XS.lloadN X1.here hx rfl (hb hby d4_50) rfl ?_
        refine XS.aloadN X1.here hx rfl (hb hby d4_51) rfl rfl ?_
        refine st2 _ ?_
        show Steps p.tables e below (T2.setTop (mkF m 55 #[.val (.ref a0), .val (.int p1), .val (.long q2), .second] [(.long bb), (.long q2)])) _
        refine XS.lcmp X2.here hx rfl (hb hby d4_55) rfl ?_
        refine XS.ifNo X2.here hx rfl (hb hby d4_56) rfl ((if0 _ _).trans (flt (mt (lw_lt _ _).mp hc56)).1) ?_
        refine XS.lloadN X2.here hx rfl (hb hby d4_59) rfl ?_
        refine XS.aloadN X2.here hx rfl (hb hby d4_60) rfl rfl ?_
        show Steps p.tables e below (T2.setTop (mkF m 61 #[.val (.ref a0), .val (.int p1), .val (.long q2), .second] [(.ref a0), (.long q2)])) _
        refine st4 _ ?_
        show Steps p.tables e below (T4.setTop (mkF m 64 #[.val (.ref a0), .val (.int p1), .val (.long q2), .second] [(.long bb), (.long q2)])) _
        refine XS.lsub X4.here hx rfl (hb hby d4_64) rfl ?_
        refine XS.lconst X4.here hx rfl (hb hby d4_65) ?_
        refine XS.bipush X4.here hx rfl (hb hby d4_66) ?_
        show Steps p.tables e below (T4.setTop (mkF m 68 #[.val (.ref a0), .val (.int p1), .val (.long q2), .second] [(.int (8 : Int32)), (.long (1 : Int64)), (.long (q2 - bb))])) _
        refine XS.aloadN X4.here hx rfl (hb hby d4_68) rfl rfl ?_
        refine st5 _ ?_
        show Steps p.tables e below (T5.setTop (mkF m 72 #[.val (.ref a0), .val (.int p1), .val (.long q2), .second] [(.int (1 : Int32)), (.int (8 : Int32)), (.long (1 : Int64)), (.long (q2 - bb))])) _
        refine XS.imul X5.here hx rfl (hb hby d4_72) rfl ?_
        refine XS.lshl X5.here hx rfl (hb hby d4_73) rfl ?_
        show Steps p.tables e below (T5.setTop (mkF m 74 #[.val (.ref a0), .val (.int p1), .val (.long q2), .second] [(.long ((1 : Int64) <<< (((8 : Int32) * (1 : Int32)) &&& 0x3f).toInt64)), (.long (q2 - bb))])) _
        refine XS.lcmp X5.here hx rfl (hb hby d4_74) rfl ?_
        refine XS.ifYes X5.here hx rfl (pc0 := 75) (pc' := 84) rfl (hb hby d4_75) rfl ((if0 _ _).trans (tlt ((lw_lt _ _).mpr hc75)).1) (by decide) (by decide) ?_
        show Steps p.tables e below (T5.setTop (mkF m 84 #[.val (.ref a0), .val (.int p1), .val (.long q2), .second] [])) _
        exact kt
      · obtain ⟨cq6, qv6, qv6'⟩ := E_a0.cell
        obtain ⟨_, _, ⟨T6, L6, k6, n6⟩, -, X6, ⟨Lc6, hQ6, l6, y6, z6⟩, st6⟩ := X5.privateBack hx (y := (⟨"com/example/wadjet/wadjet/storage/IntegerChunk", "widen", "(IJ)V"⟩ : MethodName)) hown (mvT hZ (hw _ (List.mem_of_getElem? (i := 47) rfl))) (mvT hZ (hw _ (List.mem_of_getElem? (i := 48) rfl))) (own_selP hZ (hw _ (List.mem_of_getElem? (i := 1) rfl)) (hw _ (List.mem_of_getElem? (i := 49) rfl)) (hw _ (List.mem_of_getElem? (i := 48) rfl)) (by decide)) (Cond.privateMethod_at (mvP hZ (hw _ (List.mem_of_getElem? (i := 49) rfl)) (args := #[]))) (mvT hZ (hw _ (List.mem_of_getElem? (i := 50) rfl))) (by decide) (backOf (W := 0) (rmW_1 l Z A0 hw [] a0 p1 q2 bd vm vw bb nr kn nn ys h0 n0 Z0 E_a0 F_width_a0 F_base_a0 F_based_a0 F_narrow_a0 F_middle_a0 F_wide_a0 F_nulls_a0 V_nr g_a0 ne_nr_a0 (by omega)) hZ (hw _ (List.mem_of_getElem? (i := 50) rfl)) (hw _ (List.mem_of_getElem? (i := 2) rfl)) (by decide) (by decide)) (g := (mkF m 81 #[.val (.ref a0), .val (.int p1), .val (.long q2), .second] [(.long q2), (.int p1), (.ref a0)])) rfl (by rw [hml]; rfl) (Steps.refl _) (a := a0) (by rw [e5]; exact qv6) qv6' (argsL := [(.int p1), (.long q2)]) (rest := []) (lenOf pd_9 rfl) rfl (by show 2 * 0 + _ ≤ _; exact Nat.le_of_eq rfl) (hb hby d4_81) (fun _ _ => ⟨rfl, e5, (by show cells + 2 ≤ 5; omega), (by show slots + 16 ≤ 40; omega)⟩)
        dsimp only [Pt.U, Pt.locs, Pt.cells, Pt.slots] at X6 l6 y6 z6 st6 hQ6
        rw [y6, z6] at X6
        obtain ⟨rfl, N6q, hsz6, wq6, bq6, yq6, HW6, HK6⟩ := hQ6
        have N6 : Fr n0 L6 := by rw [l6]; exact Fr.app N0 N6q
        clear l6
        have Z_6 : n0 ≤ T6.heap.size := Nat.le_trans Z0 hsz6
        refine ⟨T6, _, _, (cells + 2), (slots + 16), wq6, bq6, nn, yq6, X6, rfl, N6, Z_6, HK6, ⟨rfl, Or.inr ⟨Or.inl rfl, HW6⟩⟩, by omega, by omega, fun target kt => ?_⟩
        show Steps p.tables e below (T0.setTop (mkF m 42 #[.val (.ref a0), .val (.int p1), .val (.long q2), .second] [])) _
        refine XS.aloadN X0.here hx rfl (hb hby d4_42) rfl rfl ?_
        refine st1 _ ?_
        show Steps p.tables e below (T1.setTop (mkF m 46 #[.val (.ref a0), .val (.int p1), .val (.long q2), .second] [(.int (1 : Int32))])) _
        refine XS.iconst X1.here hx rfl (hb hby d4_46) ?_
        show Steps p.tables e below (T1.setTop (mkF m 47 #[.val (.ref a0), .val (.int p1), .val (.long q2), .second] [(.int (4 : Int32)), (.int (1 : Int32))])) _
        refine XS.icmpNo X1.here hx rfl (hb hby d4_47) rfl (tlt (by decide : (1 : Int32) < (4 : Int32))).2.1 ?_
        refine XS.lloadN X1.here hx rfl (hb hby d4_50) rfl ?_
        refine XS.aloadN X1.here hx rfl (hb hby d4_51) rfl rfl ?_
        refine st2 _ ?_
        show Steps p.tables e below (T2.setTop (mkF m 55 #[.val (.ref a0), .val (.int p1), .val (.long q2), .second] [(.long bb), (.long q2)])) _
        refine XS.lcmp X2.here hx rfl (hb hby d4_55) rfl ?_
        refine XS.ifNo X2.here hx rfl (hb hby d4_56) rfl ((if0 _ _).trans (flt (mt (lw_lt _ _).mp hc56)).1) ?_
        refine XS.lloadN X2.here hx rfl (hb hby d4_59) rfl ?_
        refine XS.aloadN X2.here hx rfl (hb hby d4_60) rfl rfl ?_
        show Steps p.tables e below (T2.setTop (mkF m 61 #[.val (.ref a0), .val (.int p1), .val (.long q2), .second] [(.ref a0), (.long q2)])) _
        refine st4 _ ?_
        show Steps p.tables e below (T4.setTop (mkF m 64 #[.val (.ref a0), .val (.int p1), .val (.long q2), .second] [(.long bb), (.long q2)])) _
        refine XS.lsub X4.here hx rfl (hb hby d4_64) rfl ?_
        refine XS.lconst X4.here hx rfl (hb hby d4_65) ?_
        refine XS.bipush X4.here hx rfl (hb hby d4_66) ?_
        show Steps p.tables e below (T4.setTop (mkF m 68 #[.val (.ref a0), .val (.int p1), .val (.long q2), .second] [(.int (8 : Int32)), (.long (1 : Int64)), (.long (q2 - bb))])) _
        refine XS.aloadN X4.here hx rfl (hb hby d4_68) rfl rfl ?_
        refine st5 _ ?_
        show Steps p.tables e below (T5.setTop (mkF m 72 #[.val (.ref a0), .val (.int p1), .val (.long q2), .second] [(.int (1 : Int32)), (.int (8 : Int32)), (.long (1 : Int64)), (.long (q2 - bb))])) _
        refine XS.imul X5.here hx rfl (hb hby d4_72) rfl ?_
        refine XS.lshl X5.here hx rfl (hb hby d4_73) rfl ?_
        show Steps p.tables e below (T5.setTop (mkF m 74 #[.val (.ref a0), .val (.int p1), .val (.long q2), .second] [(.long ((1 : Int64) <<< (((8 : Int32) * (1 : Int32)) &&& 0x3f).toInt64)), (.long (q2 - bb))])) _
        refine XS.lcmp X5.here hx rfl (hb hby d4_74) rfl ?_
        refine XS.ifNo X5.here hx rfl (hb hby d4_75) rfl ((if0 _ _).trans (flt (mt (lw_lt _ _).mp hc75)).1) ?_
        refine XS.aloadN X5.here hx rfl (hb hby d4_78) rfl rfl ?_
        refine XS.iloadN X5.here hx rfl (hb hby d4_79) rfl ?_
        show Steps p.tables e below (T5.setTop (mkF m 80 #[.val (.ref a0), .val (.int p1), .val (.long q2), .second] [(.int p1), (.ref a0)])) _
        refine XS.lloadN X5.here hx rfl (hb hby d4_80) rfl ?_
        refine st6.trans ?_
        show Steps p.tables e below (T6.setTop (mkF m 84 #[.val (.ref a0), .val (.int p1), .val (.long q2), .second] [])) _
        exact kt
  · have K0 : Keep h0 h0 [a0, nr] := Keep.refl _ _
    obtain ⟨T7, X7, e7, st7⟩ := getF X0 hx hZ hown (host := "") (Or.inl (hw _ (List.mem_of_getElem? (i := 14) rfl))) Via.refl e0 F_width_a0 (g := (mkF m 43 #[.val (.ref a0), .val (.int p1), .val (.long q2), .second] [(.ref a0)])) rfl rfl (hb hby d4_43)
    obtain ⟨T8, X8, e8, st8⟩ := getF X7 hx hZ hown (host := "") (Or.inl (hw _ (List.mem_of_getElem? (i := 30) rfl))) Via.refl e7 F_base_a0 (g := (mkF m 52 #[.val (.ref a0), .val (.int p1), .val (.long q2), .second] [(.ref a0), (.long q2)])) rfl rfl (hb hby d4_52)
    by_cases hc56 : q2 < bb
    · obtain ⟨cq9, qv9, qv9'⟩ := E_a0.cell
      obtain ⟨_, _, ⟨T9, L9, k9, n9⟩, -, X9, ⟨Lc9, hQ9, l9, y9, z9⟩, st9⟩ := X8.privateBack hx (y := (⟨"com/example/wadjet/wadjet/storage/IntegerChunk", "widen", "(IJ)V"⟩ : MethodName)) hown (mvT hZ (hw _ (List.mem_of_getElem? (i := 47) rfl))) (mvT hZ (hw _ (List.mem_of_getElem? (i := 48) rfl))) (own_selP hZ (hw _ (List.mem_of_getElem? (i := 1) rfl)) (hw _ (List.mem_of_getElem? (i := 49) rfl)) (hw _ (List.mem_of_getElem? (i := 48) rfl)) (by decide)) (Cond.privateMethod_at (mvP hZ (hw _ (List.mem_of_getElem? (i := 49) rfl)) (args := #[]))) (mvT hZ (hw _ (List.mem_of_getElem? (i := 50) rfl))) (by decide) (backOf (W := 0) (rmW_2 l Z A0 hw [] a0 p1 q2 bd vn vw bb nr kn nn ys h0 n0 Z0 E_a0 F_width_a0 F_base_a0 F_based_a0 F_narrow_a0 F_middle_a0 F_wide_a0 F_nulls_a0 V_nr g_a0 ne_nr_a0 (by omega)) hZ (hw _ (List.mem_of_getElem? (i := 50) rfl)) (hw _ (List.mem_of_getElem? (i := 2) rfl)) (by decide) (by decide)) (g := (mkF m 81 #[.val (.ref a0), .val (.int p1), .val (.long q2), .second] [(.long q2), (.int p1), (.ref a0)])) rfl (by rw [hml]; rfl) (Steps.refl _) (a := a0) (by rw [e8]; exact qv9) qv9' (argsL := [(.int p1), (.long q2)]) (rest := []) (lenOf pd_9 rfl) rfl (by show 2 * 0 + _ ≤ _; exact Nat.le_of_eq rfl) (hb hby d4_81) (fun _ _ => ⟨rfl, e8, (by show cells + 2 ≤ 5; omega), (by show slots + 16 ≤ 40; omega)⟩)
      dsimp only [Pt.U, Pt.locs, Pt.cells, Pt.slots] at X9 l9 y9 z9 st9 hQ9
      rw [y9, z9] at X9
      obtain ⟨rfl, N9q, hsz9, wq9, bq9, yq9, HW9, HK9⟩ := hQ9
      have N9 : Fr n0 L9 := by rw [l9]; exact Fr.app N0 N9q
      clear l9
      have Z_9 : n0 ≤ T9.heap.size := Nat.le_trans Z0 hsz9
      refine ⟨T9, _, _, (cells + 2), (slots + 16), wq9, bq9, nn, yq9, X9, rfl, N9, Z_9, HK9, ⟨rfl, Or.inr ⟨Or.inr rfl, HW9⟩⟩, by omega, by omega, fun target kt => ?_⟩
      show Steps p.tables e below (T0.setTop (mkF m 42 #[.val (.ref a0), .val (.int p1), .val (.long q2), .second] [])) _
      refine XS.aloadN X0.here hx rfl (hb hby d4_42) rfl rfl ?_
      refine st7 _ ?_
      show Steps p.tables e below (T7.setTop (mkF m 46 #[.val (.ref a0), .val (.int p1), .val (.long q2), .second] [(.int (2 : Int32))])) _
      refine XS.iconst X7.here hx rfl (hb hby d4_46) ?_
      show Steps p.tables e below (T7.setTop (mkF m 47 #[.val (.ref a0), .val (.int p1), .val (.long q2), .second] [(.int (4 : Int32)), (.int (2 : Int32))])) _
      refine XS.icmpNo X7.here hx rfl (hb hby d4_47) rfl (tlt (by decide : (2 : Int32) < (4 : Int32))).2.1 ?_
      refine XS.lloadN X7.here hx rfl (hb hby d4_50) rfl ?_
      refine XS.aloadN X7.here hx rfl (hb hby d4_51) rfl rfl ?_
      refine st8 _ ?_
      show Steps p.tables e below (T8.setTop (mkF m 55 #[.val (.ref a0), .val (.int p1), .val (.long q2), .second] [(.long bb), (.long q2)])) _
      refine XS.lcmp X8.here hx rfl (hb hby d4_55) rfl ?_
      refine XS.ifYes X8.here hx rfl (pc0 := 56) (pc' := 78) rfl (hb hby d4_56) rfl ((if0 _ _).trans (tlt ((lw_lt _ _).mpr hc56)).1) (by decide) (by decide) ?_
      show Steps p.tables e below (T8.setTop (mkF m 78 #[.val (.ref a0), .val (.int p1), .val (.long q2), .second] [])) _
      refine XS.aloadN X8.here hx rfl (hb hby d4_78) rfl rfl ?_
      refine XS.iloadN X8.here hx rfl (hb hby d4_79) rfl ?_
      show Steps p.tables e below (T8.setTop (mkF m 80 #[.val (.ref a0), .val (.int p1), .val (.long q2), .second] [(.int p1), (.ref a0)])) _
      refine XS.lloadN X8.here hx rfl (hb hby d4_80) rfl ?_
      refine st9.trans ?_
      show Steps p.tables e below (T9.setTop (mkF m 84 #[.val (.ref a0), .val (.int p1), .val (.long q2), .second] [])) _
      exact kt
    · obtain ⟨T10, X10, e10, st10⟩ := getF X8 hx hZ hown (host := "") (Or.inl (hw _ (List.mem_of_getElem? (i := 30) rfl))) Via.refl e8 F_base_a0 (g := (mkF m 61 #[.val (.ref a0), .val (.int p1), .val (.long q2), .second] [(.ref a0), (.long q2)])) rfl rfl (hb hby d4_61)
      obtain ⟨T11, X11, e11, st11⟩ := getF X10 hx hZ hown (host := "") (Or.inl (hw _ (List.mem_of_getElem? (i := 14) rfl))) Via.refl e10 F_width_a0 (g := (mkF m 69 #[.val (.ref a0), .val (.int p1), .val (.long q2), .second] [(.ref a0), (.int (8 : Int32)), (.long (1 : Int64)), (.long (q2 - bb))])) rfl rfl (hb hby d4_69)
      by_cases hc75 : (q2 - bb) < ((1 : Int64) <<< (((8 : Int32) * (2 : Int32)) &&& 0x3f).toInt64)
      · refine ⟨T11, _, _, cells, slots, (2 : Int32), bb, nn, ys, X11, e11, N0, Z0, ⟨g_a0, E_a0, _, _, _, _, _, g_nr, ne_nr_a0, F_width_a0, F_base_a0, F_based_a0, F_narrow_a0, F_middle_a0, F_wide_a0, F_nulls_a0, Or.inr (Or.inl ⟨rfl, rfl, V_nr⟩)⟩, ⟨rfl, Or.inl ⟨rfl, rfl, rfl, Or.inr ⟨Or.inr rfl, hc56, hc75⟩⟩⟩, by omega, by omega, fun target kt => ?_⟩
        show Steps p.tables e below (T0.setTop (mkF m 42 #[.val (.ref a0), .val (.int p1), .val (.long q2), .second] [])) _
        refine XS.aloadN X0.here hx rfl (hb hby d4_42) rfl rfl ?_
        refine st7 _ ?_
        show Steps p.tables e below (T7.setTop (mkF m 46 #[.val (.ref a0), .val (.int p1), .val (.long q2), .second] [(.int (2 : Int32))])) _
        refine XS.iconst X7.here hx rfl (hb hby d4_46) ?_
        show Steps p.tables e below (T7.setTop (mkF m 47 #[.val (.ref a0), .val (.int p1), .val (.long q2), .second] [(.int (4 : Int32)), (.int (2 : Int32))])) _
        refine XS.icmpNo X7.here hx rfl (hb hby d4_47) rfl (tlt (by decide : (2 : Int32) < (4 : Int32))).2.1 ?_
        refine XS.lloadN X7.here hx rfl (hb hby d4_50) rfl ?_
        refine XS.aloadN X7.here hx rfl (hb hby d4_51) rfl rfl ?_
        refine st8 _ ?_
        show Steps p.tables e below (T8.setTop (mkF m 55 #[.val (.ref a0), .val (.int p1), .val (.long q2), .second] [(.long bb), (.long q2)])) _
        refine XS.lcmp X8.here hx rfl (hb hby d4_55) rfl ?_
        refine XS.ifNo X8.here hx rfl (hb hby d4_56) rfl ((if0 _ _).trans (flt (mt (lw_lt _ _).mp hc56)).1) ?_
        refine XS.lloadN X8.here hx rfl (hb hby d4_59) rfl ?_
        refine XS.aloadN X8.here hx rfl (hb hby d4_60) rfl rfl ?_
        show Steps p.tables e below (T8.setTop (mkF m 61 #[.val (.ref a0), .val (.int p1), .val (.long q2), .second] [(.ref a0), (.long q2)])) _
        refine st10 _ ?_
        show Steps p.tables e below (T10.setTop (mkF m 64 #[.val (.ref a0), .val (.int p1), .val (.long q2), .second] [(.long bb), (.long q2)])) _
        refine XS.lsub X10.here hx rfl (hb hby d4_64) rfl ?_
        refine XS.lconst X10.here hx rfl (hb hby d4_65) ?_
        refine XS.bipush X10.here hx rfl (hb hby d4_66) ?_
        show Steps p.tables e below (T10.setTop (mkF m 68 #[.val (.ref a0), .val (.int p1), .val (.long q2), .second] [(.int (8 : Int32)), (.long (1 : Int64)), (.long (q2 - bb))])) _
        refine XS.aloadN X10.here hx rfl (hb hby d4_68) rfl rfl ?_
        refine st11 _ ?_
        show Steps p.tables e below (T11.setTop (mkF m 72 #[.val (.ref a0), .val (.int p1), .val (.long q2), .second] [(.int (2 : Int32)), (.int (8 : Int32)), (.long (1 : Int64)), (.long (q2 - bb))])) _
        refine XS.imul X11.here hx rfl (hb hby d4_72) rfl ?_
        refine XS.lshl X11.here hx rfl (hb hby d4_73) rfl ?_
        show Steps p.tables e below (T11.setTop (mkF m 74 #[.val (.ref a0), .val (.int p1), .val (.long q2), .second] [(.long ((1 : Int64) <<< (((8 : Int32) * (2 : Int32)) &&& 0x3f).toInt64)), (.long (q2 - bb))])) _
        refine XS.lcmp X11.here hx rfl (hb hby d4_74) rfl ?_
        refine XS.ifYes X11.here hx rfl (pc0 := 75) (pc' := 84) rfl (hb hby d4_75) rfl ((if0 _ _).trans (tlt ((lw_lt _ _).mpr hc75)).1) (by decide) (by decide) ?_
        show Steps p.tables e below (T11.setTop (mkF m 84 #[.val (.ref a0), .val (.int p1), .val (.long q2), .second] [])) _
        exact kt
      · obtain ⟨cq12, qv12, qv12'⟩ := E_a0.cell
        obtain ⟨_, _, ⟨T12, L12, k12, n12⟩, -, X12, ⟨Lc12, hQ12, l12, y12, z12⟩, st12⟩ := X11.privateBack hx (y := (⟨"com/example/wadjet/wadjet/storage/IntegerChunk", "widen", "(IJ)V"⟩ : MethodName)) hown (mvT hZ (hw _ (List.mem_of_getElem? (i := 47) rfl))) (mvT hZ (hw _ (List.mem_of_getElem? (i := 48) rfl))) (own_selP hZ (hw _ (List.mem_of_getElem? (i := 1) rfl)) (hw _ (List.mem_of_getElem? (i := 49) rfl)) (hw _ (List.mem_of_getElem? (i := 48) rfl)) (by decide)) (Cond.privateMethod_at (mvP hZ (hw _ (List.mem_of_getElem? (i := 49) rfl)) (args := #[]))) (mvT hZ (hw _ (List.mem_of_getElem? (i := 50) rfl))) (by decide) (backOf (W := 0) (rmW_2 l Z A0 hw [] a0 p1 q2 bd vn vw bb nr kn nn ys h0 n0 Z0 E_a0 F_width_a0 F_base_a0 F_based_a0 F_narrow_a0 F_middle_a0 F_wide_a0 F_nulls_a0 V_nr g_a0 ne_nr_a0 (by omega)) hZ (hw _ (List.mem_of_getElem? (i := 50) rfl)) (hw _ (List.mem_of_getElem? (i := 2) rfl)) (by decide) (by decide)) (g := (mkF m 81 #[.val (.ref a0), .val (.int p1), .val (.long q2), .second] [(.long q2), (.int p1), (.ref a0)])) rfl (by rw [hml]; rfl) (Steps.refl _) (a := a0) (by rw [e11]; exact qv12) qv12' (argsL := [(.int p1), (.long q2)]) (rest := []) (lenOf pd_9 rfl) rfl (by show 2 * 0 + _ ≤ _; exact Nat.le_of_eq rfl) (hb hby d4_81) (fun _ _ => ⟨rfl, e11, (by show cells + 2 ≤ 5; omega), (by show slots + 16 ≤ 40; omega)⟩)
        dsimp only [Pt.U, Pt.locs, Pt.cells, Pt.slots] at X12 l12 y12 z12 st12 hQ12
        rw [y12, z12] at X12
        obtain ⟨rfl, N12q, hsz12, wq12, bq12, yq12, HW12, HK12⟩ := hQ12
        have N12 : Fr n0 L12 := by rw [l12]; exact Fr.app N0 N12q
        clear l12
        have Z_12 : n0 ≤ T12.heap.size := Nat.le_trans Z0 hsz12
        refine ⟨T12, _, _, (cells + 2), (slots + 16), wq12, bq12, nn, yq12, X12, rfl, N12, Z_12, HK12, ⟨rfl, Or.inr ⟨Or.inr rfl, HW12⟩⟩, by omega, by omega, fun target kt => ?_⟩
        show Steps p.tables e below (T0.setTop (mkF m 42 #[.val (.ref a0), .val (.int p1), .val (.long q2), .second] [])) _
        refine XS.aloadN X0.here hx rfl (hb hby d4_42) rfl rfl ?_
        refine st7 _ ?_
        show Steps p.tables e below (T7.setTop (mkF m 46 #[.val (.ref a0), .val (.int p1), .val (.long q2), .second] [(.int (2 : Int32))])) _
        refine XS.iconst X7.here hx rfl (hb hby d4_46) ?_
        show Steps p.tables e below (T7.setTop (mkF m 47 #[.val (.ref a0), .val (.int p1), .val (.long q2), .second] [(.int (4 : Int32)), (.int (2 : Int32))])) _
        refine XS.icmpNo X7.here hx rfl (hb hby d4_47) rfl (tlt (by decide : (2 : Int32) < (4 : Int32))).2.1 ?_
        refine XS.lloadN X7.here hx rfl (hb hby d4_50) rfl ?_
        refine XS.aloadN X7.here hx rfl (hb hby d4_51) rfl rfl ?_
        refine st8 _ ?_
        show Steps p.tables e below (T8.setTop (mkF m 55 #[.val (.ref a0), .val (.int p1), .val (.long q2), .second] [(.long bb), (.long q2)])) _
        refine XS.lcmp X8.here hx rfl (hb hby d4_55) rfl ?_
        refine XS.ifNo X8.here hx rfl (hb hby d4_56) rfl ((if0 _ _).trans (flt (mt (lw_lt _ _).mp hc56)).1) ?_
        refine XS.lloadN X8.here hx rfl (hb hby d4_59) rfl ?_
        refine XS.aloadN X8.here hx rfl (hb hby d4_60) rfl rfl ?_
        show Steps p.tables e below (T8.setTop (mkF m 61 #[.val (.ref a0), .val (.int p1), .val (.long q2), .second] [(.ref a0), (.long q2)])) _
        refine st10 _ ?_
        show Steps p.tables e below (T10.setTop (mkF m 64 #[.val (.ref a0), .val (.int p1), .val (.long q2), .second] [(.long bb), (.long q2)])) _
        refine XS.lsub X10.here hx rfl (hb hby d4_64) rfl ?_
        refine XS.lconst X10.here hx rfl (hb hby d4_65) ?_
        refine XS.bipush X10.here hx rfl (hb hby d4_66) ?_
        show Steps p.tables e below (T10.setTop (mkF m 68 #[.val (.ref a0), .val (.int p1), .val (.long q2), .second] [(.int (8 : Int32)), (.long (1 : Int64)), (.long (q2 - bb))])) _
        refine XS.aloadN X10.here hx rfl (hb hby d4_68) rfl rfl ?_
        refine st11 _ ?_
        show Steps p.tables e below (T11.setTop (mkF m 72 #[.val (.ref a0), .val (.int p1), .val (.long q2), .second] [(.int (2 : Int32)), (.int (8 : Int32)), (.long (1 : Int64)), (.long (q2 - bb))])) _
        refine XS.imul X11.here hx rfl (hb hby d4_72) rfl ?_
        refine XS.lshl X11.here hx rfl (hb hby d4_73) rfl ?_
        show Steps p.tables e below (T11.setTop (mkF m 74 #[.val (.ref a0), .val (.int p1), .val (.long q2), .second] [(.long ((1 : Int64) <<< (((8 : Int32) * (2 : Int32)) &&& 0x3f).toInt64)), (.long (q2 - bb))])) _
        refine XS.lcmp X11.here hx rfl (hb hby d4_74) rfl ?_
        refine XS.ifNo X11.here hx rfl (hb hby d4_75) rfl ((if0 _ _).trans (flt (mt (lw_lt _ _).mp hc75)).1) ?_
        refine XS.aloadN X11.here hx rfl (hb hby d4_78) rfl rfl ?_
        refine XS.iloadN X11.here hx rfl (hb hby d4_79) rfl ?_
        show Steps p.tables e below (T11.setTop (mkF m 80 #[.val (.ref a0), .val (.int p1), .val (.long q2), .second] [(.int p1), (.ref a0)])) _
        refine XS.lloadN X11.here hx rfl (hb hby d4_80) rfl ?_
        refine st12.trans ?_
        show Steps p.tables e below (T12.setTop (mkF m 84 #[.val (.ref a0), .val (.int p1), .val (.long q2), .second] [])) _
        exact kt
  · have K0 : Keep h0 h0 [a0, nr] := Keep.refl _ _
    obtain ⟨T13, X13, e13, st13⟩ := getF X0 hx hZ hown (host := "") (Or.inl (hw _ (List.mem_of_getElem? (i := 14) rfl))) Via.refl e0 F_width_a0 (g := (mkF m 43 #[.val (.ref a0), .val (.int p1), .val (.long q2), .second] [(.ref a0)])) rfl rfl (hb hby d4_43)
    refine ⟨T13, _, _, cells, slots, (4 : Int32), bb, nn, ys, X13, e13, N0, Z0, ⟨g_a0, E_a0, _, _, _, _, _, g_nr, ne_nr_a0, F_width_a0, F_base_a0, F_based_a0, F_narrow_a0, F_middle_a0, F_wide_a0, F_nulls_a0, Or.inr (Or.inr ⟨rfl, rfl, V_nr⟩)⟩, ⟨rfl, Or.inl ⟨rfl, rfl, rfl, Or.inl rfl⟩⟩, by omega, by omega, fun target kt => ?_⟩
    show Steps p.tables e below (T0.setTop (mkF m 42 #[.val (.ref a0), .val (.int p1), .val (.long q2), .second] [])) _
    refine XS.aloadN X0.here hx rfl (hb hby d4_42) rfl rfl ?_
    refine st13 _ ?_
    show Steps p.tables e below (T13.setTop (mkF m 46 #[.val (.ref a0), .val (.int p1), .val (.long q2), .second] [(.int (4 : Int32))])) _
    refine XS.iconst X13.here hx rfl (hb hby d4_46) ?_
    show Steps p.tables e below (T13.setTop (mkF m 47 #[.val (.ref a0), .val (.int p1), .val (.long q2), .second] [(.int (4 : Int32)), (.int (4 : Int32))])) _
    refine XS.icmpYes X13.here hx rfl (pc0 := 47) (pc' := 84) rfl (hb hby d4_47) rfl (flt (by decide : ¬ ((4 : Int32) < (4 : Int32)))).2.1 (by decide) (by decide) ?_
    show Steps p.tables e below (T13.setTop (mkF m 84 #[.val (.ref a0), .val (.int p1), .val (.long q2), .second] [])) _
    exact kt
theorem d4_84 : decode prog_257_method_8_code 84 = .ok (.aload_n 0, 1) := by decide +kernel
theorem d4_85 : decode prog_257_method_8_code 85 = .ok (.getfield 7, 3) := by decide +kernel
theorem d4_88 : decode prog_257_method_8_code 88 = .ok (.iconst 1, 1) := by decide +kernel
theorem d4_89 : decode prog_257_method_8_code 89 = .ok (.if_icmp .ne 20, 3) := by decide +kernel
theorem d4_92 : decode prog_257_method_8_code 92 = .ok (.aload_n 0, 1) := by decide +kernel
theorem d4_93 : decode prog_257_method_8_code 93 = .ok (.getfield 13, 3) := by decide +kernel
theorem d4_96 : decode prog_257_method_8_code 96 = .ok (.iload_n 1, 1) := by decide +kernel
theorem d4_97 : decode prog_257_method_8_code 97 = .ok (.lload_n 2, 1) := by decide +kernel
theorem d4_98 : decode prog_257_method_8_code 98 = .ok (.aload_n 0, 1) := by decide +kernel
theorem d4_99 : decode prog_257_method_8_code 99 = .ok (.getfield 35, 3) := by decide +kernel
theorem d4_102 : decode prog_257_method_8_code 102 = .ok (.lsub, 1) := by decide +kernel
theorem d4_103 : decode prog_257_method_8_code 103 = .ok (.l2i, 1) := by decide +kernel
theorem d4_104 : decode prog_257_method_8_code 104 = .ok (.i2b, 1) := by decide +kernel
theorem d4_105 : decode prog_257_method_8_code 105 = .ok (.bastore, 1) := by decide +kernel
theorem d4_106 : decode prog_257_method_8_code 106 = .ok (.goto 36, 3) := by decide +kernel
theorem d4_109 : decode prog_257_method_8_code 109 = .ok (.aload_n 0, 1) := by decide +kernel
theorem d4_110 : decode prog_257_method_8_code 110 = .ok (.getfield 7, 3) := by decide +kernel
theorem d4_113 : decode prog_257_method_8_code 113 = .ok (.iconst 2, 1) := by decide +kernel
theorem d4_114 : decode prog_257_method_8_code 114 = .ok (.if_icmp .ne 20, 3) := by decide +kernel
theorem d4_117 : decode prog_257_method_8_code 117 = .ok (.aload_n 0, 1) := by decide +kernel
theorem d4_118 : decode prog_257_method_8_code 118 = .ok (.getfield 39, 3) := by decide +kernel
theorem d4_121 : decode prog_257_method_8_code 121 = .ok (.iload_n 1, 1) := by decide +kernel
theorem d4_122 : decode prog_257_method_8_code 122 = .ok (.lload_n 2, 1) := by decide +kernel
theorem d4_123 : decode prog_257_method_8_code 123 = .ok (.aload_n 0, 1) := by decide +kernel
theorem d4_124 : decode prog_257_method_8_code 124 = .ok (.getfield 35, 3) := by decide +kernel
theorem d4_127 : decode prog_257_method_8_code 127 = .ok (.lsub, 1) := by decide +kernel
theorem d4_128 : decode prog_257_method_8_code 128 = .ok (.l2i, 1) := by decide +kernel
theorem d4_129 : decode prog_257_method_8_code 129 = .ok (.i2c, 1) := by decide +kernel
theorem d4_130 : decode prog_257_method_8_code 130 = .ok (.castore, 1) := by decide +kernel
theorem d4_131 : decode prog_257_method_8_code 131 = .ok (.goto 11, 3) := by decide +kernel
theorem d4_134 : decode prog_257_method_8_code 134 = .ok (.aload_n 0, 1) := by decide +kernel
theorem d4_135 : decode prog_257_method_8_code 135 = .ok (.getfield 43, 3) := by decide +kernel
theorem d4_138 : decode prog_257_method_8_code 138 = .ok (.iload_n 1, 1) := by decide +kernel
theorem d4_139 : decode prog_257_method_8_code 139 = .ok (.lload_n 2, 1) := by decide +kernel
theorem d4_140 : decode prog_257_method_8_code 140 = .ok (.l2i, 1) := by decide +kernel
theorem d4_141 : decode prog_257_method_8_code 141 = .ok (.iastore, 1) := by decide +kernel
set_option maxRecDepth 65536 in
set_option maxHeartbeats 40000000 in
theorem sg4 {p : Program} {l : Launch} {e : Env} {s : State} {m : MethodId} {args : Array Value} {below : List Frame} {meth : Method} {c : Code} {T0 : State} {locs : List Loc} {cells slots : Nat} {Z : State} {A0 : Array Value} {h0 : Heap} {n0 : Nat} (a0 : Addr) (p1 : Int32) (q2 : Int64) (w : Int32) (bb : Int64) (bd : Value) (nn : Int32) (ys : List Int32) (X0 : Stand p l e ({ frames := 3, cells := 5, slots := 40, locals := 90 } : Room) s m args below meth c T0 locs cells slots) (hx : p.tables.exec = Jvm.exec) (hZ : Z.Warmed39 s.vm) (hw : ∀ d ∈ tables_1, d.before A0 Z = true) (hby : c.code = prog_257_method_8_code) (hml : c.maxLocals = 4) (hown : s.vm.findClass "com/example/wadjet/wadjet/storage/IntegerChunk" = some m.cls) (e0 : T0.heap = h0) (N0 : Fr n0 locs) (Z0 : n0 ≤ h0.size) (hpn : 0 ≤ p1.toInt ∧ p1.toInt < nn.toInt) (hlen : ys.length = nn.toNatClampNeg) (hcl : cells + 0 ≤ 5) (hsl : slots + 0 ≤ 40) (HK : own_K Z h0 n0 a0 w bb bd nn ys) :
    ∃ (T' : State) (h' : Heap) (locs' : List Loc) (c' s' : Nat) (w' : Int32) (b' : Int64) (N' : Int32) (ys' : List Int32), Stand p l e ({ frames := 3, cells := 5, slots := 40, locals := 90 } : Room) s m args below meth c T' locs' c' s' ∧ T'.heap = h' ∧ Fr n0 locs' ∧ n0 ≤ h'.size ∧ own_K Z h' n0 a0 w' b' bd N' ys' ∧ (w' = w ∧ b' = bb ∧ N' = nn ∧ ys' = ys.set p1.toNatClampNeg (own_en w bb q2)) ∧ c' ≤ cells + 0 ∧ s' ≤ slots + 0 ∧
      ∀ target, Steps p.tables e below (T'.setTop (mkF m 142 #[.val (.ref a0), .val (.int p1), .val (.long q2), .second] [])) target → Steps p.tables e below (T0.setTop (mkF m 84 #[.val (.ref a0), .val (.int p1), .val (.long q2), .second] [])) target := by
  obtain ⟨g_a0, E_a0, nr, kn, vn, vm, vw, g_nr, ne_nr_a0, F_width_a0, F_base_a0, F_based_a0, F_narrow_a0, F_middle_a0, F_wide_a0, F_nulls_a0, HV⟩ := HK
  rcases HV with ⟨rfl, rfl, V_nr⟩ | ⟨rfl, rfl, V_nr⟩ | ⟨rfl, rfl, V_nr⟩
  · have K0 : Keep h0 h0 [a0, nr] := Keep.refl _ _
    obtain ⟨T1, X1, e1, st1⟩ := getF X0 hx hZ hown (host := "") (Or.inl (hw _ (List.mem_of_getElem? (i := 14) rfl))) Via.refl e0 F_width_a0 (g := (mkF m 85 #[.val (.ref a0), .val (.int p1), .val (.long q2), .second] [(.ref a0)])) rfl rfl (hb hby d4_85)
    obtain ⟨T2, X2, e2, st2⟩ := getF X1 hx hZ hown (host := "") (Or.inl (hw _ (List.mem_of_getElem? (i := 17) rfl))) Via.refl e1 F_narrow_a0 (g := (mkF m 93 #[.val (.ref a0), .val (.int p1), .val (.long q2), .second] [(.ref a0)])) rfl rfl (hb hby d4_93)
    obtain ⟨T3, X3, e3, st3⟩ := getF X2 hx hZ hown (host := "") (Or.inl (hw _ (List.mem_of_getElem? (i := 30) rfl))) Via.refl e2 F_base_a0 (g := (mkF m 99 #[.val (.ref a0), .val (.int p1), .val (.long q2), .second] [(.ref a0), (.long q2), (.int p1), (.ref nr)])) rfl rfl (hb hby d4_99)
    obtain ⟨cl4, Ar4, qq4, SS4, MM4, HH4, GG4⟩ := id V_nr
    have hin4 := inb_of SS4 (own_ltN hpn)
    obtain ⟨T4, h4, X4, e4, W4, st4⟩ := stB X3 hx hZ e3 Ar4 (j := p1) hin4 (g := (mkF m 105 #[.val (.ref a0), .val (.int p1), .val (.long q2), .second] [(.int (((q2 - bb).toInt32).toInt8.toInt32)), (.int p1), (.ref nr)])) rfl rfl (hb hby d4_105)
    have V_nr : Arv Z h4 nr kn .byte nn ((ys.set p1.toNatClampNeg (own_en1 bb q2)).map Value.int) (.int (0 : Int32)) := by rw [List.map_set]; exact Arv.set Ar4 qq4 SS4 MM4 HH4 GG4 (fits_nar_byte _) W4 p1.toNatClampNeg rfl (by rw [List.length_map, hlen, own_tn, own_tn]; omega)
    have E_a0 : Exa Z h4 a0 "com/example/wadjet/wadjet/storage/IntegerChunk" := E_a0.wr W4
    have F_width_a0 : Fld Z h4 a0 "com/example/wadjet/wadjet/storage/IntegerChunk" "width" "I" (.int (1 : Int32)) := F_width_a0.other W4 (Or.inl (Ne.symm ne_nr_a0))
    have F_base_a0 : Fld Z h4 a0 "com/example/wadjet/wadjet/storage/IntegerChunk" "base" "J" (.long bb) := F_base_a0.other W4 (Or.inl (Ne.symm ne_nr_a0))
    have F_based_a0 : Fld Z h4 a0 "com/example/wadjet/wadjet/storage/IntegerChunk" "based" "Z" bd := F_based_a0.other W4 (Or.inl (Ne.symm ne_nr_a0))
    have F_nulls_a0 : Fld Z h4 a0 "com/example/wadjet/wadjet/storage/IntegerChunk" "nulls" "[J" .null := F_nulls_a0.other W4 (Or.inl (Ne.symm ne_nr_a0))
    have F_narrow_a0 : Fld Z h4 a0 "com/example/wadjet/wadjet/storage/IntegerChunk" "narrow" "[B" (.ref nr) := F_narrow_a0.other W4 (Or.inl (Ne.symm ne_nr_a0))
    have F_middle_a0 : Fld Z h4 a0 "com/example/wadjet/wadjet/storage/IntegerChunk" "middle" "[C" vm := F_middle_a0.other W4 (Or.inl (Ne.symm ne_nr_a0))
    have F_wide_a0 : Fld Z h4 a0 "com/example/wadjet/wadjet/storage/IntegerChunk" "wide" "[I" vw := F_wide_a0.other W4 (Or.inl (Ne.symm ne_nr_a0))
    have Zh4 : n0 ≤ h4.size := Nat.le_trans Z0 (Keep.of_wr W4).1
    have Kh4 : Keep h0 h4 [a0, nr] := K0.wr W4 (Or.inl (by simp))
    have N4 := Fr.snoc X4 N0 g_nr
    refine ⟨T4, _, _, cells, slots, (1 : Int32), bb, nn, (ys.set p1.toNatClampNeg (own_en1 bb q2)), X4, e4, N4, Zh4, ⟨g_a0, E_a0, _, _, _, _, _, g_nr, ne_nr_a0, F_width_a0, F_base_a0, F_based_a0, F_narrow_a0, F_middle_a0, F_wide_a0, F_nulls_a0, Or.inl ⟨rfl, rfl, V_nr⟩⟩, ⟨rfl, rfl, rfl, by rw [own_en_1]⟩, by omega, by omega, fun target kt => ?_⟩
    show Steps p.tables e below (T0.setTop (mkF m 84 #[.val (.ref a0), .val (.int p1), .val (.long q2), .second] [])) _
    refine XS.aloadN X0.here hx rfl (hb hby d4_84) rfl rfl ?_
    refine st1 _ ?_
    show Steps p.tables e below (T1.setTop (mkF m 88 #[.val (.ref a0), .val (.int p1), .val (.long q2), .second] [(.int (1 : Int32))])) _
    refine XS.iconst X1.here hx rfl (hb hby d4_88) ?_
    show Steps p.tables e below (T1.setTop (mkF m 89 #[.val (.ref a0), .val (.int p1), .val (.long q2), .second] [(.int (1 : Int32)), (.int (1 : Int32))])) _
    refine XS.icmpNo X1.here hx rfl (hb hby d4_89) rfl (teq (by decide : (1 : Int32) = (1 : Int32))).2 ?_
    refine XS.aloadN X1.here hx rfl (hb hby d4_92) rfl rfl ?_
    refine st2 _ ?_
    show Steps p.tables e below (T2.setTop (mkF m 96 #[.val (.ref a0), .val (.int p1), .val (.long q2), .second] [(.ref nr)])) _
    refine XS.iloadN X2.here hx rfl (hb hby d4_96) rfl ?_
    show Steps p.tables e below (T2.setTop (mkF m 97 #[.val (.ref a0), .val (.int p1), .val (.long q2), .second] [(.int p1), (.ref nr)])) _
    refine XS.lloadN X2.here hx rfl (hb hby d4_97) rfl ?_
    refine XS.aloadN X2.here hx rfl (hb hby d4_98) rfl rfl ?_
    refine st3 _ ?_
    show Steps p.tables e below (T3.setTop (mkF m 102 #[.val (.ref a0), .val (.int p1), .val (.long q2), .second] [(.long bb), (.long q2), (.int p1), (.ref nr)])) _
    refine XS.lsub X3.here hx rfl (hb hby d4_102) rfl ?_
    show Steps p.tables e below (T3.setTop (mkF m 103 #[.val (.ref a0), .val (.int p1), .val (.long q2), .second] [(.long (q2 - bb)), (.int p1), (.ref nr)])) _
    refine XS.l2i X3.here hx rfl (hb hby d4_103) rfl ?_
    refine XS.i2b X3.here hx rfl (hb hby d4_104) rfl ?_
    refine st4 _ ?_
    show Steps p.tables e below (T4.setTop (mkF m 106 #[.val (.ref a0), .val (.int p1), .val (.long q2), .second] [])) _
    refine XS.goto X4.here hx rfl (pc0 := 106) (pc' := 142) rfl (hb hby d4_106) (by decide) (by decide) ?_
    show Steps p.tables e below (T4.setTop (mkF m 142 #[.val (.ref a0), .val (.int p1), .val (.long q2), .second] [])) _
    exact kt
  · have K0 : Keep h0 h0 [a0, nr] := Keep.refl _ _
    obtain ⟨T5, X5, e5, st5⟩ := getF X0 hx hZ hown (host := "") (Or.inl (hw _ (List.mem_of_getElem? (i := 14) rfl))) Via.refl e0 F_width_a0 (g := (mkF m 85 #[.val (.ref a0), .val (.int p1), .val (.long q2), .second] [(.ref a0)])) rfl rfl (hb hby d4_85)
    obtain ⟨T6, X6, e6, st6⟩ := getF X5 hx hZ hown (host := "") (Or.inl (hw _ (List.mem_of_getElem? (i := 14) rfl))) Via.refl e5 F_width_a0 (g := (mkF m 110 #[.val (.ref a0), .val (.int p1), .val (.long q2), .second] [(.ref a0)])) rfl rfl (hb hby d4_110)
    obtain ⟨T7, X7, e7, st7⟩ := getF X6 hx hZ hown (host := "") (Or.inl (hw _ (List.mem_of_getElem? (i := 60) rfl))) Via.refl e6 F_middle_a0 (g := (mkF m 118 #[.val (.ref a0), .val (.int p1), .val (.long q2), .second] [(.ref a0)])) rfl rfl (hb hby d4_118)
    obtain ⟨T8, X8, e8, st8⟩ := getF X7 hx hZ hown (host := "") (Or.inl (hw _ (List.mem_of_getElem? (i := 30) rfl))) Via.refl e7 F_base_a0 (g := (mkF m 124 #[.val (.ref a0), .val (.int p1), .val (.long q2), .second] [(.ref a0), (.long q2), (.int p1), (.ref nr)])) rfl rfl (hb hby d4_124)
    obtain ⟨cl9, Ar9, qq9, SS9, MM9, HH9, GG9⟩ := id V_nr
    have hin9 := inb_of SS9 (own_ltN hpn)
    obtain ⟨T9, h9, X9, e9, W9, st9⟩ := stC X8 hx hZ e8 Ar9 (j := p1) hin9 (g := (mkF m 130 #[.val (.ref a0), .val (.int p1), .val (.long q2), .second] [(.int (((q2 - bb).toInt32).toUInt32.toUInt16.toUInt32.toInt32)), (.int p1), (.ref nr)])) rfl rfl (hb hby d4_130)
    have V_nr : Arv Z h9 nr kn .char nn ((ys.set p1.toNatClampNeg (own_en2 bb q2)).map Value.int) (.int (0 : Int32)) := by rw [List.map_set]; exact Arv.set Ar9 qq9 SS9 MM9 HH9 GG9 (fits_nar_char _) W9 p1.toNatClampNeg rfl (by rw [List.length_map, hlen, own_tn, own_tn]; omega)
    have E_a0 : Exa Z h9 a0 "com/example/wadjet/wadjet/storage/IntegerChunk" := E_a0.wr W9
    have F_width_a0 : Fld Z h9 a0 "com/example/wadjet/wadjet/storage/IntegerChunk" "width" "I" (.int (2 : Int32)) := F_width_a0.other W9 (Or.inl (Ne.symm ne_nr_a0))
    have F_base_a0 : Fld Z h9 a0 "com/example/wadjet/wadjet/storage/IntegerChunk" "base" "J" (.long bb) := F_base_a0.other W9 (Or.inl (Ne.symm ne_nr_a0))
    have F_based_a0 : Fld Z h9 a0 "com/example/wadjet/wadjet/storage/IntegerChunk" "based" "Z" bd := F_based_a0.other W9 (Or.inl (Ne.symm ne_nr_a0))
    have F_nulls_a0 : Fld Z h9 a0 "com/example/wadjet/wadjet/storage/IntegerChunk" "nulls" "[J" .null := F_nulls_a0.other W9 (Or.inl (Ne.symm ne_nr_a0))
    have F_narrow_a0 : Fld Z h9 a0 "com/example/wadjet/wadjet/storage/IntegerChunk" "narrow" "[B" vn := F_narrow_a0.other W9 (Or.inl (Ne.symm ne_nr_a0))
    have F_middle_a0 : Fld Z h9 a0 "com/example/wadjet/wadjet/storage/IntegerChunk" "middle" "[C" (.ref nr) := F_middle_a0.other W9 (Or.inl (Ne.symm ne_nr_a0))
    have F_wide_a0 : Fld Z h9 a0 "com/example/wadjet/wadjet/storage/IntegerChunk" "wide" "[I" vw := F_wide_a0.other W9 (Or.inl (Ne.symm ne_nr_a0))
    have Zh9 : n0 ≤ h9.size := Nat.le_trans Z0 (Keep.of_wr W9).1
    have Kh9 : Keep h0 h9 [a0, nr] := K0.wr W9 (Or.inl (by simp))
    have N9 := Fr.snoc X9 N0 g_nr
    refine ⟨T9, _, _, cells, slots, (2 : Int32), bb, nn, (ys.set p1.toNatClampNeg (own_en2 bb q2)), X9, e9, N9, Zh9, ⟨g_a0, E_a0, _, _, _, _, _, g_nr, ne_nr_a0, F_width_a0, F_base_a0, F_based_a0, F_narrow_a0, F_middle_a0, F_wide_a0, F_nulls_a0, Or.inr (Or.inl ⟨rfl, rfl, V_nr⟩)⟩, ⟨rfl, rfl, rfl, by rw [own_en_2]⟩, by omega, by omega, fun target kt => ?_⟩
    show Steps p.tables e below (T0.setTop (mkF m 84 #[.val (.ref a0), .val (.int p1), .val (.long q2), .second] [])) _
    refine XS.aloadN X0.here hx rfl (hb hby d4_84) rfl rfl ?_
    refine st5 _ ?_
    show Steps p.tables e below (T5.setTop (mkF m 88 #[.val (.ref a0), .val (.int p1), .val (.long q2), .second] [(.int (2 : Int32))])) _
    refine XS.iconst X5.here hx rfl (hb hby d4_88) ?_
    show Steps p.tables e below (T5.setTop (mkF m 89 #[.val (.ref a0), .val (.int p1), .val (.long q2), .second] [(.int (1 : Int32)), (.int (2 : Int32))])) _
    refine XS.icmpYes X5.here hx rfl (pc0 := 89) (pc' := 109) rfl (hb hby d4_89) rfl (feq (by decide : ¬ ((2 : Int32) = (1 : Int32)))).2 (by decide) (by decide) ?_
    show Steps p.tables e below (T5.setTop (mkF m 109 #[.val (.ref a0), .val (.int p1), .val (.long q2), .second] [])) _
    refine XS.aloadN X5.here hx rfl (hb hby d4_109) rfl rfl ?_
    refine st6 _ ?_
    show Steps p.tables e below (T6.setTop (mkF m 113 #[.val (.ref a0), .val (.int p1), .val (.long q2), .second] [(.int (2 : Int32))])) _
    refine XS.iconst X6.here hx rfl (hb hby d4_113) ?_
    show Steps p.tables e below (T6.setTop (mkF m 114 #[.val (.ref a0), .val (.int p1), .val (.long q2), .second] [(.int (2 : Int32)), (.int (2 : Int32))])) _
    refine XS.icmpNo X6.here hx rfl (hb hby d4_114) rfl (teq (by decide : (2 : Int32) = (2 : Int32))).2 ?_
    refine XS.aloadN X6.here hx rfl (hb hby d4_117) rfl rfl ?_
    refine st7 _ ?_
    show Steps p.tables e below (T7.setTop (mkF m 121 #[.val (.ref a0), .val (.int p1), .val (.long q2), .second] [(.ref nr)])) _
    refine XS.iloadN X7.here hx rfl (hb hby d4_121) rfl ?_
    show Steps p.tables e below (T7.setTop (mkF m 122 #[.val (.ref a0), .val (.int p1), .val (.long q2), .second] [(.int p1), (.ref nr)])) _
    refine XS.lloadN X7.here hx rfl (hb hby d4_122) rfl ?_
    refine XS.aloadN X7.here hx rfl (hb hby d4_123) rfl rfl ?_
    refine st8 _ ?_
    show Steps p.tables e below (T8.setTop (mkF m 127 #[.val (.ref a0), .val (.int p1), .val (.long q2), .second] [(.long bb), (.long q2), (.int p1), (.ref nr)])) _
    refine XS.lsub X8.here hx rfl (hb hby d4_127) rfl ?_
    show Steps p.tables e below (T8.setTop (mkF m 128 #[.val (.ref a0), .val (.int p1), .val (.long q2), .second] [(.long (q2 - bb)), (.int p1), (.ref nr)])) _
    refine XS.l2i X8.here hx rfl (hb hby d4_128) rfl ?_
    refine XS.i2c X8.here hx rfl (hb hby d4_129) rfl ?_
    refine st9 _ ?_
    show Steps p.tables e below (T9.setTop (mkF m 131 #[.val (.ref a0), .val (.int p1), .val (.long q2), .second] [])) _
    refine XS.goto X9.here hx rfl (pc0 := 131) (pc' := 142) rfl (hb hby d4_131) (by decide) (by decide) ?_
    show Steps p.tables e below (T9.setTop (mkF m 142 #[.val (.ref a0), .val (.int p1), .val (.long q2), .second] [])) _
    exact kt
  · have K0 : Keep h0 h0 [a0, nr] := Keep.refl _ _
    obtain ⟨T10, X10, e10, st10⟩ := getF X0 hx hZ hown (host := "") (Or.inl (hw _ (List.mem_of_getElem? (i := 14) rfl))) Via.refl e0 F_width_a0 (g := (mkF m 85 #[.val (.ref a0), .val (.int p1), .val (.long q2), .second] [(.ref a0)])) rfl rfl (hb hby d4_85)
    obtain ⟨T11, X11, e11, st11⟩ := getF X10 hx hZ hown (host := "") (Or.inl (hw _ (List.mem_of_getElem? (i := 14) rfl))) Via.refl e10 F_width_a0 (g := (mkF m 110 #[.val (.ref a0), .val (.int p1), .val (.long q2), .second] [(.ref a0)])) rfl rfl (hb hby d4_110)
    obtain ⟨T12, X12, e12, st12⟩ := getF X11 hx hZ hown (host := "") (Or.inl (hw _ (List.mem_of_getElem? (i := 62) rfl))) Via.refl e11 F_wide_a0 (g := (mkF m 135 #[.val (.ref a0), .val (.int p1), .val (.long q2), .second] [(.ref a0)])) rfl rfl (hb hby d4_135)
    obtain ⟨cl13, Ar13, qq13, SS13, MM13, HH13, GG13⟩ := id V_nr
    have hin13 := inb_of SS13 (own_ltN hpn)
    obtain ⟨T13, h13, X13, e13, W13, st13⟩ := stI X12 hx hZ e12 Ar13 (j := p1) hin13 (g := (mkF m 141 #[.val (.ref a0), .val (.int p1), .val (.long q2), .second] [(.int (q2.toInt32)), (.int p1), (.ref nr)])) rfl rfl (hb hby d4_141)
    have V_nr : Arv Z h13 nr kn .int nn ((ys.set p1.toNatClampNeg (own_en4 bb q2)).map Value.int) (.int (0 : Int32)) := by rw [List.map_set]; exact Arv.set Ar13 qq13 SS13 MM13 HH13 GG13 rfl W13 p1.toNatClampNeg rfl (by rw [List.length_map, hlen, own_tn, own_tn]; omega)
    have E_a0 : Exa Z h13 a0 "com/example/wadjet/wadjet/storage/IntegerChunk" := E_a0.wr W13
    have F_width_a0 : Fld Z h13 a0 "com/example/wadjet/wadjet/storage/IntegerChunk" "width" "I" (.int (4 : Int32)) := F_width_a0.other W13 (Or.inl (Ne.symm ne_nr_a0))
    have F_base_a0 : Fld Z h13 a0 "com/example/wadjet/wadjet/storage/IntegerChunk" "base" "J" (.long bb) := F_base_a0.other W13 (Or.inl (Ne.symm ne_nr_a0))
    have F_based_a0 : Fld Z h13 a0 "com/example/wadjet/wadjet/storage/IntegerChunk" "based" "Z" bd := F_based_a0.other W13 (Or.inl (Ne.symm ne_nr_a0))
    have F_nulls_a0 : Fld Z h13 a0 "com/example/wadjet/wadjet/storage/IntegerChunk" "nulls" "[J" .null := F_nulls_a0.other W13 (Or.inl (Ne.symm ne_nr_a0))
    have F_narrow_a0 : Fld Z h13 a0 "com/example/wadjet/wadjet/storage/IntegerChunk" "narrow" "[B" vn := F_narrow_a0.other W13 (Or.inl (Ne.symm ne_nr_a0))
    have F_middle_a0 : Fld Z h13 a0 "com/example/wadjet/wadjet/storage/IntegerChunk" "middle" "[C" vm := F_middle_a0.other W13 (Or.inl (Ne.symm ne_nr_a0))
    have F_wide_a0 : Fld Z h13 a0 "com/example/wadjet/wadjet/storage/IntegerChunk" "wide" "[I" (.ref nr) := F_wide_a0.other W13 (Or.inl (Ne.symm ne_nr_a0))
    have Zh13 : n0 ≤ h13.size := Nat.le_trans Z0 (Keep.of_wr W13).1
    have Kh13 : Keep h0 h13 [a0, nr] := K0.wr W13 (Or.inl (by simp))
    have N13 := Fr.snoc X13 N0 g_nr
    refine ⟨T13, _, _, cells, slots, (4 : Int32), bb, nn, (ys.set p1.toNatClampNeg (own_en4 bb q2)), X13, e13, N13, Zh13, ⟨g_a0, E_a0, _, _, _, _, _, g_nr, ne_nr_a0, F_width_a0, F_base_a0, F_based_a0, F_narrow_a0, F_middle_a0, F_wide_a0, F_nulls_a0, Or.inr (Or.inr ⟨rfl, rfl, V_nr⟩)⟩, ⟨rfl, rfl, rfl, by rw [own_en_4]⟩, by omega, by omega, fun target kt => ?_⟩
    show Steps p.tables e below (T0.setTop (mkF m 84 #[.val (.ref a0), .val (.int p1), .val (.long q2), .second] [])) _
    refine XS.aloadN X0.here hx rfl (hb hby d4_84) rfl rfl ?_
    refine st10 _ ?_
    show Steps p.tables e below (T10.setTop (mkF m 88 #[.val (.ref a0), .val (.int p1), .val (.long q2), .second] [(.int (4 : Int32))])) _
    refine XS.iconst X10.here hx rfl (hb hby d4_88) ?_
    show Steps p.tables e below (T10.setTop (mkF m 89 #[.val (.ref a0), .val (.int p1), .val (.long q2), .second] [(.int (1 : Int32)), (.int (4 : Int32))])) _
    refine XS.icmpYes X10.here hx rfl (pc0 := 89) (pc' := 109) rfl (hb hby d4_89) rfl (feq (by decide : ¬ ((4 : Int32) = (1 : Int32)))).2 (by decide) (by decide) ?_
    show Steps p.tables e below (T10.setTop (mkF m 109 #[.val (.ref a0), .val (.int p1), .val (.long q2), .second] [])) _
    refine XS.aloadN X10.here hx rfl (hb hby d4_109) rfl rfl ?_
    refine st11 _ ?_
    show Steps p.tables e below (T11.setTop (mkF m 113 #[.val (.ref a0), .val (.int p1), .val (.long q2), .second] [(.int (4 : Int32))])) _
    refine XS.iconst X11.here hx rfl (hb hby d4_113) ?_
    show Steps p.tables e below (T11.setTop (mkF m 114 #[.val (.ref a0), .val (.int p1), .val (.long q2), .second] [(.int (2 : Int32)), (.int (4 : Int32))])) _
    refine XS.icmpYes X11.here hx rfl (pc0 := 114) (pc' := 134) rfl (hb hby d4_114) rfl (feq (by decide : ¬ ((4 : Int32) = (2 : Int32)))).2 (by decide) (by decide) ?_
    show Steps p.tables e below (T11.setTop (mkF m 134 #[.val (.ref a0), .val (.int p1), .val (.long q2), .second] [])) _
    refine XS.aloadN X11.here hx rfl (hb hby d4_134) rfl rfl ?_
    refine st12 _ ?_
    show Steps p.tables e below (T12.setTop (mkF m 138 #[.val (.ref a0), .val (.int p1), .val (.long q2), .second] [(.ref nr)])) _
    refine XS.iloadN X12.here hx rfl (hb hby d4_138) rfl ?_
    show Steps p.tables e below (T12.setTop (mkF m 139 #[.val (.ref a0), .val (.int p1), .val (.long q2), .second] [(.int p1), (.ref nr)])) _
    refine XS.lloadN X12.here hx rfl (hb hby d4_139) rfl ?_
    refine XS.l2i X12.here hx rfl (hb hby d4_140) rfl ?_
    refine st13 _ ?_
    show Steps p.tables e below (T13.setTop (mkF m 142 #[.val (.ref a0), .val (.int p1), .val (.long q2), .second] [])) _
    exact kt
theorem own_vi {q : Int64} (h : (q.toInt32.toInt64) = q) : own_i64 q := by rw [← h]; exact own_r32 _
theorem own_Kn {Z : State} {h : Heap} {n0 : Nat} {a : Addr} {w : Int32} {b : Int64} {bd : Value} {N : Int32} {ys : List Int32} (HK : own_K Z h n0 a w b bd N ys) : Fld Z h a "com/example/wadjet/wadjet/storage/IntegerChunk" "nulls" "[J" .null := by
  obtain ⟨-, -, -, -, -, -, -, -, -, -, -, -, -, -, -, x, -⟩ := HK
  exact x
theorem own_Kb {Z : State} {h : Heap} {n0 : Nat} {a : Addr} {w : Int32} {b : Int64} {bd : Value} {N : Int32} {ys : List Int32} (HK : own_K Z h n0 a w b bd N ys) : Fld Z h a "com/example/wadjet/wadjet/storage/IntegerChunk" "based" "Z" bd := by
  obtain ⟨-, -, -, -, -, -, -, -, -, -, -, x, -, -, -, -, -⟩ := HK
  exact x
theorem own_K1 {A B C D E F : Prop} (h : ((1 : Int32) = 1 ∧ A ∧ B) ∨ ((1 : Int32) = 2 ∧ C ∧ D) ∨ ((1 : Int32) = 4 ∧ E ∧ F)) : A ∧ B := by
  rcases h with h | h | h
  · exact h.2
  · exact absurd h.1 (by decide)
  · exact absurd h.1 (by decide)
def Qwi (Z : State) (a0 : Addr) (p1 : Int32) (q2 : Int64) (w : Int32) (bb : Int64) (nn : Int32) (ys : List Int32) (h0 : Heap) (n0 : Nat) (v : Option Value) (h : Heap) (L : List Loc) : Prop := v = none ∧ Fr n0 L ∧ n0 ≤ h.size ∧ ∃ (w' : Int32) (b' : Int64) (N' : Int32) (ys' : List Int32), own_st w bb nn ys p1 q2 w' b' N' ys' ∧ own_K Z h n0 a0 w' b' (.int (1 : Int32)) N' ys'
def Qij (p1 w : Int32) (bb : Int64) (ys : List Int32) (h0 : Heap) (n0 : Nat) (v : Option Value) (h : Heap) (L : List Loc) : Prop := v = some (.long (own_rd w bb (ys.getD p1.toNatClampNeg 0))) ∧ Fr n0 L ∧ h = h0
def Qin (Z : State) (a0 : Addr) (p1 : Int32) (h0 : Heap) (n0 : Nat) (v : Option Value) (h : Heap) (L : List Loc) : Prop := v = none ∧ Fr n0 L ∧ h0.size ≤ h.size ∧ own_K Z h n0 a0 (1 : Int32) (0 : Int64) (.int (0 : Int32)) p1 (List.replicate p1.toNatClampNeg (0 : Int32))

theorem pd_10 : parseMethodDescriptor "(J)I" = some ⟨[.long], some .int⟩ := by decide +kernel
theorem d4_0 : decode prog_257_method_8_code 0 = .ok (.lload_n 2, 1) := by decide +kernel
theorem d4_1 : decode prog_257_method_8_code 1 = .ok (.invokestatic 60, 3) := by decide +kernel
theorem d4_4 : decode prog_257_method_8_code 4 = .ok (.pop, 1) := by decide +kernel
theorem d4_5 : decode prog_257_method_8_code 5 = .ok (.aload_n 0, 1) := by decide +kernel
theorem d4_6 : decode prog_257_method_8_code 6 = .ok (.getfield 66, 3) := by decide +kernel
theorem d4_9 : decode prog_257_method_8_code 9 = .ok (.ifCond .ne 13, 3) := by decide +kernel
theorem d4_12 : decode prog_257_method_8_code 12 = .ok (.aload_n 0, 1) := by decide +kernel
theorem d4_13 : decode prog_257_method_8_code 13 = .ok (.lload_n 2, 1) := by decide +kernel
theorem d4_14 : decode prog_257_method_8_code 14 = .ok (.putfield 35, 3) := by decide +kernel
theorem d4_17 : decode prog_257_method_8_code 17 = .ok (.aload_n 0, 1) := by decide +kernel
theorem d4_18 : decode prog_257_method_8_code 18 = .ok (.iconst 1, 1) := by decide +kernel
theorem d4_19 : decode prog_257_method_8_code 19 = .ok (.putfield 66, 3) := by decide +kernel
theorem d4_142 : decode prog_257_method_8_code 142 = .ok (.aload_n 0, 1) := by decide +kernel
theorem d4_143 : decode prog_257_method_8_code 143 = .ok (.getfield 31, 3) := by decide +kernel
theorem d4_146 : decode prog_257_method_8_code 146 = .ok (.ifnull 22, 3) := by decide +kernel
theorem d4_168 : decode prog_257_method_8_code 168 = .ok (.return_, 1) := by decide +kernel
theorem pn_4 : plainName "com/example/wadjet/wadjet/storage/IntegerChunk" = true := by first | (simp [plainName, overriddenIn]; done) | decide +kernel
theorem ef_rmA (m : MethodId) (a0 : Addr) (p1 : Int32) (q2 : Int64) : entryFrame m #[(.ref a0), (.int p1), (.long q2)] 4 = mkF m 0 #[.val (.ref a0), .val (.int p1), .val (.long q2), .second] [] := by first | (simp [entryFrame, mkF, argsToLocals, Value.category]; done) | rfl
set_option maxRecDepth 65536 in
set_option maxHeartbeats 40000000 in
theorem rmA (l : Launch) (Z : State) (A0 : Array Value) (hw : ∀ d ∈ tables_1, d.before A0 Z = true) (ws : List Jvm.Cond) (a0 : Addr) (p1 : Int32) (q2 : Int64) (mm : Nat) (nn : Int32) (ys : List Int32) (h0 : Heap) (n0 : Nat) (Z0 : n0 ≤ h0.size) (hm : mm ≤ 100) (hp : 0 ≤ p1.toInt ∧ p1.toInt < 8) (hv : (q2.toInt32.toInt64) = q2) (hI : own_inv mm (1 : Int32) q2 nn ys) (HK : own_K Z h0 n0 a0 (1 : Int32) (0 : Int64) (.int (0 : Int32)) nn ys) :
    MetFree l (⟨"com/example/wadjet/wadjet/storage/IntegerChunk", "writeInteger", "(IJ)V"⟩ : MethodName) (head1 (Jvm.Cond.code (⟨"com/example/wadjet/wadjet/storage/IntegerChunk", "writeInteger", "(IJ)V"⟩ : MethodName) prog_257_method_8_code 4 none :: ws) ({ frames := 3, cells := 5, slots := 40, locals := 90 } : Room)) (fun a U => a = #[(.ref a0), (.int p1), (.long q2)] ∧ Z.Warmed39 U.vm ∧ U.heap = h0) (fun _ _ _ _ _ => True) (fun _ U o U' => ∃ v L, o = .returned v ∧ Qwi Z a0 p1 q2 (1 : Int32) q2 nn ys h0 n0 v U'.heap L ∧ FrameEnd U o U' L ({ frames := 3, cells := 5, slots := 40, locals := 90 } : Room).cells ({ frames := 3, cells := 5, slots := 40, locals := 90 } : Room).slots) := by
  refine MetFree.of_bodySF (plainFor_of_name pn_4) hisR ?_
  intro p e s m args below meth c s₁ Bd hml0 hP hK
  obtain ⟨rfl, hZ, hh⟩ := hP
  obtain ⟨g_a0, E_a0, nr, kn, vn, vm, vw, g_nr, ne_nr_a0, F_width_a0, F_base_a0, F_based_a0, F_narrow_a0, F_middle_a0, F_wide_a0, F_nulls_a0, HV⟩ := HK
  obtain ⟨rfl, V_nr⟩ := own_K1 HV
  have hx := Bd.exec
  have hby := Bd.bytes
  have hml : c.maxLocals = 4 := hml0
  have hown : s.vm.findClass "com/example/wadjet/wadjet/storage/IntegerChunk" = some m.cls := findClass_of_methodNamed Bd.named
  have hnm := (name_of_methodNamed Bd.named Bd.method).1
  have X0 : Stand p l e ({ frames := 3, cells := 5, slots := 40, locals := 90 } : Room) s m #[(.ref a0), (.int p1), (.long q2)] below meth c s₁ [] 0 0 := Stand.of_body Bd
  have e0 : s₁.heap = h0 := by rw [← hh, Bd.state]; rfl
  have N0 := Fr.nil n0
  have K0 : Keep h0 h0 [a0, nr] := Keep.refl _ _
  have pre0 : ∀ t, Steps p.tables e below (s₁.setTop (mkF m 0 #[.val (.ref a0), .val (.int p1), .val (.long q2), .second] [])) t → Steps p.tables e below (s₁.setTop (entryFrame m #[(.ref a0), (.int p1), (.long q2)] 4)) t := fun t k => castTop (ef_rmA m a0 p1 q2) k
  obtain ⟨_, _, ⟨T1, L1, k1, n1⟩, -, X1, ⟨Lc1, hQ1, l1, y1, z1⟩, st1⟩ := Jvm.LawKit.callS X0 hx (y := (⟨"java/lang/Math", "toIntExact", "(J)I"⟩ : MethodName)) hown (mvT hZ (hw _ (List.mem_of_getElem? (i := 24) rfl))) (mvT hZ (hw _ (List.mem_of_getElem? (i := 25) rfl))) (mvT hZ (hw _ (List.mem_of_getElem? (i := 26) rfl))) (mvT hZ (hw _ (List.mem_of_getElem? (i := 27) rfl))) (by decide) (backOf (W := 0) (rm5 l Z A0 hw [] q2  h0 n0 Z0 (hv)) hZ (hw _ (List.mem_of_getElem? (i := 27) rfl)) (hw _ (List.mem_of_getElem? (i := 26) rfl)) (by decide) (by decide)) (g := (mkF m 1 #[.val (.ref a0), .val (.int p1), .val (.long q2), .second] [(.long q2)])) rfl (by rw [hml]; rfl) (argsL := [(.long q2)]) (rest := []) (lenOf pd_10 rfl) rfl (by show 2 * 0 + _ ≤ _; exact Nat.le_of_eq rfl) (hb hby d4_1) (fun _ _ => ⟨rfl, e0, (by decide : 0 + 0 ≤ _), (by decide : 0 + 0 ≤ _)⟩)
  dsimp only [Pt.U, Pt.locs, Pt.cells, Pt.slots] at X1 l1 y1 z1 st1 hQ1
  subst y1 z1
  obtain ⟨rfl, N1q, eh1⟩ := hQ1
  have N1 : Fr n0 L1 := by rw [l1]; exact Fr.app N0 N1q
  clear l1
  obtain ⟨T2, X2, e2, st2⟩ := getF X1 hx hZ hown (host := "") (Or.inl (hw _ (List.mem_of_getElem? (i := 28) rfl))) Via.refl eh1 F_based_a0 (g := (mkF m 6 #[.val (.ref a0), .val (.int p1), .val (.long q2), .second] [(.ref a0)])) rfl rfl (hb hby d4_6)
  obtain ⟨T3, h3, X3, e3, W3, st3⟩ := putF X2 hx hZ hown (host := "") (Or.inl (hw _ (List.mem_of_getElem? (i := 30) rfl))) Via.refl e2 F_base_a0 E_a0 (Or.inl (hw _ (List.mem_of_getElem? (i := 31) rfl))) (hw _ (List.mem_of_getElem? (i := 1) rfl)) (ty := .long) (by decide) rfl rfl (g := (mkF m 14 #[.val (.ref a0), .val (.int p1), .val (.long q2), .second] [(.long q2), (.ref a0)])) rfl rfl (hb hby d4_14)
  have F_base_a0 : Fld Z h3 a0 "com/example/wadjet/wadjet/storage/IntegerChunk" "base" "J" (.long q2) := F_base_a0.same W3
  have E_a0 : Exa Z h3 a0 "com/example/wadjet/wadjet/storage/IntegerChunk" := E_a0.wr W3
  have F_width_a0 : Fld Z h3 a0 "com/example/wadjet/wadjet/storage/IntegerChunk" "width" "I" (.int (1 : Int32)) := F_width_a0.other W3 (Or.inr (slot_ne (Or.inl (hw _ (List.mem_of_getElem? (i := 15) rfl))) (Or.inl (hw _ (List.mem_of_getElem? (i := 31) rfl))) (by decide) (t := .int) (t' := .long) (by decide) (by decide)))
  have F_based_a0 : Fld Z h3 a0 "com/example/wadjet/wadjet/storage/IntegerChunk" "based" "Z" (.int (0 : Int32)) := F_based_a0.other W3 (Or.inr (slot_ne (Or.inl (hw _ (List.mem_of_getElem? (i := 29) rfl))) (Or.inl (hw _ (List.mem_of_getElem? (i := 31) rfl))) (by decide) (t := .boolean) (t' := .long) (by decide) (by decide)))
  have F_nulls_a0 : Fld Z h3 a0 "com/example/wadjet/wadjet/storage/IntegerChunk" "nulls" "[J" .null := F_nulls_a0.other W3 (Or.inr (slot_ne (Or.inl (hw _ (List.mem_of_getElem? (i := 37) rfl))) (Or.inl (hw _ (List.mem_of_getElem? (i := 31) rfl))) (by decide) (t := (.array .long)) (t' := .long) (by decide) (by decide)))
  have F_narrow_a0 : Fld Z h3 a0 "com/example/wadjet/wadjet/storage/IntegerChunk" "narrow" "[B" (.ref nr) := F_narrow_a0.other W3 (Or.inr (slot_ne (Or.inl (hw _ (List.mem_of_getElem? (i := 18) rfl))) (Or.inl (hw _ (List.mem_of_getElem? (i := 31) rfl))) (by decide) (t := (.array .byte)) (t' := .long) (by decide) (by decide)))
  have F_middle_a0 : Fld Z h3 a0 "com/example/wadjet/wadjet/storage/IntegerChunk" "middle" "[C" vm := F_middle_a0.other W3 (Or.inr (slot_ne (Or.inl (hw _ (List.mem_of_getElem? (i := 61) rfl))) (Or.inl (hw _ (List.mem_of_getElem? (i := 31) rfl))) (by decide) (t := (.array .char)) (t' := .long) (by decide) (by decide)))
  have F_wide_a0 : Fld Z h3 a0 "com/example/wadjet/wadjet/storage/IntegerChunk" "wide" "[I" vw := F_wide_a0.other W3 (Or.inr (slot_ne (Or.inl (hw _ (List.mem_of_getElem? (i := 63) rfl))) (Or.inl (hw _ (List.mem_of_getElem? (i := 31) rfl))) (by decide) (t := (.array .int)) (t' := .long) (by decide) (by decide)))
  have V_nr : Arv Z h3 nr kn .byte nn (ys.map Value.int) (.int (0 : Int32)) := V_nr.other W3 ne_nr_a0
  have Zh3 : n0 ≤ h3.size := Nat.le_trans Z0 (Keep.of_wr W3).1
  have Kh3 : Keep h0 h3 [a0, nr] := K0.wr W3 (Or.inl (by simp))
  have N3 := Fr.snoc X3 N1 g_a0
  obtain ⟨T4, h4, X4, e4, W4, st4⟩ := putFN X3 hx hZ hown (hw _ (List.mem_of_getElem? (i := 28) rfl)) Via.refl e3 F_based_a0 E_a0 (Or.inl (hw _ (List.mem_of_getElem? (i := 29) rfl))) (hw _ (List.mem_of_getElem? (i := 1) rfl)) (ty := .boolean) (v' := (.int (nar .boolean (1 : Int32)))) (by decide) rfl (fits_nar_bool _) (g := (mkF m 19 #[.val (.ref a0), .val (.int p1), .val (.long q2), .second] [(.int (1 : Int32)), (.ref a0)])) rfl rfl (hb hby d4_19)
  have F_based_a0 : Fld Z h4 a0 "com/example/wadjet/wadjet/storage/IntegerChunk" "based" "Z" (.int (nar .boolean (1 : Int32))) := F_based_a0.same W4
  have E_a0 : Exa Z h4 a0 "com/example/wadjet/wadjet/storage/IntegerChunk" := E_a0.wr W4
  have F_width_a0 : Fld Z h4 a0 "com/example/wadjet/wadjet/storage/IntegerChunk" "width" "I" (.int (1 : Int32)) := F_width_a0.other W4 (Or.inr (slot_ne (Or.inl (hw _ (List.mem_of_getElem? (i := 15) rfl))) (Or.inl (hw _ (List.mem_of_getElem? (i := 29) rfl))) (by decide) (t := .int) (t' := .boolean) (by decide) (by decide)))
  have F_base_a0 : Fld Z h4 a0 "com/example/wadjet/wadjet/storage/IntegerChunk" "base" "J" (.long q2) := F_base_a0.other W4 (Or.inr (slot_ne (Or.inl (hw _ (List.mem_of_getElem? (i := 31) rfl))) (Or.inl (hw _ (List.mem_of_getElem? (i := 29) rfl))) (by decide) (t := .long) (t' := .boolean) (by decide) (by decide)))
  have F_nulls_a0 : Fld Z h4 a0 "com/example/wadjet/wadjet/storage/IntegerChunk" "nulls" "[J" .null := F_nulls_a0.other W4 (Or.inr (slot_ne (Or.inl (hw _ (List.mem_of_getElem? (i := 37) rfl))) (Or.inl (hw _ (List.mem_of_getElem? (i := 29) rfl))) (by decide) (t := (.array .long)) (t' := .boolean) (by decide) (by decide)))
  have F_narrow_a0 : Fld Z h4 a0 "com/example/wadjet/wadjet/storage/IntegerChunk" "narrow" "[B" (.ref nr) := F_narrow_a0.other W4 (Or.inr (slot_ne (Or.inl (hw _ (List.mem_of_getElem? (i := 18) rfl))) (Or.inl (hw _ (List.mem_of_getElem? (i := 29) rfl))) (by decide) (t := (.array .byte)) (t' := .boolean) (by decide) (by decide)))
  have F_middle_a0 : Fld Z h4 a0 "com/example/wadjet/wadjet/storage/IntegerChunk" "middle" "[C" vm := F_middle_a0.other W4 (Or.inr (slot_ne (Or.inl (hw _ (List.mem_of_getElem? (i := 61) rfl))) (Or.inl (hw _ (List.mem_of_getElem? (i := 29) rfl))) (by decide) (t := (.array .char)) (t' := .boolean) (by decide) (by decide)))
  have F_wide_a0 : Fld Z h4 a0 "com/example/wadjet/wadjet/storage/IntegerChunk" "wide" "[I" vw := F_wide_a0.other W4 (Or.inr (slot_ne (Or.inl (hw _ (List.mem_of_getElem? (i := 63) rfl))) (Or.inl (hw _ (List.mem_of_getElem? (i := 29) rfl))) (by decide) (t := (.array .int)) (t' := .boolean) (by decide) (by decide)))
  have V_nr : Arv Z h4 nr kn .byte nn (ys.map Value.int) (.int (0 : Int32)) := V_nr.other W4 ne_nr_a0
  have Zh4 : n0 ≤ h4.size := Nat.le_trans Zh3 (Keep.of_wr W4).1
  have Kh4 : Keep h0 h4 [a0, nr] := Kh3.wr W4 (Or.inl (by simp))
  have N4 := Fr.snoc X4 N3 g_a0
  have qn1 : nar .boolean (1 : Int32) = 1 := by decide
  rw [qn1] at F_based_a0
  have HKa : own_K Z h4 n0 a0 (1 : Int32) q2 (.int (1 : Int32)) nn ys := ⟨g_a0, E_a0, _, _, _, _, _, g_nr, ne_nr_a0, F_width_a0, F_base_a0, F_based_a0, F_narrow_a0, F_middle_a0, F_wide_a0, F_nulls_a0, Or.inl ⟨rfl, rfl, V_nr⟩⟩
  obtain ⟨T5, h5, L5, c5, s5, w1, b1, M1, ys1, X5, e5, N5, Z5, HK5, ⟨qw1, qb1, hRS⟩, hc5, hs5, st5⟩ := sg2 a0 p1 q2 (1 : Int32) q2 (.int (1 : Int32)) nn ys X4 hx hZ hw hby hml hown e4 N4 Zh4 hp hI.2.1 hI.2.2.1 (by omega) (by omega) HKa
  subst w1 b1
  obtain ⟨I1, -, pl1, -⟩ := own_L1 hI hp hRS
  obtain ⟨T6, h6, L6, c6, s6, w2, b2, M2, ys2, X6, e6, N6, Z6, HK6, ⟨qM2, hWS⟩, hc6, hs6, st6⟩ := sg3 a0 p1 q2 (1 : Int32) q2 (.int (1 : Int32)) M1 ys1 X5 hx hZ hw hby hml hown e5 N5 Z5 I1.2.1 (by omega) (by omega) HK5
  subst M2
  obtain ⟨I2, -, -⟩ := own_L2 hm I1 ⟨hp.1, pl1⟩ (own_vi hv) hWS
  obtain ⟨T7, h7, L7, c7, s7, w3, b3, M3, ys3, X7, e7, N7, Z7, HK7, ⟨qw3, qb3, qM3, qy3⟩, hc7, hs7, st7⟩ := sg4 a0 p1 q2 w2 b2 (.int (1 : Int32)) M1 ys2 X6 hx hZ hw hby hml hown e6 N6 Z6 ⟨hp.1, pl1⟩ I2.2.2.1 (by omega) (by omega) HK6
  subst w3 b3 M3 ys3
  have F_nulls_a0 : Fld Z h7 a0 "com/example/wadjet/wadjet/storage/IntegerChunk" "nulls" "[J" .null := own_Kn HK7
  obtain ⟨T8, X8, e8, st8⟩ := getF X7 hx hZ hown (host := "") (Or.inl (hw _ (List.mem_of_getElem? (i := 36) rfl))) Via.refl e7 F_nulls_a0 (g := (mkF m 143 #[.val (.ref a0), .val (.int p1), .val (.long q2), .second] [(.ref a0)])) rfl rfl (hb hby d4_143)
  obtain ⟨fs, hr, hrun, hended, hW, hsame⟩ := X8.leave (v := none) (fun _ => rfl)
  refine ⟨_, _, pre0 _ ?_, hrun, hended, _, _, rfl, ?_, ⟨_, rfl⟩, hW, hsame.mono (by show c7 ≤ 5; omega) (by show s7 ≤ 40; omega)⟩
  · show Steps p.tables e below (s₁.setTop (mkF m 0 #[.val (.ref a0), .val (.int p1), .val (.long q2), .second] [])) _
    refine XS.lloadN X0.here hx rfl (hb hby d4_0) rfl ?_
    refine st1 _ ?_
    show Steps p.tables e below (T1.setTop (mkF m 4 #[.val (.ref a0), .val (.int p1), .val (.long q2), .second] [(.int (q2.toInt32))])) _
    refine XS.pop X1.here hx rfl (hb hby d4_4) rfl rfl ?_
    show Steps p.tables e below (T1.setTop (mkF m 5 #[.val (.ref a0), .val (.int p1), .val (.long q2), .second] [])) _
    refine XS.aloadN X1.here hx rfl (hb hby d4_5) rfl rfl ?_
    refine st2 _ ?_
    show Steps p.tables e below (T2.setTop (mkF m 9 #[.val (.ref a0), .val (.int p1), .val (.long q2), .second] [(.int (0 : Int32))])) _
    refine XS.ifNo X2.here hx rfl (hb hby d4_9) rfl ((if0 _ _).trans (teq (by decide : (0 : Int32) = (0 : Int32))).2) ?_
    refine XS.aloadN X2.here hx rfl (hb hby d4_12) rfl rfl ?_
    show Steps p.tables e below (T2.setTop (mkF m 13 #[.val (.ref a0), .val (.int p1), .val (.long q2), .second] [(.ref a0)])) _
    refine XS.lloadN X2.here hx rfl (hb hby d4_13) rfl ?_
    refine st3 _ ?_
    show Steps p.tables e below (T3.setTop (mkF m 17 #[.val (.ref a0), .val (.int p1), .val (.long q2), .second] [])) _
    refine XS.aloadN X3.here hx rfl (hb hby d4_17) rfl rfl ?_
    refine XS.iconst X3.here hx rfl (hb hby d4_18) ?_
    show Steps p.tables e below (T3.setTop (mkF m 19 #[.val (.ref a0), .val (.int p1), .val (.long q2), .second] [(.int (1 : Int32)), (.ref a0)])) _
    refine st4 _ ?_
    show Steps p.tables e below (T4.setTop (mkF m 22 #[.val (.ref a0), .val (.int p1), .val (.long q2), .second] [])) _
    refine st5 _ ?_
    refine st6 _ ?_
    refine st7 _ ?_
    show Steps p.tables e below (T7.setTop (mkF m 142 #[.val (.ref a0), .val (.int p1), .val (.long q2), .second] [])) _
    refine XS.aloadN X7.here hx rfl (hb hby d4_142) rfl rfl ?_
    refine st8 _ ?_
    show Steps p.tables e below (T8.setTop (mkF m 146 #[.val (.ref a0), .val (.int p1), .val (.long q2), .second] [.null])) _
    refine XS.ifnullYes X8.here hx rfl (pc0 := 146) (pc' := 168) rfl (hb hby d4_146) rfl (by decide) (by decide) ?_
    show Steps p.tables e below (T8.setTop (mkF m 168 #[.val (.ref a0), .val (.int p1), .val (.long q2), .second] [])) _
    exact X8.returnOut hx Bd.returns (hb hby d4_168) hr
  · show Qwi Z a0 p1 q2 (1 : Int32) q2 nn ys h0 n0 _ T8.heap _
    rw [e8]
    exact ⟨rfl, N7, Z7, _, _, _, _, ⟨_, _, hRS, hWS, rfl⟩, HK7⟩
theorem ef_rmB (m : MethodId) (a0 : Addr) (p1 : Int32) (q2 : Int64) : entryFrame m #[(.ref a0), (.int p1), (.long q2)] 4 = mkF m 0 #[.val (.ref a0), .val (.int p1), .val (.long q2), .second] [] := by first | (simp [entryFrame, mkF, argsToLocals, Value.category]; done) | rfl
set_option maxRecDepth 65536 in
set_option maxHeartbeats 40000000 in
theorem rmB (l : Launch) (Z : State) (A0 : Array Value) (hw : ∀ d ∈ tables_1, d.before A0 Z = true) (ws : List Jvm.Cond) (a0 : Addr) (p1 : Int32) (q2 : Int64) (mm : Nat) (w : Int32) (bb : Int64) (nn : Int32) (ys : List Int32) (h0 : Heap) (n0 : Nat) (Z0 : n0 ≤ h0.size) (hm : mm ≤ 100) (hp : 0 ≤ p1.toInt ∧ p1.toInt < 8) (hv : (q2.toInt32.toInt64) = q2) (hI : own_inv mm w bb nn ys) (HK : own_K Z h0 n0 a0 w bb (.int (1 : Int32)) nn ys) :
    MetFree l (⟨"com/example/wadjet/wadjet/storage/IntegerChunk", "writeInteger", "(IJ)V"⟩ : MethodName) (head1 (Jvm.Cond.code (⟨"com/example/wadjet/wadjet/storage/IntegerChunk", "writeInteger", "(IJ)V"⟩ : MethodName) prog_257_method_8_code 4 none :: ws) ({ frames := 3, cells := 5, slots := 40, locals := 90 } : Room)) (fun a U => a = #[(.ref a0), (.int p1), (.long q2)] ∧ Z.Warmed39 U.vm ∧ U.heap = h0) (fun _ _ _ _ _ => True) (fun _ U o U' => ∃ v L, o = .returned v ∧ Qwi Z a0 p1 q2 w bb nn ys h0 n0 v U'.heap L ∧ FrameEnd U o U' L ({ frames := 3, cells := 5, slots := 40, locals := 90 } : Room).cells ({ frames := 3, cells := 5, slots := 40, locals := 90 } : Room).slots) := by
  refine MetFree.of_bodySF (plainFor_of_name pn_4) hisR ?_
  intro p e s m args below meth c s₁ Bd hml0 hP hK
  obtain ⟨rfl, hZ, hh⟩ := hP
  have F_based_a0 := own_Kb HK
  have hx := Bd.exec
  have hby := Bd.bytes
  have hml : c.maxLocals = 4 := hml0
  have hown : s.vm.findClass "com/example/wadjet/wadjet/storage/IntegerChunk" = some m.cls := findClass_of_methodNamed Bd.named
  have hnm := (name_of_methodNamed Bd.named Bd.method).1
  have X0 : Stand p l e ({ frames := 3, cells := 5, slots := 40, locals := 90 } : Room) s m #[(.ref a0), (.int p1), (.long q2)] below meth c s₁ [] 0 0 := Stand.of_body Bd
  have e0 : s₁.heap = h0 := by rw [← hh, Bd.state]; rfl
  have N0 := Fr.nil n0
  have K0 : Keep h0 h0 [a0] := Keep.refl _ _
  have pre0 : ∀ t, Steps p.tables e below (s₁.setTop (mkF m 0 #[.val (.ref a0), .val (.int p1), .val (.long q2), .second] [])) t → Steps p.tables e below (s₁.setTop (entryFrame m #[(.ref a0), (.int p1), (.long q2)] 4)) t := fun t k => castTop (ef_rmB m a0 p1 q2) k
  obtain ⟨_, _, ⟨T1, L1, k1, n1⟩, -, X1, ⟨Lc1, hQ1, l1, y1, z1⟩, st1⟩ := Jvm.LawKit.callS X0 hx (y := (⟨"java/lang/Math", "toIntExact", "(J)I"⟩ : MethodName)) hown (mvT hZ (hw _ (List.mem_of_getElem? (i := 24) rfl))) (mvT hZ (hw _ (List.mem_of_getElem? (i := 25) rfl))) (mvT hZ (hw _ (List.mem_of_getElem? (i := 26) rfl))) (mvT hZ (hw _ (List.mem_of_getElem? (i := 27) rfl))) (by decide) (backOf (W := 0) (rm5 l Z A0 hw [] q2  h0 n0 Z0 (hv)) hZ (hw _ (List.mem_of_getElem? (i := 27) rfl)) (hw _ (List.mem_of_getElem? (i := 26) rfl)) (by decide) (by decide)) (g := (mkF m 1 #[.val (.ref a0), .val (.int p1), .val (.long q2), .second] [(.long q2)])) rfl (by rw [hml]; rfl) (argsL := [(.long q2)]) (rest := []) (lenOf pd_10 rfl) rfl (by show 2 * 0 + _ ≤ _; exact Nat.le_of_eq rfl) (hb hby d4_1) (fun _ _ => ⟨rfl, e0, (by decide : 0 + 0 ≤ _), (by decide : 0 + 0 ≤ _)⟩)
  dsimp only [Pt.U, Pt.locs, Pt.cells, Pt.slots] at X1 l1 y1 z1 st1 hQ1
  subst y1 z1
  obtain ⟨rfl, N1q, eh1⟩ := hQ1
  have N1 : Fr n0 L1 := by rw [l1]; exact Fr.app N0 N1q
  clear l1
  obtain ⟨T2, X2, e2, st2⟩ := getF X1 hx hZ hown (host := "") (Or.inl (hw _ (List.mem_of_getElem? (i := 28) rfl))) Via.refl eh1 F_based_a0 (g := (mkF m 6 #[.val (.ref a0), .val (.int p1), .val (.long q2), .second] [(.ref a0)])) rfl rfl (hb hby d4_6)
  obtain ⟨T3, h3, L3, c3, s3, w1, b1, M1, ys1, X3, e3, N3, Z3, HK3, ⟨qw1, qb1, hRS⟩, hc3, hs3, st3⟩ := sg2 a0 p1 q2 w bb (.int (1 : Int32)) nn ys X2 hx hZ hw hby hml hown e2 N1 Z0 hp hI.2.1 hI.2.2.1 (by omega) (by omega) HK
  subst w1 b1
  obtain ⟨I1, -, pl1, -⟩ := own_L1 hI hp hRS
  obtain ⟨T4, h4, L4, c4, s4, w2, b2, M2, ys2, X4, e4, N4, Z4, HK4, ⟨qM2, hWS⟩, hc4, hs4, st4⟩ := sg3 a0 p1 q2 w bb (.int (1 : Int32)) M1 ys1 X3 hx hZ hw hby hml hown e3 N3 Z3 I1.2.1 (by omega) (by omega) HK3
  subst M2
  obtain ⟨I2, -, -⟩ := own_L2 hm I1 ⟨hp.1, pl1⟩ (own_vi hv) hWS
  obtain ⟨T5, h5, L5, c5, s5, w3, b3, M3, ys3, X5, e5, N5, Z5, HK5, ⟨qw3, qb3, qM3, qy3⟩, hc5, hs5, st5⟩ := sg4 a0 p1 q2 w2 b2 (.int (1 : Int32)) M1 ys2 X4 hx hZ hw hby hml hown e4 N4 Z4 ⟨hp.1, pl1⟩ I2.2.2.1 (by omega) (by omega) HK4
  subst w3 b3 M3 ys3
  have F_nulls_a0 : Fld Z h5 a0 "com/example/wadjet/wadjet/storage/IntegerChunk" "nulls" "[J" .null := own_Kn HK5
  obtain ⟨T6, X6, e6, st6⟩ := getF X5 hx hZ hown (host := "") (Or.inl (hw _ (List.mem_of_getElem? (i := 36) rfl))) Via.refl e5 F_nulls_a0 (g := (mkF m 143 #[.val (.ref a0), .val (.int p1), .val (.long q2), .second] [(.ref a0)])) rfl rfl (hb hby d4_143)
  obtain ⟨fs, hr, hrun, hended, hW, hsame⟩ := X6.leave (v := none) (fun _ => rfl)
  refine ⟨_, _, pre0 _ ?_, hrun, hended, _, _, rfl, ?_, ⟨_, rfl⟩, hW, hsame.mono (by show c5 ≤ 5; omega) (by show s5 ≤ 40; omega)⟩
  · show Steps p.tables e below (s₁.setTop (mkF m 0 #[.val (.ref a0), .val (.int p1), .val (.long q2), .second] [])) _
    refine XS.lloadN X0.here hx rfl (hb hby d4_0) rfl ?_
    refine st1 _ ?_
    show Steps p.tables e below (T1.setTop (mkF m 4 #[.val (.ref a0), .val (.int p1), .val (.long q2), .second] [(.int (q2.toInt32))])) _
    refine XS.pop X1.here hx rfl (hb hby d4_4) rfl rfl ?_
    show Steps p.tables e below (T1.setTop (mkF m 5 #[.val (.ref a0), .val (.int p1), .val (.long q2), .second] [])) _
    refine XS.aloadN X1.here hx rfl (hb hby d4_5) rfl rfl ?_
    refine st2 _ ?_
    show Steps p.tables e below (T2.setTop (mkF m 9 #[.val (.ref a0), .val (.int p1), .val (.long q2), .second] [(.int (1 : Int32))])) _
    refine XS.ifYes X2.here hx rfl (pc0 := 9) (pc' := 22) rfl (hb hby d4_9) rfl ((if0 _ _).trans (feq (by decide : ¬ ((1 : Int32) = (0 : Int32)))).2) (by decide) (by decide) ?_
    show Steps p.tables e below (T2.setTop (mkF m 22 #[.val (.ref a0), .val (.int p1), .val (.long q2), .second] [])) _
    refine st3 _ ?_
    refine st4 _ ?_
    refine st5 _ ?_
    show Steps p.tables e below (T5.setTop (mkF m 142 #[.val (.ref a0), .val (.int p1), .val (.long q2), .second] [])) _
    refine XS.aloadN X5.here hx rfl (hb hby d4_142) rfl rfl ?_
    refine st6 _ ?_
    show Steps p.tables e below (T6.setTop (mkF m 146 #[.val (.ref a0), .val (.int p1), .val (.long q2), .second] [.null])) _
    refine XS.ifnullYes X6.here hx rfl (pc0 := 146) (pc' := 168) rfl (hb hby d4_146) rfl (by decide) (by decide) ?_
    show Steps p.tables e below (T6.setTop (mkF m 168 #[.val (.ref a0), .val (.int p1), .val (.long q2), .second] [])) _
    exact X6.returnOut hx Bd.returns (hb hby d4_168) hr
  · show Qwi Z a0 p1 q2 w bb nn ys h0 n0 _ T6.heap _
    rw [e6]
    exact ⟨rfl, N5, Z5, _, _, _, _, ⟨_, _, hRS, hWS, rfl⟩, HK5⟩
theorem rmJ (l : Launch) (Z : State) (A0 : Array Value) (hw : ∀ d ∈ tables_1, d.before A0 Z = true) (ws : List Jvm.Cond) (a0 : Addr) (p1 : Int32) (w : Int32) (bb : Int64) (bd : Value) (nn : Int32) (ys : List Int32) (h0 : Heap) (n0 : Nat) (Z0 : n0 ≤ h0.size) (hin : ¬ (p1 < 0) ∧ p1 < nn) (HK : own_K Z h0 n0 a0 w bb bd nn ys) :
    MetFree l (⟨"com/example/wadjet/wadjet/storage/IntegerChunk", "integer", "(I)J"⟩ : MethodName) (head1 (Jvm.Cond.code (⟨"com/example/wadjet/wadjet/storage/IntegerChunk", "integer", "(I)J"⟩ : MethodName) prog_257_method_5_code 4 (some .long) :: ws) ({ frames := 0, cells := 0, slots := 0, locals := 0 } : Room)) (fun a U => a = #[(.ref a0), (.int p1)] ∧ Z.Warmed39 U.vm ∧ U.heap = h0) (fun _ _ _ _ _ => True) (fun _ U o U' => ∃ v L, o = .returned v ∧ Qij p1 w bb ys h0 n0 v U'.heap L ∧ FrameEnd U o U' L ({ frames := 0, cells := 0, slots := 0, locals := 0 } : Room).cells ({ frames := 0, cells := 0, slots := 0, locals := 0 } : Room).slots) := by
  obtain ⟨g_a0, E_a0, nr, kn, vn, vm, vw, g_nr, ne_nr_a0, F_width_a0, F_base_a0, F_based_a0, F_narrow_a0, F_middle_a0, F_wide_a0, F_nulls_a0, HV⟩ := HK
  rcases HV with ⟨rfl, rfl, V_nr⟩ | ⟨rfl, rfl, V_nr⟩ | ⟨rfl, rfl, V_nr⟩
  · exact rmI_1 l Z A0 hw ws a0 p1 bb nr kn nn ys h0 n0 Z0 F_width_a0 F_base_a0 F_narrow_a0 V_nr hin
  · exact rmI_2 l Z A0 hw ws a0 p1 bb nr kn nn ys h0 n0 Z0 F_width_a0 F_base_a0 F_middle_a0 V_nr hin
  · exact rmI_4 l Z A0 hw ws a0 p1 bb nr kn nn ys h0 n0 Z0 F_width_a0 F_base_a0 F_wide_a0 V_nr hin
theorem d2_0 : decode prog_251_method_1_code 0 = .ok (.aload_n 0, 1) := by decide +kernel
theorem d2_1 : decode prog_251_method_1_code 1 = .ok (.invokespecial 1, 3) := by decide +kernel
theorem d2_4 : decode prog_251_method_1_code 4 = .ok (.return_, 1) := by decide +kernel
theorem pn_2 : plainName "com/example/wadjet/wadjet/storage/ColumnChunk" = true := by first | (simp [plainName, overriddenIn]; done) | decide +kernel
theorem ef_rm2 (m : MethodId) (a0 : Addr) : entryFrame m #[(.ref a0)] 1 = mkF m 0 #[.val (.ref a0)] [] := by first | (simp [entryFrame, mkF, argsToLocals, Value.category]; done) | rfl
def Qrm2 (Z : State) (a0 : Addr) (h0 : Heap) (n0 : Nat) (v : Option Value) (h : Heap) (L : List Loc) : Prop := v = none ∧ Fr n0 L ∧ h = h0
set_option maxRecDepth 65536 in
set_option maxHeartbeats 40000000 in
theorem rm2 (l : Launch) (Z : State) (A0 : Array Value) (hw : ∀ d ∈ tables_1, d.before A0 Z = true) (ws : List Jvm.Cond) (a0 : Addr) (h0 : Heap) (n0 : Nat) (Z0 : n0 ≤ h0.size) :
    MetFree l (⟨"com/example/wadjet/wadjet/storage/ColumnChunk", "<init>", "()V"⟩ : MethodName) (head1 (Jvm.Cond.code (⟨"com/example/wadjet/wadjet/storage/ColumnChunk", "<init>", "()V"⟩ : MethodName) prog_251_method_1_code 1 none :: ws) ({ frames := 1, cells := 0, slots := 0, locals := 12 } : Room)) (fun a U => a = #[(.ref a0)] ∧ Z.Warmed39 U.vm ∧ U.heap = h0) (fun _ _ _ _ _ => True) (fun _ U o U' => ∃ v L, o = .returned v ∧ Qrm2 Z a0 h0 n0 v U'.heap L ∧ FrameEnd U o U' L ({ frames := 1, cells := 0, slots := 0, locals := 12 } : Room).cells ({ frames := 1, cells := 0, slots := 0, locals := 12 } : Room).slots) := by
  refine MetFree.of_bodySF (plainFor_of_name pn_2) hisR ?_
  intro p e s m args below meth c s₁ Bd hml0 hP hK
  obtain ⟨rfl, hZ, hh⟩ := hP
  have hx := Bd.exec
  have hby := Bd.bytes
  have hml : c.maxLocals = 1 := hml0
  have hown : s.vm.findClass "com/example/wadjet/wadjet/storage/ColumnChunk" = some m.cls := findClass_of_methodNamed Bd.named
  have hnm := (name_of_methodNamed Bd.named Bd.method).1
  have X0 : Stand p l e ({ frames := 1, cells := 0, slots := 0, locals := 12 } : Room) s m #[(.ref a0)] below meth c s₁ [] 0 0 := Stand.of_body Bd
  have e0 : s₁.heap = h0 := by rw [← hh, Bd.state]; rfl
  have N0 := Fr.nil n0
  have K0 : Keep h0 h0 [] := Keep.refl _ _
  have pre0 : ∀ t, Steps p.tables e below (s₁.setTop (mkF m 0 #[.val (.ref a0)] [])) t → Steps p.tables e below (s₁.setTop (entryFrame m #[(.ref a0)] 1)) t := fun t k => castTop (ef_rm2 m a0) k
  obtain ⟨T1, X1, e1, st1⟩ := initO X0 hx hZ hown (hw _ (List.mem_of_getElem? (i := 11) rfl)) (hw _ (List.mem_of_getElem? (i := 12) rfl)) (hw _ (List.mem_of_getElem? (i := 13) rfl)) e0 (g := (mkF m 1 #[.val (.ref a0)] [(.ref a0)])) rfl (by rw [hml]; rfl) rfl (hb hby d2_1) (by decide) (W := 0) (by show 2 * 0 + _ ≤ _; exact Nat.le_of_eq rfl) (by decide)
  obtain ⟨fs, hr, hrun, hended, hW, hsame⟩ := X1.leave (v := none) (fun _ => rfl)
  refine ⟨_, _, pre0 _ ?_, hrun, hended, _, _, rfl, ?_, ⟨_, rfl⟩, hW, hsame.mono (by decide) (by decide)⟩
  · show Steps p.tables e below (s₁.setTop (mkF m 0 #[.val (.ref a0)] [])) _
    refine XS.aloadN X0.here hx rfl (hb hby d2_0) rfl rfl ?_
    refine st1 _ ?_
    show Steps p.tables e below (T1.setTop (mkF m 4 #[.val (.ref a0)] [])) _
    exact X1.returnOut hx Bd.returns (hb hby d2_4) hr
  · show Qrm2 Z a0 h0 n0 _ T1.heap _
    rw [e1]
    exact ⟨rfl, N0, rfl⟩
theorem pd_11 : parseMethodDescriptor "()V" = some ⟨[], none⟩ := by decide +kernel
theorem d1_0 : decode prog_257_method_1_code 0 = .ok (.aload_n 0, 1) := by decide +kernel
theorem d1_1 : decode prog_257_method_1_code 1 = .ok (.invokespecial 1, 3) := by decide +kernel
theorem d1_4 : decode prog_257_method_1_code 4 = .ok (.aload_n 0, 1) := by decide +kernel
theorem d1_5 : decode prog_257_method_1_code 5 = .ok (.iconst 1, 1) := by decide +kernel
theorem d1_6 : decode prog_257_method_1_code 6 = .ok (.putfield 7, 3) := by decide +kernel
theorem d1_9 : decode prog_257_method_1_code 9 = .ok (.aload_n 0, 1) := by decide +kernel
theorem d1_10 : decode prog_257_method_1_code 10 = .ok (.iload_n 1, 1) := by decide +kernel
theorem d1_11 : decode prog_257_method_1_code 11 = .ok (.newarray .byte, 2) := by decide +kernel
theorem d1_13 : decode prog_257_method_1_code 13 = .ok (.putfield 13, 3) := by decide +kernel
theorem d1_16 : decode prog_257_method_1_code 16 = .ok (.return_, 1) := by decide +kernel
theorem pn_1 : plainName "com/example/wadjet/wadjet/storage/IntegerChunk" = true := by first | (simp [plainName, overriddenIn]; done) | decide +kernel
theorem ef_rm1 (m : MethodId) (a0 : Addr) (p1 : Int32) : entryFrame m #[(.ref a0), (.int p1)] 2 = mkF m 0 #[.val (.ref a0), .val (.int p1)] [] := by first | (simp [entryFrame, mkF, argsToLocals, Value.category]; done) | rfl
set_option maxRecDepth 65536 in
set_option maxHeartbeats 40000000 in
theorem rm1 (l : Launch) (Z : State) (A0 : Array Value) (hw : ∀ d ∈ tables_1, d.before A0 Z = true) (ws : List Jvm.Cond) (a0 : Addr) (p1 : Int32) (u_width : Value) (u_narrow : Value) (u_middle : Value) (u_wide : Value) (h0 : Heap) (n0 : Nat) (Z0 : n0 ≤ h0.size) (E_a0 : Exa Z h0 a0 "com/example/wadjet/wadjet/storage/IntegerChunk") (F_width_a0 : Fld Z h0 a0 "com/example/wadjet/wadjet/storage/IntegerChunk" "width" "I" u_width) (F_base_a0 : Fld Z h0 a0 "com/example/wadjet/wadjet/storage/IntegerChunk" "base" "J" (.long (0 : Int64))) (F_based_a0 : Fld Z h0 a0 "com/example/wadjet/wadjet/storage/IntegerChunk" "based" "Z" (.int (0 : Int32))) (F_narrow_a0 : Fld Z h0 a0 "com/example/wadjet/wadjet/storage/IntegerChunk" "narrow" "[B" u_narrow) (F_middle_a0 : Fld Z h0 a0 "com/example/wadjet/wadjet/storage/IntegerChunk" "middle" "[C" u_middle) (F_wide_a0 : Fld Z h0 a0 "com/example/wadjet/wadjet/storage/IntegerChunk" "wide" "[I" u_wide) (F_nulls_a0 : Fld Z h0 a0 "com/example/wadjet/wadjet/storage/IntegerChunk" "nulls" "[J" .null) (g_a0 : n0 ≤ a0) (hcap : 0 ≤ p1.toInt ∧ p1.toInt ≤ 8) :
    MetFree l (⟨"com/example/wadjet/wadjet/storage/IntegerChunk", "<init>", "(I)V"⟩ : MethodName) (head1 (Jvm.Cond.code (⟨"com/example/wadjet/wadjet/storage/IntegerChunk", "<init>", "(I)V"⟩ : MethodName) prog_257_method_1_code 2 none :: ws) ({ frames := 2, cells := 1, slots := 8, locals := 24 } : Room)) (fun a U => a = #[(.ref a0), (.int p1)] ∧ Z.Warmed39 U.vm ∧ U.heap = h0) (fun _ _ _ _ _ => True) (fun _ U o U' => ∃ v L, o = .returned v ∧ Qin Z a0 p1 h0 n0 v U'.heap L ∧ FrameEnd U o U' L ({ frames := 2, cells := 1, slots := 8, locals := 24 } : Room).cells ({ frames := 2, cells := 1, slots := 8, locals := 24 } : Room).slots) := by
  refine MetFree.of_bodySF (plainFor_of_name pn_1) hisR ?_
  intro p e s m args below meth c s₁ Bd hml0 hP hK
  obtain ⟨rfl, hZ, hh⟩ := hP
  have hx := Bd.exec
  have hby := Bd.bytes
  have hml : c.maxLocals = 2 := hml0
  have hown : s.vm.findClass "com/example/wadjet/wadjet/storage/IntegerChunk" = some m.cls := findClass_of_methodNamed Bd.named
  have hnm := (name_of_methodNamed Bd.named Bd.method).1
  have X0 : Stand p l e ({ frames := 2, cells := 1, slots := 8, locals := 24 } : Room) s m #[(.ref a0), (.int p1)] below meth c s₁ [] 0 0 := Stand.of_body Bd
  have e0 : s₁.heap = h0 := by rw [← hh, Bd.state]; rfl
  have N0 := Fr.nil n0
  have K0 : Keep h0 h0 [a0] := Keep.refl _ _
  have pre0 : ∀ t, Steps p.tables e below (s₁.setTop (mkF m 0 #[.val (.ref a0), .val (.int p1)] [])) t → Steps p.tables e below (s₁.setTop (entryFrame m #[(.ref a0), (.int p1)] 2)) t := fun t k => castTop (ef_rm1 m a0 p1) k
  obtain ⟨_, _, ⟨T1, L1, k1, n1⟩, -, X1, ⟨Lc1, hQ1, l1, y1, z1⟩, st1⟩ := X0.specialBack hx (y := (⟨"com/example/wadjet/wadjet/storage/ColumnChunk", "<init>", "()V"⟩ : MethodName)) rfl hown (mvT hZ (hw _ (List.mem_of_getElem? (i := 6) rfl))) (mvT hZ (hw _ (List.mem_of_getElem? (i := 7) rfl))) (mvT hZ (hw _ (List.mem_of_getElem? (i := 10) rfl))) (by decide) (backOf (W := 0) (rm2 l Z A0 hw [] a0  h0 n0 Z0 ) hZ (hw _ (List.mem_of_getElem? (i := 10) rfl)) (hw _ (List.mem_of_getElem? (i := 9) rfl)) (by decide) (by decide)) (g := (mkF m 1 #[.val (.ref a0), .val (.int p1)] [(.ref a0)])) rfl (by rw [hml]; rfl) (Steps.refl _) (a := a0) (argsL := []) (rest := []) (lenOf pd_11 rfl) rfl (by show 2 * 0 + _ ≤ _; exact Nat.le_of_eq rfl) (hb hby d1_1) (fun _ _ => ⟨rfl, e0, (by decide : 0 + 0 ≤ _), (by decide : 0 + 0 ≤ _)⟩)
  dsimp only [Pt.U, Pt.locs, Pt.cells, Pt.slots] at X1 l1 y1 z1 st1 hQ1
  subst y1 z1
  obtain ⟨rfl, N1q, eh1⟩ := hQ1
  have N1 : Fr n0 L1 := by rw [l1]; exact Fr.app N0 N1q
  clear l1
  obtain ⟨T2, h2, X2, e2, W2, st2⟩ := putF X1 hx hZ hown (host := "") (Or.inl (hw _ (List.mem_of_getElem? (i := 14) rfl))) Via.refl eh1 F_width_a0 E_a0 (Or.inl (hw _ (List.mem_of_getElem? (i := 15) rfl))) (hw _ (List.mem_of_getElem? (i := 1) rfl)) (ty := .int) (by decide) rfl rfl (g := (mkF m 6 #[.val (.ref a0), .val (.int p1)] [(.int (1 : Int32)), (.ref a0)])) rfl rfl (hb hby d1_6)
  have F_width_a0 : Fld Z h2 a0 "com/example/wadjet/wadjet/storage/IntegerChunk" "width" "I" (.int (1 : Int32)) := F_width_a0.same W2
  have E_a0 : Exa Z h2 a0 "com/example/wadjet/wadjet/storage/IntegerChunk" := E_a0.wr W2
  have F_base_a0 : Fld Z h2 a0 "com/example/wadjet/wadjet/storage/IntegerChunk" "base" "J" (.long (0 : Int64)) := F_base_a0.other W2 (Or.inr (slot_ne (Or.inl (hw _ (List.mem_of_getElem? (i := 31) rfl))) (Or.inl (hw _ (List.mem_of_getElem? (i := 15) rfl))) (by decide) (t := .long) (t' := .int) (by decide) (by decide)))
  have F_based_a0 : Fld Z h2 a0 "com/example/wadjet/wadjet/storage/IntegerChunk" "based" "Z" (.int (0 : Int32)) := F_based_a0.other W2 (Or.inr (slot_ne (Or.inl (hw _ (List.mem_of_getElem? (i := 29) rfl))) (Or.inl (hw _ (List.mem_of_getElem? (i := 15) rfl))) (by decide) (t := .boolean) (t' := .int) (by decide) (by decide)))
  have F_narrow_a0 : Fld Z h2 a0 "com/example/wadjet/wadjet/storage/IntegerChunk" "narrow" "[B" u_narrow := F_narrow_a0.other W2 (Or.inr (slot_ne (Or.inl (hw _ (List.mem_of_getElem? (i := 18) rfl))) (Or.inl (hw _ (List.mem_of_getElem? (i := 15) rfl))) (by decide) (t := (.array .byte)) (t' := .int) (by decide) (by decide)))
  have F_middle_a0 : Fld Z h2 a0 "com/example/wadjet/wadjet/storage/IntegerChunk" "middle" "[C" u_middle := F_middle_a0.other W2 (Or.inr (slot_ne (Or.inl (hw _ (List.mem_of_getElem? (i := 61) rfl))) (Or.inl (hw _ (List.mem_of_getElem? (i := 15) rfl))) (by decide) (t := (.array .char)) (t' := .int) (by decide) (by decide)))
  have F_wide_a0 : Fld Z h2 a0 "com/example/wadjet/wadjet/storage/IntegerChunk" "wide" "[I" u_wide := F_wide_a0.other W2 (Or.inr (slot_ne (Or.inl (hw _ (List.mem_of_getElem? (i := 63) rfl))) (Or.inl (hw _ (List.mem_of_getElem? (i := 15) rfl))) (by decide) (t := (.array .int)) (t' := .int) (by decide) (by decide)))
  have F_nulls_a0 : Fld Z h2 a0 "com/example/wadjet/wadjet/storage/IntegerChunk" "nulls" "[J" .null := F_nulls_a0.other W2 (Or.inr (slot_ne (Or.inl (hw _ (List.mem_of_getElem? (i := 37) rfl))) (Or.inl (hw _ (List.mem_of_getElem? (i := 15) rfl))) (by decide) (t := (.array .long)) (t' := .int) (by decide) (by decide)))
  have Zh2 : n0 ≤ h2.size := Nat.le_trans Z0 (Keep.of_wr W2).1
  have Kh2 : Keep h0 h2 [a0] := K0.wr W2 (Or.inl (by simp))
  have N2 := Fr.snoc X2 N1 g_a0
  obtain ⟨T3, h3, k3, X3, e3, E3, A3, st3⟩ := newP X2 hx hZ (hw _ (List.mem_of_getElem? (i := 16) rfl)) e2 (g := (mkF m 11 #[.val (.ref a0), .val (.int p1)] [(.int p1), (.ref a0)])) rfl (hb hby d1_11) rfl (own_nneg hcap.1) (cap := 8) (by rw [own_tn]; omega) (by decide) (by decide) (by decide)
  obtain ⟨nb, g3⟩ : ∃ z, z = h2.size := ⟨_, rfl⟩
  rw [← g3] at A3 st3
  have ne_a0_nb : a0 ≠ nb := Nat.ne_of_lt (Nat.lt_of_lt_of_le E_a0.lt (Nat.le_of_eq g3.symm))
  have g_nb : n0 ≤ nb := Nat.le_trans Zh2 (Nat.le_of_eq g3.symm)
  have sz_nb : h0.size ≤ nb := Nat.le_trans Kh2.1 (Nat.le_of_eq g3.symm)
  have E_a0 : Exa Z h3 a0 "com/example/wadjet/wadjet/storage/IntegerChunk" := E_a0.ext E3
  have F_width_a0 : Fld Z h3 a0 "com/example/wadjet/wadjet/storage/IntegerChunk" "width" "I" (.int (1 : Int32)) := F_width_a0.ext E3
  have F_base_a0 : Fld Z h3 a0 "com/example/wadjet/wadjet/storage/IntegerChunk" "base" "J" (.long (0 : Int64)) := F_base_a0.ext E3
  have F_based_a0 : Fld Z h3 a0 "com/example/wadjet/wadjet/storage/IntegerChunk" "based" "Z" (.int (0 : Int32)) := F_based_a0.ext E3
  have F_narrow_a0 : Fld Z h3 a0 "com/example/wadjet/wadjet/storage/IntegerChunk" "narrow" "[B" u_narrow := F_narrow_a0.ext E3
  have F_middle_a0 : Fld Z h3 a0 "com/example/wadjet/wadjet/storage/IntegerChunk" "middle" "[C" u_middle := F_middle_a0.ext E3
  have F_wide_a0 : Fld Z h3 a0 "com/example/wadjet/wadjet/storage/IntegerChunk" "wide" "[I" u_wide := F_wide_a0.ext E3
  have F_nulls_a0 : Fld Z h3 a0 "com/example/wadjet/wadjet/storage/IntegerChunk" "nulls" "[J" .null := F_nulls_a0.ext E3
  have Zh3 : n0 ≤ h3.size := Nat.le_trans Zh2 E3.1
  have Kh3 : Keep h0 h3 [a0] := Kh2.ext E3
  have V_nb : Arv Z h3 nb k3 .byte p1 [] (.int (0 : Int32)) := Arv.new A3 (own_nneg hcap.1)
  have V_nb : Arv Z h3 nb k3 .byte p1 ((List.replicate p1.toNatClampNeg (0 : Int32)).map Value.int) (.int (0 : Int32)) := by rw [List.map_replicate]; exact V_nb.pad (pad_rep [] (.int (0 : Int32)) p1.toNatClampNeg)
  obtain ⟨T4, h4, X4, e4, W4, st4⟩ := putF X3 hx hZ hown (host := "") (Or.inl (hw _ (List.mem_of_getElem? (i := 17) rfl))) Via.refl e3 F_narrow_a0 E_a0 (Or.inl (hw _ (List.mem_of_getElem? (i := 18) rfl))) (hw _ (List.mem_of_getElem? (i := 1) rfl)) (ty := (.array .byte)) (by decide) rfl rfl (g := (mkF m 13 #[.val (.ref a0), .val (.int p1)] [(.ref nb), (.ref a0)])) rfl rfl (hb hby d1_13)
  have F_narrow_a0 : Fld Z h4 a0 "com/example/wadjet/wadjet/storage/IntegerChunk" "narrow" "[B" (.ref nb) := F_narrow_a0.same W4
  have E_a0 : Exa Z h4 a0 "com/example/wadjet/wadjet/storage/IntegerChunk" := E_a0.wr W4
  have F_width_a0 : Fld Z h4 a0 "com/example/wadjet/wadjet/storage/IntegerChunk" "width" "I" (.int (1 : Int32)) := F_width_a0.other W4 (Or.inr (slot_ne (Or.inl (hw _ (List.mem_of_getElem? (i := 15) rfl))) (Or.inl (hw _ (List.mem_of_getElem? (i := 18) rfl))) (by decide) (t := .int) (t' := (.array .byte)) (by decide) (by decide)))
  have F_base_a0 : Fld Z h4 a0 "com/example/wadjet/wadjet/storage/IntegerChunk" "base" "J" (.long (0 : Int64)) := F_base_a0.other W4 (Or.inr (slot_ne (Or.inl (hw _ (List.mem_of_getElem? (i := 31) rfl))) (Or.inl (hw _ (List.mem_of_getElem? (i := 18) rfl))) (by decide) (t := .long) (t' := (.array .byte)) (by decide) (by decide)))
  have F_based_a0 : Fld Z h4 a0 "com/example/wadjet/wadjet/storage/IntegerChunk" "based" "Z" (.int (0 : Int32)) := F_based_a0.other W4 (Or.inr (slot_ne (Or.inl (hw _ (List.mem_of_getElem? (i := 29) rfl))) (Or.inl (hw _ (List.mem_of_getElem? (i := 18) rfl))) (by decide) (t := .boolean) (t' := (.array .byte)) (by decide) (by decide)))
  have F_middle_a0 : Fld Z h4 a0 "com/example/wadjet/wadjet/storage/IntegerChunk" "middle" "[C" u_middle := F_middle_a0.other W4 (Or.inr (slot_ne (Or.inl (hw _ (List.mem_of_getElem? (i := 61) rfl))) (Or.inl (hw _ (List.mem_of_getElem? (i := 18) rfl))) (by decide) (t := (.array .char)) (t' := (.array .byte)) (by decide) (by decide)))
  have F_wide_a0 : Fld Z h4 a0 "com/example/wadjet/wadjet/storage/IntegerChunk" "wide" "[I" u_wide := F_wide_a0.other W4 (Or.inr (slot_ne (Or.inl (hw _ (List.mem_of_getElem? (i := 63) rfl))) (Or.inl (hw _ (List.mem_of_getElem? (i := 18) rfl))) (by decide) (t := (.array .int)) (t' := (.array .byte)) (by decide) (by decide)))
  have F_nulls_a0 : Fld Z h4 a0 "com/example/wadjet/wadjet/storage/IntegerChunk" "nulls" "[J" .null := F_nulls_a0.other W4 (Or.inr (slot_ne (Or.inl (hw _ (List.mem_of_getElem? (i := 37) rfl))) (Or.inl (hw _ (List.mem_of_getElem? (i := 18) rfl))) (by decide) (t := (.array .long)) (t' := (.array .byte)) (by decide) (by decide)))
  have V_nb : Arv Z h4 nb k3 .byte p1 ((List.replicate p1.toNatClampNeg (0 : Int32)).map Value.int) (.int (0 : Int32)) := V_nb.other W4 (Ne.symm ne_a0_nb)
  have Zh4 : n0 ≤ h4.size := Nat.le_trans Zh3 (Keep.of_wr W4).1
  have Kh4 : Keep h0 h4 [a0] := Kh3.wr W4 (Or.inl (by simp))
  have N4 := Fr.snoc X4 N2 g_a0
  obtain ⟨fs, hr, hrun, hended, hW, hsame⟩ := X4.leave (v := none) (fun _ => rfl)
  refine ⟨_, _, pre0 _ ?_, hrun, hended, _, _, rfl, ?_, ⟨_, rfl⟩, hW, hsame.mono (by decide) (by decide)⟩
  · show Steps p.tables e below (s₁.setTop (mkF m 0 #[.val (.ref a0), .val (.int p1)] [])) _
    refine XS.aloadN X0.here hx rfl (hb hby d1_0) rfl rfl ?_
    refine st1.trans ?_
    show Steps p.tables e below (T1.setTop (mkF m 4 #[.val (.ref a0), .val (.int p1)] [])) _
    refine XS.aloadN X1.here hx rfl (hb hby d1_4) rfl rfl ?_
    show Steps p.tables e below (T1.setTop (mkF m 5 #[.val (.ref a0), .val (.int p1)] [(.ref a0)])) _
    refine XS.iconst X1.here hx rfl (hb hby d1_5) ?_
    refine st2 _ ?_
    show Steps p.tables e below (T2.setTop (mkF m 9 #[.val (.ref a0), .val (.int p1)] [])) _
    refine XS.aloadN X2.here hx rfl (hb hby d1_9) rfl rfl ?_
    refine XS.iloadN X2.here hx rfl (hb hby d1_10) rfl ?_
    show Steps p.tables e below (T2.setTop (mkF m 11 #[.val (.ref a0), .val (.int p1)] [(.int p1), (.ref a0)])) _
    refine st3 _ ?_
    show Steps p.tables e below (T3.setTop (mkF m 13 #[.val (.ref a0), .val (.int p1)] [(.ref nb), (.ref a0)])) _
    refine st4 _ ?_
    show Steps p.tables e below (T4.setTop (mkF m 16 #[.val (.ref a0), .val (.int p1)] [])) _
    exact X4.returnOut hx Bd.returns (hb hby d1_16) hr
  · show Qin Z a0 p1 h0 n0 _ T4.heap _
    rw [e4]
    exact ⟨rfl, N4, Kh4.1, g_a0, E_a0, _, _, _, _, _, g_nb, (Ne.symm ne_a0_nb), F_width_a0, F_base_a0, F_based_a0, F_narrow_a0, F_middle_a0, F_wide_a0, F_nulls_a0, Or.inl ⟨rfl, rfl, V_nb⟩⟩
def own_exp (p0 p1 p2 p3 p4 p5 p6 : Int32) : Int64 := (if p0 = p3 then (p6.toInt64) else (if p0 = p2 then (p5.toInt64) else (p4.toInt64)))
theorem d8_0 : decode method_2_code 0 = .ok (.iload_n 0, 1) := by decide +kernel
theorem d8_1 : decode method_2_code 1 = .ok (.iload_n 3, 1) := by decide +kernel
theorem d8_2 : decode method_2_code 2 = .ok (.if_icmp .ne 11, 3) := by decide +kernel
theorem d8_5 : decode method_2_code 5 = .ok (.iload 6, 2) := by decide +kernel
theorem d8_7 : decode method_2_code 7 = .ok (.i2l, 1) := by decide +kernel
theorem d8_8 : decode method_2_code 8 = .ok (.lstore 7, 2) := by decide +kernel
theorem d8_10 : decode method_2_code 10 = .ok (.goto 21, 3) := by decide +kernel
theorem d8_13 : decode method_2_code 13 = .ok (.iload_n 0, 1) := by decide +kernel
theorem d8_14 : decode method_2_code 14 = .ok (.iload_n 2, 1) := by decide +kernel
theorem d8_15 : decode method_2_code 15 = .ok (.if_icmp .ne 11, 3) := by decide +kernel
theorem d8_18 : decode method_2_code 18 = .ok (.iload 5, 2) := by decide +kernel
theorem d8_20 : decode method_2_code 20 = .ok (.i2l, 1) := by decide +kernel
theorem d8_21 : decode method_2_code 21 = .ok (.lstore 7, 2) := by decide +kernel
theorem d8_23 : decode method_2_code 23 = .ok (.goto 8, 3) := by decide +kernel
theorem d8_26 : decode method_2_code 26 = .ok (.iload 4, 2) := by decide +kernel
theorem d8_28 : decode method_2_code 28 = .ok (.i2l, 1) := by decide +kernel
theorem d8_29 : decode method_2_code 29 = .ok (.lstore 7, 2) := by decide +kernel
theorem d8_31 : decode method_2_code 31 = .ok (.lload 7, 2) := by decide +kernel
theorem d8_33 : decode method_2_code 33 = .ok (.lreturn, 1) := by decide +kernel
theorem pn_8 : plainName "com/example/wadjet/wadjet/storage/IntegerChunkIntegerPinLaw" = true := by first | (simp [plainName, overriddenIn]; done) | decide +kernel
theorem ef_rm8 (m : MethodId) (p0 : Int32) (p1 : Int32) (p2 : Int32) (p3 : Int32) (p4 : Int32) (p5 : Int32) (p6 : Int32) : entryFrame m #[(.int p0), (.int p1), (.int p2), (.int p3), (.int p4), (.int p5), (.int p6)] 9 = mkF m 0 #[.val (.int p0), .val (.int p1), .val (.int p2), .val (.int p3), .val (.int p4), .val (.int p5), .val (.int p6), .unset, .unset] [] := by first | (simp [entryFrame, mkF, argsToLocals, Value.category]; done) | rfl
def Qrm8 (Z : State) (p0 : Int32) (p1 : Int32) (p2 : Int32) (p3 : Int32) (p4 : Int32) (p5 : Int32) (p6 : Int32) (h0 : Heap) (n0 : Nat) (v : Option Value) (h : Heap) (L : List Loc) : Prop := v = some (.long (own_exp p0 p1 p2 p3 p4 p5 p6)) ∧ Fr n0 L ∧ h = h0
set_option maxRecDepth 65536 in
set_option maxHeartbeats 40000000 in
theorem rm8 (l : Launch) (Z : State) (A0 : Array Value) (hw : ∀ d ∈ tables_1, d.before A0 Z = true) (ws : List Jvm.Cond) (p0 : Int32) (p1 : Int32) (p2 : Int32) (p3 : Int32) (p4 : Int32) (p5 : Int32) (p6 : Int32) (h0 : Heap) (n0 : Nat) (Z0 : n0 ≤ h0.size) :
    MetFree l (⟨"com/example/wadjet/wadjet/storage/IntegerChunkIntegerPinLaw", "expected", "(IIIIIII)J"⟩ : MethodName) (head1 (Jvm.Cond.code (⟨"com/example/wadjet/wadjet/storage/IntegerChunkIntegerPinLaw", "expected", "(IIIIIII)J"⟩ : MethodName) method_2_code 9 (some .long) :: ws) ({ frames := 0, cells := 0, slots := 0, locals := 0 } : Room)) (fun a U => a = #[(.int p0), (.int p1), (.int p2), (.int p3), (.int p4), (.int p5), (.int p6)] ∧ Z.Warmed39 U.vm ∧ U.heap = h0) (fun _ _ _ _ _ => True) (fun _ U o U' => ∃ v L, o = .returned v ∧ Qrm8 Z p0 p1 p2 p3 p4 p5 p6 h0 n0 v U'.heap L ∧ FrameEnd U o U' L ({ frames := 0, cells := 0, slots := 0, locals := 0 } : Room).cells ({ frames := 0, cells := 0, slots := 0, locals := 0 } : Room).slots) := by
  refine MetFree.of_bodySF (plainFor_of_name pn_8) hisR ?_
  intro p e s m args below meth c s₁ Bd hml0 hP hK
  obtain ⟨rfl, hZ, hh⟩ := hP
  have hx := Bd.exec
  have hby := Bd.bytes
  have hml : c.maxLocals = 9 := hml0
  have hown : s.vm.findClass "com/example/wadjet/wadjet/storage/IntegerChunkIntegerPinLaw" = some m.cls := findClass_of_methodNamed Bd.named
  have hnm := (name_of_methodNamed Bd.named Bd.method).1
  have X0 : Stand p l e ({ frames := 0, cells := 0, slots := 0, locals := 0 } : Room) s m #[(.int p0), (.int p1), (.int p2), (.int p3), (.int p4), (.int p5), (.int p6)] below meth c s₁ [] 0 0 := Stand.of_body Bd
  have e0 : s₁.heap = h0 := by rw [← hh, Bd.state]; rfl
  have N0 := Fr.nil n0
  have K0 : Keep h0 h0 [] := Keep.refl _ _
  have pre0 : ∀ t, Steps p.tables e below (s₁.setTop (mkF m 0 #[.val (.int p0), .val (.int p1), .val (.int p2), .val (.int p3), .val (.int p4), .val (.int p5), .val (.int p6), .unset, .unset] [])) t → Steps p.tables e below (s₁.setTop (entryFrame m #[(.int p0), (.int p1), (.int p2), (.int p3), (.int p4), (.int p5), (.int p6)] 9)) t := fun t k => castTop (ef_rm8 m p0 p1 p2 p3 p4 p5 p6) k
  obtain ⟨fs, hr, hrun, hended, hW, hsame⟩ := X0.leave (v := some (.long (if p0 = p3 then (p6.toInt64) else (if p0 = p2 then (p5.toInt64) else (p4.toInt64))))) (fun h => by rw [Bd.returns] at h; cases h)
  refine ⟨_, _, pre0 _ ?_, hrun, hended, _, _, rfl, ?_, ⟨_, rfl⟩, hW, hsame.mono (by decide) (by decide)⟩
  · show Steps p.tables e below (s₁.setTop (mkF m 0 #[.val (.int p0), .val (.int p1), .val (.int p2), .val (.int p3), .val (.int p4), .val (.int p5), .val (.int p6), .unset, .unset] [])) _
    refine XS.iloadN X0.here hx rfl (hb hby d8_0) rfl ?_
    refine XS.iloadN X0.here hx rfl (hb hby d8_1) rfl ?_
    refine own_via (s₁.setTop (mkF m 31 #[.val (.int p0), .val (.int p1), .val (.int p2), .val (.int p3), .val (.int p4), .val (.int p5), .val (.int p6), .val (.long (if p0 = p3 then (p6.toInt64) else (if p0 = p2 then (p5.toInt64) else (p4.toInt64)))), .second] [])) (fun k => ?_) ?_
    · by_cases hc2 : p0 = p3
      · show Steps p.tables e below (s₁.setTop (mkF m 2 #[.val (.int p0), .val (.int p1), .val (.int p2), .val (.int p3), .val (.int p4), .val (.int p5), .val (.int p6), .unset, .unset] [(.int p3), (.int p0)])) _
        refine XS.icmpNo X0.here hx rfl (hb hby d8_2) rfl (teq hc2).2 ?_
        show Steps p.tables e below (s₁.setTop (mkF m 5 #[.val (.int p0), .val (.int p1), .val (.int p2), .val (.int p3), .val (.int p4), .val (.int p5), .val (.int p6), .unset, .unset] [])) _
        refine XS.iload X0.here hx rfl (hb hby d8_5) rfl ?_
        refine XS.i2l X0.here hx rfl (hb hby d8_7) rfl ?_
        refine XS.lstore X0.here hx rfl (hb hby d8_8) rfl (l' := #[.val (.int p0), .val (.int p1), .val (.int p2), .val (.int p3), .val (.int p4), .val (.int p5), .val (.int p6), .val (.long (p6.toInt64)), .second]) rfl ?_
        refine XS.goto X0.here hx rfl (pc0 := 10) (pc' := 31) rfl (hb hby d8_10) (by decide) (by decide) ?_
        try simp only [if_pos hc2] at k
        exact k
      · show Steps p.tables e below (s₁.setTop (mkF m 2 #[.val (.int p0), .val (.int p1), .val (.int p2), .val (.int p3), .val (.int p4), .val (.int p5), .val (.int p6), .unset, .unset] [(.int p3), (.int p0)])) _
        refine XS.icmpYes X0.here hx rfl (pc0 := 2) (pc' := 13) rfl (hb hby d8_2) rfl (feq hc2).2 (by decide) (by decide) ?_
        show Steps p.tables e below (s₁.setTop (mkF m 13 #[.val (.int p0), .val (.int p1), .val (.int p2), .val (.int p3), .val (.int p4), .val (.int p5), .val (.int p6), .unset, .unset] [])) _
        refine XS.iloadN X0.here hx rfl (hb hby d8_13) rfl ?_
        refine XS.iloadN X0.here hx rfl (hb hby d8_14) rfl ?_
        by_cases hc15 : p0 = p2
        · show Steps p.tables e below (s₁.setTop (mkF m 15 #[.val (.int p0), .val (.int p1), .val (.int p2), .val (.int p3), .val (.int p4), .val (.int p5), .val (.int p6), .unset, .unset] [(.int p2), (.int p0)])) _
          refine XS.icmpNo X0.here hx rfl (hb hby d8_15) rfl (teq hc15).2 ?_
          refine XS.iload X0.here hx rfl (hb hby d8_18) rfl ?_
          show Steps p.tables e below (s₁.setTop (mkF m 20 #[.val (.int p0), .val (.int p1), .val (.int p2), .val (.int p3), .val (.int p4), .val (.int p5), .val (.int p6), .unset, .unset] [(.int p5)])) _
          refine XS.i2l X0.here hx rfl (hb hby d8_20) rfl ?_
          refine XS.lstore X0.here hx rfl (hb hby d8_21) rfl (l' := #[.val (.int p0), .val (.int p1), .val (.int p2), .val (.int p3), .val (.int p4), .val (.int p5), .val (.int p6), .val (.long (p5.toInt64)), .second]) rfl ?_
          refine XS.goto X0.here hx rfl (pc0 := 23) (pc' := 31) rfl (hb hby d8_23) (by decide) (by decide) ?_
          try simp only [if_neg hc2, if_pos hc15] at k
          exact k
        · show Steps p.tables e below (s₁.setTop (mkF m 15 #[.val (.int p0), .val (.int p1), .val (.int p2), .val (.int p3), .val (.int p4), .val (.int p5), .val (.int p6), .unset, .unset] [(.int p2), (.int p0)])) _
          refine XS.icmpYes X0.here hx rfl (pc0 := 15) (pc' := 26) rfl (hb hby d8_15) rfl (feq hc15).2 (by decide) (by decide) ?_
          show Steps p.tables e below (s₁.setTop (mkF m 26 #[.val (.int p0), .val (.int p1), .val (.int p2), .val (.int p3), .val (.int p4), .val (.int p5), .val (.int p6), .unset, .unset] [])) _
          refine XS.iload X0.here hx rfl (hb hby d8_26) rfl ?_
          show Steps p.tables e below (s₁.setTop (mkF m 28 #[.val (.int p0), .val (.int p1), .val (.int p2), .val (.int p3), .val (.int p4), .val (.int p5), .val (.int p6), .unset, .unset] [(.int p4)])) _
          refine XS.i2l X0.here hx rfl (hb hby d8_28) rfl ?_
          refine XS.lstore X0.here hx rfl (hb hby d8_29) rfl (l' := #[.val (.int p0), .val (.int p1), .val (.int p2), .val (.int p3), .val (.int p4), .val (.int p5), .val (.int p6), .val (.long (p4.toInt64)), .second]) rfl ?_
          try simp only [if_neg hc2, if_neg hc15] at k
          exact k
    show Steps p.tables e below (s₁.setTop (mkF m 31 #[.val (.int p0), .val (.int p1), .val (.int p2), .val (.int p3), .val (.int p4), .val (.int p5), .val (.int p6), .val (.long (if p0 = p3 then (p6.toInt64) else (if p0 = p2 then (p5.toInt64) else (p4.toInt64)))), .second] [])) _
    refine XS.lload X0.here hx rfl (hb hby d8_31) rfl ?_
    show Steps p.tables e below (s₁.setTop (mkF m 33 #[.val (.int p0), .val (.int p1), .val (.int p2), .val (.int p3), .val (.int p4), .val (.int p5), .val (.int p6), .val (.long (if p0 = p3 then (p6.toInt64) else (if p0 = p2 then (p5.toInt64) else (p4.toInt64)))), .second] [(.long (if p0 = p3 then (p6.toInt64) else (if p0 = p2 then (p5.toInt64) else (p4.toInt64))))])) _
    exact own_retJ X0 hx Bd.returns (hb hby d8_33) hr
  · show Qrm8 Z p0 p1 p2 p3 p4 p5 p6 h0 n0 _ s₁.heap _
    rw [e0]
    exact ⟨rfl, N0, rfl⟩
theorem own_nn {x y : Int32} (hx : 0 ≤ x.toInt) (hy : 0 ≤ y.toInt) (h : ¬ x = y) : x.toNatClampNeg ≠ y.toNatClampNeg := by
  rw [own_tn, own_tn]
  intro q
  exact h (Int32.toInt_inj.mp (by omega))
theorem own_last {sa sb sc a b c : Int32} {R1 R2 R3 : Nat → Int64} {N1 N2 : Int} (hsa : 0 ≤ sa.toInt ∧ sa.toInt < 8) (hsb : 0 ≤ sb.toInt ∧ sb.toInt < 8) (hsc : 0 ≤ sc.toInt ∧ sc.toInt < 8)
    (la : sa.toInt < N1) (ea : R1 sa.toNatClampNeg = a.toInt64) (lb : sb.toInt < N2) (eb : R2 sb.toNatClampNeg = b.toInt64) (n12 : N1 ≤ N2)
    (k2 : ∀ j : Nat, (j : Int) < N1 → j ≠ sb.toNatClampNeg → own_i64 (R1 j) → R2 j = R1 j) (ec : R3 sc.toNatClampNeg = c.toInt64)
    (k3 : ∀ j : Nat, (j : Int) < N2 → j ≠ sc.toNatClampNeg → own_i64 (R2 j) → R3 j = R2 j) :
    R3 sa.toNatClampNeg = own_exp sa sa sb sc a b c ∧ R3 sb.toNatClampNeg = own_exp sb sa sb sc a b c ∧ R3 sc.toNatClampNeg = own_exp sc sa sb sc a b c := by
  have ta := own_tn sa
  have tb := own_tn sb
  have hb : ¬ sb = sc → R3 sb.toNatClampNeg = b.toInt64 := by
    intro h
    rw [k3 _ (by omega) (own_nn hsb.1 hsc.1 h) (by rw [eb]; exact own_r32 b), eb]
  unfold own_exp
  refine ⟨?_, ?_, ?_⟩
  · by_cases h1 : sa = sc
    · rw [if_pos h1, h1, ec]
    · rw [if_neg h1]
      by_cases h2 : sa = sb
      · rw [if_pos h2, h2]; rw [h2] at h1; exact hb h1
      · rw [if_neg h2]
        have e2 := k2 sa.toNatClampNeg (by omega) (own_nn hsa.1 hsb.1 h2) (by rw [ea]; exact own_r32 a)
        rw [k3 _ (by omega) (own_nn hsa.1 hsc.1 h1) (by rw [e2, ea]; exact own_r32 a), e2, ea]
  · by_cases h1 : sb = sc
    · rw [if_pos h1, h1, ec]
    · rw [if_neg h1, if_pos rfl]; exact hb h1
  · rw [if_pos rfl, ec]

theorem pd_12 : parseMethodDescriptor "(IIIIIII)J" = some ⟨[.int, .int, .int, .int, .int, .int, .int], some .long⟩ := by decide +kernel
theorem pn_0 : plainName "com/example/wadjet/wadjet/storage/IntegerChunkIntegerPinLaw" = true := by first | (simp [plainName, overriddenIn]; done) | decide +kernel
theorem ef_rm0 (m : MethodId) (p0 : Int32) (p1 : Int32) (p2 : Int32) (p3 : Int32) : entryFrame m #[(.int p0), (.int p1), (.int p2), (.int p3)] maxLocals = mkF m 0 #[.val (.int p0), .val (.int p1), .val (.int p2), .val (.int p3), .unset, .unset, .unset, .unset, .unset, .unset, .unset, .unset, .unset, .unset] [] := by first | (simp [entryFrame, mkF, argsToLocals, Value.category, maxLocals]; done) | rfl
def Qrm0 (Z : State) (p0 : Int32) (p1 : Int32) (p2 : Int32) (p3 : Int32) (h0 : Heap) (n0 : Nat) (v : Option Value) (h : Heap) (L : List Loc) : Prop := v = some (.int (1 : Int32)) ∧ Fr n0 L
set_option maxRecDepth 65536 in
set_option maxHeartbeats 40000000 in
theorem rm0 (l : Launch) (Z : State) (A0 : Array Value) (hw : ∀ d ∈ tables_1, d.before A0 Z = true) (ws : List Jvm.Cond) (p0 : Int32) (p1 : Int32) (p2 : Int32) (p3 : Int32) (h0 : Heap) (n0 : Nat) (Z0 : n0 ≤ h0.size) :
    MetFree l x (head1 (Jvm.Cond.code x code maxLocals ret :: ws) room_1) (fun a U => a = #[(.int p0), (.int p1), (.int p2), (.int p3)] ∧ Z.Warmed39 U.vm ∧ U.heap = h0) (fun _ _ _ _ _ => True) (fun _ U o U' => ∃ v L, o = .returned v ∧ Qrm0 Z p0 p1 p2 p3 h0 n0 v U'.heap L ∧ FrameEnd U o U' L room_1.cells room_1.slots) := by
  refine MetFree.of_bodySF (plainFor_of_name pn_0) hisR ?_
  intro p e s m args below meth c s₁ Bd hml0 hP hK
  obtain ⟨rfl, hZ, hh⟩ := hP
  have hx := Bd.exec
  have hby := Bd.bytes
  have hml : c.maxLocals = 14 := hml0
  have hown : s.vm.findClass "com/example/wadjet/wadjet/storage/IntegerChunkIntegerPinLaw" = some m.cls := findClass_of_methodNamed Bd.named
  have hnm := (name_of_methodNamed Bd.named Bd.method).1
  have X0 : Stand p l e room_1 s m #[(.int p0), (.int p1), (.int p2), (.int p3)] below meth c s₁ [] 0 0 := Stand.of_body Bd
  have e0 : s₁.heap = h0 := by rw [← hh, Bd.state]; rfl
  have N0 := Fr.nil n0
  have K0 : Keep h0 h0 [] := Keep.refl _ _
  have pre0 : ∀ t, Steps p.tables e below (s₁.setTop (mkF m 0 #[.val (.int p0), .val (.int p1), .val (.int p2), .val (.int p3), .unset, .unset, .unset, .unset, .unset, .unset, .unset, .unset, .unset, .unset] [])) t → Steps p.tables e below (s₁.setTop (entryFrame m #[(.int p0), (.int p1), (.int p2), (.int p3)] maxLocals)) t := fun t k => castTop (ef_rm0 m p0 p1 p2 p3) k
  obtain ⟨sa, h_sa⟩ : ∃ z : Int32, z = (p3 &&& (7 : Int32)) := ⟨_, rfl⟩
  have hsa : 0 ≤ sa.toInt ∧ sa.toInt < 8 := by rw [h_sa]; exact own_and7 _
  obtain ⟨sb, h_sb⟩ : ∃ z : Int32, z = (((p3.toUInt32 >>> ((3 : Int32) &&& 31).toUInt32).toInt32) &&& (7 : Int32)) := ⟨_, rfl⟩
  have hsb : 0 ≤ sb.toInt ∧ sb.toInt < 8 := by rw [h_sb]; exact own_and7 _
  obtain ⟨sc, h_sc⟩ : ∃ z : Int32, z = (((p3.toUInt32 >>> ((6 : Int32) &&& 31).toUInt32).toInt32) &&& (7 : Int32)) := ⟨_, rfl⟩
  have hsc : 0 ≤ sc.toInt ∧ sc.toInt < 8 := by rw [h_sc]; exact own_and7 _
  obtain ⟨T1, h1, X1, e1, E1, A1, D1, -, st1⟩ := newO X0 hx hZ hown (hw _ (List.mem_of_getElem? (i := 0) rfl)) (hw _ (List.mem_of_getElem? (i := 1) rfl)) (hw _ (List.mem_of_getElem? (i := 2) rfl)) e0 (g := (mkF m 23 #[.val (.int p0), .val (.int p1), .val (.int p2), .val (.int p3), .val (.int sa), .val (.int sb), .val (.int sc), .unset, .unset, .unset, .unset, .unset, .unset, .unset] [])) rfl (hb hby at_23) (by decide) (by decide)
  obtain ⟨ck, g1⟩ : ∃ z, z = h0.size := ⟨_, rfl⟩
  rw [← g1] at A1 D1 st1
  have g_ck : n0 ≤ ck := Nat.le_trans Z0 (Nat.le_of_eq g1.symm)
  have sz_ck : h0.size ≤ ck := Nat.le_trans K0.1 (Nat.le_of_eq g1.symm)
  have Zh1 : n0 ≤ h1.size := Nat.le_trans Z0 E1.1
  have Kh1 : Keep h0 h1 [] := K0.ext E1
  have E_ck : Exa Z h1 ck "com/example/wadjet/wadjet/storage/IntegerChunk" := A1
  have F_width_ck : Fld Z h1 ck "com/example/wadjet/wadjet/storage/IntegerChunk" "width" "I" (.int (0 : Int32)) := D1 (Or.inl (hw _ (List.mem_of_getElem? (i := 15) rfl))) (ty := .int) (by decide)
  have F_narrow_ck : Fld Z h1 ck "com/example/wadjet/wadjet/storage/IntegerChunk" "narrow" "[B" .null := D1 (Or.inl (hw _ (List.mem_of_getElem? (i := 18) rfl))) (ty := (.array .byte)) (by decide)
  have F_based_ck : Fld Z h1 ck "com/example/wadjet/wadjet/storage/IntegerChunk" "based" "Z" (.int (0 : Int32)) := D1 (Or.inl (hw _ (List.mem_of_getElem? (i := 29) rfl))) (ty := .boolean) (by decide)
  have F_base_ck : Fld Z h1 ck "com/example/wadjet/wadjet/storage/IntegerChunk" "base" "J" (.long (0 : Int64)) := D1 (Or.inl (hw _ (List.mem_of_getElem? (i := 31) rfl))) (ty := .long) (by decide)
  have F_nulls_ck : Fld Z h1 ck "com/example/wadjet/wadjet/storage/IntegerChunk" "nulls" "[J" .null := D1 (Or.inl (hw _ (List.mem_of_getElem? (i := 37) rfl))) (ty := (.array .long)) (by decide)
  have F_middle_ck : Fld Z h1 ck "com/example/wadjet/wadjet/storage/IntegerChunk" "middle" "[C" .null := D1 (Or.inl (hw _ (List.mem_of_getElem? (i := 61) rfl))) (ty := (.array .char)) (by decide)
  have F_wide_ck : Fld Z h1 ck "com/example/wadjet/wadjet/storage/IntegerChunk" "wide" "[I" .null := D1 (Or.inl (hw _ (List.mem_of_getElem? (i := 63) rfl))) (ty := (.array .int)) (by decide)
  obtain ⟨_, _, ⟨T2, L2, k2, n2⟩, -, X2, ⟨Lc2, hQ2, l2, y2, z2⟩, st2⟩ := X1.specialBack hx (y := (⟨"com/example/wadjet/wadjet/storage/IntegerChunk", "<init>", "(I)V"⟩ : MethodName)) rfl hown (mvT hZ (hw _ (List.mem_of_getElem? (i := 3) rfl))) (mvT hZ (hw _ (List.mem_of_getElem? (i := 4) rfl))) (mvT hZ (hw _ (List.mem_of_getElem? (i := 5) rfl))) (by decide) (backOf (W := 1) (rm1 l Z A0 hw [] ck (4 : Int32) (.int (0 : Int32)) .null .null .null h1 n0 Zh1 E_ck F_width_ck F_base_ck F_based_ck F_narrow_ck F_middle_ck F_wide_ck F_nulls_ck g_ck (by decide)) hZ (hw _ (List.mem_of_getElem? (i := 5) rfl)) (hw _ (List.mem_of_getElem? (i := 2) rfl)) (by decide) (by decide)) (g := (mkF m 28 #[.val (.int p0), .val (.int p1), .val (.int p2), .val (.int p3), .val (.int sa), .val (.int sb), .val (.int sc), .unset, .unset, .unset, .unset, .unset, .unset, .unset] [(.int (4 : Int32)), (.ref ck), (.ref ck)])) rfl (by rw [hml]; rfl) (Steps.refl _) (a := ck) (argsL := [(.int (4 : Int32))]) (rest := [(.ref ck)]) (lenOf pd_8 rfl) rfl (by show 2 * 0 + _ ≤ _; exact Nat.le_of_eq rfl) (hb hby at_28) (fun _ _ => ⟨rfl, e1, (by decide : 1 + 1 ≤ _), (by decide : 7 + 8 ≤ _)⟩)
  dsimp only [Pt.U, Pt.locs, Pt.cells, Pt.slots] at X2 l2 y2 z2 st2 hQ2
  subst y2 z2
  obtain ⟨rfl, N2q, hsz2, HK2⟩ := hQ2
  have N2 : Fr n0 L2 := by rw [l2]; exact Fr.app N0 N2q
  clear l2
  have Z_2 : n0 ≤ T2.heap.size := Nat.le_trans Zh1 hsz2
  obtain ⟨cq3, kq3, q3a, q3b, q3c⟩ := isOf hZ rfl HK2.2.1
  obtain ⟨_, _, ⟨T3, L3, k3, n3⟩, -, X3, ⟨Lc3, hQ3, l3, y3, z3⟩, st3⟩ := X2.virtualBack hx (y := (⟨"com/example/wadjet/wadjet/storage/IntegerChunk", "writeInteger", "(IJ)V"⟩ : MethodName)) (z := (⟨"com/example/wadjet/wadjet/storage/IntegerChunk", "writeInteger", "(IJ)V"⟩ : MethodName)) hown (mvT hZ (hw _ (List.mem_of_getElem? (i := 19) rfl))) (mvT hZ (hw _ (List.mem_of_getElem? (i := 20) rfl))) (notFace_of_selects (args := #[]) (mvT hZ (hw _ (List.mem_of_getElem? (i := 22) rfl)))) (mvT hZ (hw _ (List.mem_of_getElem? (i := 22) rfl))) (mvT hZ (hw _ (List.mem_of_getElem? (i := 21) rfl))) (by decide) (backOf (W := 0) (rmA l Z A0 hw [] ck sa (p0.toInt64) 0 (4 : Int32) (List.replicate ((4 : Int32)).toNatClampNeg (0 : Int32)) T2.heap n0 Z_2 (by decide) hsa (own_t32 (own_r32 p0)) (own_inv0 (own_r32 p0)) HK2) hZ (hw _ (List.mem_of_getElem? (i := 23) rfl)) (hw _ (List.mem_of_getElem? (i := 2) rfl)) (by decide) (by decide)) q3a q3c (g := (mkF m 39 #[.val (.int p0), .val (.int p1), .val (.int p2), .val (.int p3), .val (.int sa), .val (.int sb), .val (.int sc), .val (.ref ck), .unset, .unset, .unset, .unset, .unset, .unset] [(.long (p0.toInt64)), (.int sa), (.ref ck)])) rfl (by rw [hml]; rfl) (Steps.refl _) (argsL := [(.int sa), (.long (p0.toInt64))]) (rest := []) (lenOf pd_9 rfl) rfl (by show 2 * 0 + _ ≤ _; exact Nat.le_of_eq rfl) (hb hby at_39) (fun _ _ => ⟨rfl, rfl, (by decide : 2 + 5 ≤ _), (by decide : 15 + 40 ≤ _)⟩)
  dsimp only [Pt.U, Pt.locs, Pt.cells, Pt.slots] at X3 l3 y3 z3 st3 hQ3
  subst y3 z3
  obtain ⟨rfl, N3q, hsz3, wq3, bq3, Nq3, yq3, HS3, HK3⟩ := hQ3
  have N3 : Fr n0 L3 := by rw [l3]; exact Fr.app N2 N3q
  clear l3
  obtain ⟨I1, pl1, ev1, nl1, kp1⟩ := own_L4 (by decide) (own_inv0 (own_r32 p0)) hsa (own_r32 p0) HS3
  obtain ⟨cq4, kq4, q4a, q4b, q4c⟩ := isOf hZ rfl HK3.2.1
  obtain ⟨_, _, ⟨T4, L4, k4, n4⟩, -, X4, ⟨Lc4, hQ4, l4, y4, z4⟩, st4⟩ := X3.virtualBack hx (y := (⟨"com/example/wadjet/wadjet/storage/IntegerChunk", "writeInteger", "(IJ)V"⟩ : MethodName)) (z := (⟨"com/example/wadjet/wadjet/storage/IntegerChunk", "writeInteger", "(IJ)V"⟩ : MethodName)) hown (mvT hZ (hw _ (List.mem_of_getElem? (i := 19) rfl))) (mvT hZ (hw _ (List.mem_of_getElem? (i := 20) rfl))) (notFace_of_selects (args := #[]) (mvT hZ (hw _ (List.mem_of_getElem? (i := 22) rfl)))) (mvT hZ (hw _ (List.mem_of_getElem? (i := 22) rfl))) (mvT hZ (hw _ (List.mem_of_getElem? (i := 21) rfl))) (by decide) (backOf (W := 0) (rmB l Z A0 hw [] ck sb (p1.toInt64) 1 wq3 bq3 Nq3 yq3 T3.heap n0 hsz3 (by decide) hsb (own_t32 (own_r32 p1)) I1 HK3) hZ (hw _ (List.mem_of_getElem? (i := 23) rfl)) (hw _ (List.mem_of_getElem? (i := 2) rfl)) (by decide) (by decide)) q4a q4c (g := (mkF m 48 #[.val (.int p0), .val (.int p1), .val (.int p2), .val (.int p3), .val (.int sa), .val (.int sb), .val (.int sc), .val (.ref ck), .unset, .unset, .unset, .unset, .unset, .unset] [(.long (p1.toInt64)), (.int sb), (.ref ck)])) rfl (by rw [hml]; rfl) (Steps.refl _) (argsL := [(.int sb), (.long (p1.toInt64))]) (rest := []) (lenOf pd_9 rfl) rfl (by show 2 * 0 + _ ≤ _; exact Nat.le_of_eq rfl) (hb hby at_48) (fun _ _ => ⟨rfl, rfl, (by decide : 7 + 5 ≤ _), (by decide : 55 + 40 ≤ _)⟩)
  dsimp only [Pt.U, Pt.locs, Pt.cells, Pt.slots] at X4 l4 y4 z4 st4 hQ4
  subst y4 z4
  obtain ⟨rfl, N4q, hsz4, wq4, bq4, Nq4, yq4, HS4, HK4⟩ := hQ4
  have N4 : Fr n0 L4 := by rw [l4]; exact Fr.app N3 N4q
  clear l4
  obtain ⟨I2, pl2, ev2, nl2, kp2⟩ := own_L4 (by decide) I1 hsb (own_r32 p1) HS4
  obtain ⟨cq5, kq5, q5a, q5b, q5c⟩ := isOf hZ rfl HK4.2.1
  obtain ⟨_, _, ⟨T5, L5, k5, n5⟩, -, X5, ⟨Lc5, hQ5, l5, y5, z5⟩, st5⟩ := X4.virtualBack hx (y := (⟨"com/example/wadjet/wadjet/storage/IntegerChunk", "writeInteger", "(IJ)V"⟩ : MethodName)) (z := (⟨"com/example/wadjet/wadjet/storage/IntegerChunk", "writeInteger", "(IJ)V"⟩ : MethodName)) hown (mvT hZ (hw _ (List.mem_of_getElem? (i := 19) rfl))) (mvT hZ (hw _ (List.mem_of_getElem? (i := 20) rfl))) (notFace_of_selects (args := #[]) (mvT hZ (hw _ (List.mem_of_getElem? (i := 22) rfl)))) (mvT hZ (hw _ (List.mem_of_getElem? (i := 22) rfl))) (mvT hZ (hw _ (List.mem_of_getElem? (i := 21) rfl))) (by decide) (backOf (W := 0) (rmB l Z A0 hw [] ck sc (p2.toInt64) 2 wq4 bq4 Nq4 yq4 T4.heap n0 hsz4 (by decide) hsc (own_t32 (own_r32 p2)) I2 HK4) hZ (hw _ (List.mem_of_getElem? (i := 23) rfl)) (hw _ (List.mem_of_getElem? (i := 2) rfl)) (by decide) (by decide)) q5a q5c (g := (mkF m 57 #[.val (.int p0), .val (.int p1), .val (.int p2), .val (.int p3), .val (.int sa), .val (.int sb), .val (.int sc), .val (.ref ck), .unset, .unset, .unset, .unset, .unset, .unset] [(.long (p2.toInt64)), (.int sc), (.ref ck)])) rfl (by rw [hml]; rfl) (Steps.refl _) (argsL := [(.int sc), (.long (p2.toInt64))]) (rest := []) (lenOf pd_9 rfl) rfl (by show 2 * 0 + _ ≤ _; exact Nat.le_of_eq rfl) (hb hby at_57) (fun _ _ => ⟨rfl, rfl, (by decide : 12 + 5 ≤ _), (by decide : 95 + 40 ≤ _)⟩)
  dsimp only [Pt.U, Pt.locs, Pt.cells, Pt.slots] at X5 l5 y5 z5 st5 hQ5
  subst y5 z5
  obtain ⟨rfl, N5q, hsz5, wq5, bq5, Nq5, yq5, HS5, HK5⟩ := hQ5
  have N5 : Fr n0 L5 := by rw [l5]; exact Fr.app N4 N5q
  clear l5
  obtain ⟨I3, pl3, ev3, nl3, kp3⟩ := own_L4 (by decide) I2 hsc (own_r32 p2) HS5
  have FA := own_last (R1 := fun j => own_rd wq3 bq3 (yq3.getD j 0)) (R2 := fun j => own_rd wq4 bq4 (yq4.getD j 0)) (R3 := fun j => own_rd wq5 bq5 (yq5.getD j 0)) hsa hsb hsc pl1 ev1 pl2 ev2 nl2 kp2 ev3 kp3
  have in_a : ¬ (sa < 0) ∧ sa < Nq5 := own_ltN ⟨hsa.1, by omega⟩
  have in_b : ¬ (sb < 0) ∧ sb < Nq5 := own_ltN ⟨hsb.1, by omega⟩
  have in_c : ¬ (sc < 0) ∧ sc < Nq5 := own_ltN ⟨hsc.1, by omega⟩
  obtain ⟨cq6, kq6, q6a, q6b, q6c⟩ := isOf hZ rfl HK5.2.1
  obtain ⟨_, _, ⟨T6, L6, k6, n6⟩, -, X6, ⟨Lc6, hQ6, l6, y6, z6⟩, st6⟩ := X5.virtualBack hx (y := (⟨"com/example/wadjet/wadjet/storage/IntegerChunk", "integer", "(I)J"⟩ : MethodName)) (z := (⟨"com/example/wadjet/wadjet/storage/IntegerChunk", "integer", "(I)J"⟩ : MethodName)) hown (mvT hZ (hw _ (List.mem_of_getElem? (i := 38) rfl))) (mvT hZ (hw _ (List.mem_of_getElem? (i := 39) rfl))) (notFace_of_selects (args := #[]) (mvT hZ (hw _ (List.mem_of_getElem? (i := 41) rfl)))) (mvT hZ (hw _ (List.mem_of_getElem? (i := 41) rfl))) (mvT hZ (hw _ (List.mem_of_getElem? (i := 40) rfl))) (by decide) (backOf (W := 0) (rmJ l Z A0 hw [] ck sa wq5 bq5 (.int (1 : Int32)) Nq5 yq5 T5.heap n0 hsz5 in_a HK5) hZ (hw _ (List.mem_of_getElem? (i := 42) rfl)) (hw _ (List.mem_of_getElem? (i := 2) rfl)) (by decide) (by decide)) q6a q6c (g := (mkF m 64 #[.val (.int p0), .val (.int p1), .val (.int p2), .val (.int p3), .val (.int sa), .val (.int sb), .val (.int sc), .val (.ref ck), .unset, .unset, .unset, .unset, .unset, .unset] [(.int sa), (.ref ck)])) rfl (by rw [hml]; rfl) (Steps.refl _) (argsL := [(.int sa)]) (rest := []) (lenOf pd_6 rfl) rfl (by show 2 * 0 + _ ≤ _; exact Nat.le_of_eq rfl) (hb hby at_64) (fun _ _ => ⟨rfl, rfl, (by decide : 17 + 0 ≤ _), (by decide : 135 + 0 ≤ _)⟩)
  dsimp only [Pt.U, Pt.locs, Pt.cells, Pt.slots] at X6 l6 y6 z6 st6 hQ6
  subst y6 z6
  obtain ⟨rfl, N6q, eh6⟩ := hQ6
  have N6 : Fr n0 L6 := by rw [l6]; exact Fr.app N5 N6q
  clear l6
  obtain ⟨cq7, kq7, q7a, q7b, q7c⟩ := isOf hZ eh6 HK5.2.1
  obtain ⟨_, _, ⟨T7, L7, k7, n7⟩, -, X7, ⟨Lc7, hQ7, l7, y7, z7⟩, st7⟩ := X6.virtualBack hx (y := (⟨"com/example/wadjet/wadjet/storage/IntegerChunk", "integer", "(I)J"⟩ : MethodName)) (z := (⟨"com/example/wadjet/wadjet/storage/IntegerChunk", "integer", "(I)J"⟩ : MethodName)) hown (mvT hZ (hw _ (List.mem_of_getElem? (i := 38) rfl))) (mvT hZ (hw _ (List.mem_of_getElem? (i := 39) rfl))) (notFace_of_selects (args := #[]) (mvT hZ (hw _ (List.mem_of_getElem? (i := 41) rfl)))) (mvT hZ (hw _ (List.mem_of_getElem? (i := 41) rfl))) (mvT hZ (hw _ (List.mem_of_getElem? (i := 40) rfl))) (by decide) (backOf (W := 0) (rmJ l Z A0 hw [] ck sb wq5 bq5 (.int (1 : Int32)) Nq5 yq5 T5.heap n0 hsz5 in_b HK5) hZ (hw _ (List.mem_of_getElem? (i := 42) rfl)) (hw _ (List.mem_of_getElem? (i := 2) rfl)) (by decide) (by decide)) q7a q7c (g := (mkF m 73 #[.val (.int p0), .val (.int p1), .val (.int p2), .val (.int p3), .val (.int sa), .val (.int sb), .val (.int sc), .val (.ref ck), .val (.long (own_rd wq5 bq5 (yq5.getD sa.toNatClampNeg 0))), .second, .unset, .unset, .unset, .unset] [(.int sb), (.ref ck)])) rfl (by rw [hml]; rfl) (Steps.refl _) (argsL := [(.int sb)]) (rest := []) (lenOf pd_6 rfl) rfl (by show 2 * 0 + _ ≤ _; exact Nat.le_of_eq rfl) (hb hby at_73) (fun _ _ => ⟨rfl, eh6, (by decide : 17 + 0 ≤ _), (by decide : 135 + 0 ≤ _)⟩)
  dsimp only [Pt.U, Pt.locs, Pt.cells, Pt.slots] at X7 l7 y7 z7 st7 hQ7
  subst y7 z7
  obtain ⟨rfl, N7q, eh7⟩ := hQ7
  have N7 : Fr n0 L7 := by rw [l7]; exact Fr.app N6 N7q
  clear l7
  obtain ⟨cq8, kq8, q8a, q8b, q8c⟩ := isOf hZ eh7 HK5.2.1
  obtain ⟨_, _, ⟨T8, L8, k8, n8⟩, -, X8, ⟨Lc8, hQ8, l8, y8, z8⟩, st8⟩ := X7.virtualBack hx (y := (⟨"com/example/wadjet/wadjet/storage/IntegerChunk", "integer", "(I)J"⟩ : MethodName)) (z := (⟨"com/example/wadjet/wadjet/storage/IntegerChunk", "integer", "(I)J"⟩ : MethodName)) hown (mvT hZ (hw _ (List.mem_of_getElem? (i := 38) rfl))) (mvT hZ (hw _ (List.mem_of_getElem? (i := 39) rfl))) (notFace_of_selects (args := #[]) (mvT hZ (hw _ (List.mem_of_getElem? (i := 41) rfl)))) (mvT hZ (hw _ (List.mem_of_getElem? (i := 41) rfl))) (mvT hZ (hw _ (List.mem_of_getElem? (i := 40) rfl))) (by decide) (backOf (W := 0) (rmJ l Z A0 hw [] ck sc wq5 bq5 (.int (1 : Int32)) Nq5 yq5 T5.heap n0 hsz5 in_c HK5) hZ (hw _ (List.mem_of_getElem? (i := 42) rfl)) (hw _ (List.mem_of_getElem? (i := 2) rfl)) (by decide) (by decide)) q8a q8c (g := (mkF m 82 #[.val (.int p0), .val (.int p1), .val (.int p2), .val (.int p3), .val (.int sa), .val (.int sb), .val (.int sc), .val (.ref ck), .val (.long (own_rd wq5 bq5 (yq5.getD sa.toNatClampNeg 0))), .second, .val (.long (own_rd wq5 bq5 (yq5.getD sb.toNatClampNeg 0))), .second, .unset, .unset] [(.int sc), (.ref ck)])) rfl (by rw [hml]; rfl) (Steps.refl _) (argsL := [(.int sc)]) (rest := []) (lenOf pd_6 rfl) rfl (by show 2 * 0 + _ ≤ _; exact Nat.le_of_eq rfl) (hb hby at_82) (fun _ _ => ⟨rfl, eh7, (by decide : 17 + 0 ≤ _), (by decide : 135 + 0 ≤ _)⟩)
  dsimp only [Pt.U, Pt.locs, Pt.cells, Pt.slots] at X8 l8 y8 z8 st8 hQ8
  subst y8 z8
  obtain ⟨rfl, N8q, eh8⟩ := hQ8
  have N8 : Fr n0 L8 := by rw [l8]; exact Fr.app N7 N8q
  clear l8
  obtain ⟨_, _, ⟨T9, L9, k9, n9⟩, -, X9, ⟨Lc9, hQ9, l9, y9, z9⟩, st9⟩ := Jvm.LawKit.callS X8 hx (y := (⟨"com/example/wadjet/wadjet/storage/IntegerChunkIntegerPinLaw", "expected", "(IIIIIII)J"⟩ : MethodName)) hown (mvT hZ (hw _ (List.mem_of_getElem? (i := 43) rfl))) (mvT hZ (hw _ (List.mem_of_getElem? (i := 44) rfl))) (mvT hZ (hw _ (List.mem_of_getElem? (i := 45) rfl))) (mvT hZ (hw _ (List.mem_of_getElem? (i := 46) rfl))) (by decide) (backOf (W := 2) (rm8 l Z A0 hw [] sa sa sb sc p0 p1 p2  T5.heap n0 hsz5 ) hZ (hw _ (List.mem_of_getElem? (i := 46) rfl)) (hw _ (List.mem_of_getElem? (i := 45) rfl)) (by decide) (by decide)) (g := (mkF m 100 #[.val (.int p0), .val (.int p1), .val (.int p2), .val (.int p3), .val (.int sa), .val (.int sb), .val (.int sc), .val (.ref ck), .val (.long (own_rd wq5 bq5 (yq5.getD sa.toNatClampNeg 0))), .second, .val (.long (own_rd wq5 bq5 (yq5.getD sb.toNatClampNeg 0))), .second, .val (.long (own_rd wq5 bq5 (yq5.getD sc.toNatClampNeg 0))), .second] [(.int p2), (.int p1), (.int p0), (.int sc), (.int sb), (.int sa), (.int sa), (.long (own_rd wq5 bq5 (yq5.getD sa.toNatClampNeg 0)))])) rfl (by rw [hml]; rfl) (argsL := [(.int sa), (.int sa), (.int sb), (.int sc), (.int p0), (.int p1), (.int p2)]) (rest := [(.long (own_rd wq5 bq5 (yq5.getD sa.toNatClampNeg 0)))]) (lenOf pd_12 rfl) rfl (by show 2 * 0 + _ ≤ _; exact Nat.le_of_eq rfl) (hb hby at_100) (fun _ _ => ⟨rfl, eh8, (by decide : 17 + 0 ≤ _), (by decide : 135 + 0 ≤ _)⟩)
  dsimp only [Pt.U, Pt.locs, Pt.cells, Pt.slots] at X9 l9 y9 z9 st9 hQ9
  subst y9 z9
  obtain ⟨rfl, N9q, eh9⟩ := hQ9
  have N9 : Fr n0 L9 := by rw [l9]; exact Fr.app N8 N9q
  clear l9
  obtain ⟨_, _, ⟨T10, L10, k10, n10⟩, -, X10, ⟨Lc10, hQ10, l10, y10, z10⟩, st10⟩ := Jvm.LawKit.callS X9 hx (y := (⟨"com/example/wadjet/wadjet/storage/IntegerChunkIntegerPinLaw", "expected", "(IIIIIII)J"⟩ : MethodName)) hown (mvT hZ (hw _ (List.mem_of_getElem? (i := 43) rfl))) (mvT hZ (hw _ (List.mem_of_getElem? (i := 44) rfl))) (mvT hZ (hw _ (List.mem_of_getElem? (i := 45) rfl))) (mvT hZ (hw _ (List.mem_of_getElem? (i := 46) rfl))) (by decide) (backOf (W := 2) (rm8 l Z A0 hw [] sb sa sb sc p0 p1 p2  T5.heap n0 hsz5 ) hZ (hw _ (List.mem_of_getElem? (i := 46) rfl)) (hw _ (List.mem_of_getElem? (i := 45) rfl)) (by decide) (by decide)) (g := (mkF m 120 #[.val (.int p0), .val (.int p1), .val (.int p2), .val (.int p3), .val (.int sa), .val (.int sb), .val (.int sc), .val (.ref ck), .val (.long (own_rd wq5 bq5 (yq5.getD sa.toNatClampNeg 0))), .second, .val (.long (own_rd wq5 bq5 (yq5.getD sb.toNatClampNeg 0))), .second, .val (.long (own_rd wq5 bq5 (yq5.getD sc.toNatClampNeg 0))), .second] [(.int p2), (.int p1), (.int p0), (.int sc), (.int sb), (.int sa), (.int sb), (.long (own_rd wq5 bq5 (yq5.getD sb.toNatClampNeg 0)))])) rfl (by rw [hml]; rfl) (argsL := [(.int sb), (.int sa), (.int sb), (.int sc), (.int p0), (.int p1), (.int p2)]) (rest := [(.long (own_rd wq5 bq5 (yq5.getD sb.toNatClampNeg 0)))]) (lenOf pd_12 rfl) rfl (by show 2 * 0 + _ ≤ _; exact Nat.le_of_eq rfl) (hb hby at_120) (fun _ _ => ⟨rfl, eh9, (by decide : 17 + 0 ≤ _), (by decide : 135 + 0 ≤ _)⟩)
  dsimp only [Pt.U, Pt.locs, Pt.cells, Pt.slots] at X10 l10 y10 z10 st10 hQ10
  subst y10 z10
  obtain ⟨rfl, N10q, eh10⟩ := hQ10
  have N10 : Fr n0 L10 := by rw [l10]; exact Fr.app N9 N10q
  clear l10
  obtain ⟨_, _, ⟨T11, L11, k11, n11⟩, -, X11, ⟨Lc11, hQ11, l11, y11, z11⟩, st11⟩ := Jvm.LawKit.callS X10 hx (y := (⟨"com/example/wadjet/wadjet/storage/IntegerChunkIntegerPinLaw", "expected", "(IIIIIII)J"⟩ : MethodName)) hown (mvT hZ (hw _ (List.mem_of_getElem? (i := 43) rfl))) (mvT hZ (hw _ (List.mem_of_getElem? (i := 44) rfl))) (mvT hZ (hw _ (List.mem_of_getElem? (i := 45) rfl))) (mvT hZ (hw _ (List.mem_of_getElem? (i := 46) rfl))) (by decide) (backOf (W := 2) (rm8 l Z A0 hw [] sc sa sb sc p0 p1 p2  T5.heap n0 hsz5 ) hZ (hw _ (List.mem_of_getElem? (i := 46) rfl)) (hw _ (List.mem_of_getElem? (i := 45) rfl)) (by decide) (by decide)) (g := (mkF m 140 #[.val (.int p0), .val (.int p1), .val (.int p2), .val (.int p3), .val (.int sa), .val (.int sb), .val (.int sc), .val (.ref ck), .val (.long (own_rd wq5 bq5 (yq5.getD sa.toNatClampNeg 0))), .second, .val (.long (own_rd wq5 bq5 (yq5.getD sb.toNatClampNeg 0))), .second, .val (.long (own_rd wq5 bq5 (yq5.getD sc.toNatClampNeg 0))), .second] [(.int p2), (.int p1), (.int p0), (.int sc), (.int sb), (.int sa), (.int sc), (.long (own_rd wq5 bq5 (yq5.getD sc.toNatClampNeg 0)))])) rfl (by rw [hml]; rfl) (argsL := [(.int sc), (.int sa), (.int sb), (.int sc), (.int p0), (.int p1), (.int p2)]) (rest := [(.long (own_rd wq5 bq5 (yq5.getD sc.toNatClampNeg 0)))]) (lenOf pd_12 rfl) rfl (by show 2 * 0 + _ ≤ _; exact Nat.le_of_eq rfl) (hb hby at_140) (fun _ _ => ⟨rfl, eh10, (by decide : 17 + 0 ≤ _), (by decide : 135 + 0 ≤ _)⟩)
  dsimp only [Pt.U, Pt.locs, Pt.cells, Pt.slots] at X11 l11 y11 z11 st11 hQ11
  subst y11 z11
  obtain ⟨rfl, N11q, eh11⟩ := hQ11
  have N11 : Fr n0 L11 := by rw [l11]; exact Fr.app N10 N11q
  clear l11
  obtain ⟨fs, hr, hrun, hended, hW, hsame⟩ := X11.leave (v := some (.int (1 : Int32))) (fun h => by rw [Bd.returns] at h; cases h)
  refine ⟨_, _, pre0 _ ?_, hrun, hended, _, _, rfl, ?_, ⟨_, rfl⟩, hW, hsame.mono (by decide) (by decide)⟩
  · show Steps p.tables e below (s₁.setTop (mkF m 0 #[.val (.int p0), .val (.int p1), .val (.int p2), .val (.int p3), .unset, .unset, .unset, .unset, .unset, .unset, .unset, .unset, .unset, .unset] [])) _
    refine XS.iloadN X0.here hx rfl (hb hby at_0) rfl ?_
    refine XS.bipush X0.here hx rfl (hb hby at_1) ?_
    refine XS.iand X0.here hx rfl (hb hby at_3) rfl ?_
    show Steps p.tables e below (s₁.setTop (mkF m 4 #[.val (.int p0), .val (.int p1), .val (.int p2), .val (.int p3), .unset, .unset, .unset, .unset, .unset, .unset, .unset, .unset, .unset, .unset] [(.int (p3 &&& (7 : Int32)))])) _
    rw [← h_sa]
    show Steps p.tables e below (s₁.setTop (mkF m 4 #[.val (.int p0), .val (.int p1), .val (.int p2), .val (.int p3), .unset, .unset, .unset, .unset, .unset, .unset, .unset, .unset, .unset, .unset] [(.int sa)])) _
    refine XS.istore X0.here hx rfl (hb hby at_4) rfl (l' := #[.val (.int p0), .val (.int p1), .val (.int p2), .val (.int p3), .val (.int sa), .unset, .unset, .unset, .unset, .unset, .unset, .unset, .unset, .unset]) rfl ?_
    refine XS.iloadN X0.here hx rfl (hb hby at_6) rfl ?_
    refine XS.iconst X0.here hx rfl (hb hby at_7) ?_
    show Steps p.tables e below (s₁.setTop (mkF m 8 #[.val (.int p0), .val (.int p1), .val (.int p2), .val (.int p3), .val (.int sa), .unset, .unset, .unset, .unset, .unset, .unset, .unset, .unset, .unset] [(.int (3 : Int32)), (.int p3)])) _
    refine XS.iushr X0.here hx rfl (hb hby at_8) rfl ?_
    refine XS.bipush X0.here hx rfl (hb hby at_9) ?_
    refine XS.iand X0.here hx rfl (hb hby at_11) rfl ?_
    show Steps p.tables e below (s₁.setTop (mkF m 12 #[.val (.int p0), .val (.int p1), .val (.int p2), .val (.int p3), .val (.int sa), .unset, .unset, .unset, .unset, .unset, .unset, .unset, .unset, .unset] [(.int (((p3.toUInt32 >>> ((3 : Int32) &&& 31).toUInt32).toInt32) &&& (7 : Int32)))])) _
    rw [← h_sb]
    show Steps p.tables e below (s₁.setTop (mkF m 12 #[.val (.int p0), .val (.int p1), .val (.int p2), .val (.int p3), .val (.int sa), .unset, .unset, .unset, .unset, .unset, .unset, .unset, .unset, .unset] [(.int sb)])) _
    refine XS.istore X0.here hx rfl (hb hby at_12) rfl (l' := #[.val (.int p0), .val (.int p1), .val (.int p2), .val (.int p3), .val (.int sa), .val (.int sb), .unset, .unset, .unset, .unset, .unset, .unset, .unset, .unset]) rfl ?_
    refine XS.iloadN X0.here hx rfl (hb hby at_14) rfl ?_
    refine XS.bipush X0.here hx rfl (hb hby at_15) ?_
    refine XS.iushr X0.here hx rfl (hb hby at_17) rfl ?_
    show Steps p.tables e below (s₁.setTop (mkF m 18 #[.val (.int p0), .val (.int p1), .val (.int p2), .val (.int p3), .val (.int sa), .val (.int sb), .unset, .unset, .unset, .unset, .unset, .unset, .unset, .unset] [(.int ((p3.toUInt32 >>> ((6 : Int32) &&& 31).toUInt32).toInt32))])) _
    refine XS.bipush X0.here hx rfl (hb hby at_18) ?_
    refine XS.iand X0.here hx rfl (hb hby at_20) rfl ?_
    show Steps p.tables e below (s₁.setTop (mkF m 21 #[.val (.int p0), .val (.int p1), .val (.int p2), .val (.int p3), .val (.int sa), .val (.int sb), .unset, .unset, .unset, .unset, .unset, .unset, .unset, .unset] [(.int (((p3.toUInt32 >>> ((6 : Int32) &&& 31).toUInt32).toInt32) &&& (7 : Int32)))])) _
    rw [← h_sc]
    show Steps p.tables e below (s₁.setTop (mkF m 21 #[.val (.int p0), .val (.int p1), .val (.int p2), .val (.int p3), .val (.int sa), .val (.int sb), .unset, .unset, .unset, .unset, .unset, .unset, .unset, .unset] [(.int sc)])) _
    refine XS.istore X0.here hx rfl (hb hby at_21) rfl (l' := #[.val (.int p0), .val (.int p1), .val (.int p2), .val (.int p3), .val (.int sa), .val (.int sb), .val (.int sc), .unset, .unset, .unset, .unset, .unset, .unset, .unset]) rfl ?_
    show Steps p.tables e below (s₁.setTop (mkF m 23 #[.val (.int p0), .val (.int p1), .val (.int p2), .val (.int p3), .val (.int sa), .val (.int sb), .val (.int sc), .unset, .unset, .unset, .unset, .unset, .unset, .unset] [])) _
    refine st1 _ ?_
    show Steps p.tables e below (T1.setTop (mkF m 26 #[.val (.int p0), .val (.int p1), .val (.int p2), .val (.int p3), .val (.int sa), .val (.int sb), .val (.int sc), .unset, .unset, .unset, .unset, .unset, .unset, .unset] [(.ref ck)])) _
    refine XS.dup X1.here hx rfl (hb hby at_26) rfl rfl ?_
    refine XS.iconst X1.here hx rfl (hb hby at_27) ?_
    refine st2.trans ?_
    show Steps p.tables e below (T2.setTop (mkF m 31 #[.val (.int p0), .val (.int p1), .val (.int p2), .val (.int p3), .val (.int sa), .val (.int sb), .val (.int sc), .unset, .unset, .unset, .unset, .unset, .unset, .unset] [(.ref ck)])) _
    refine XS.astore X2.here hx rfl (hb hby at_31) rfl rfl (l' := #[.val (.int p0), .val (.int p1), .val (.int p2), .val (.int p3), .val (.int sa), .val (.int sb), .val (.int sc), .val (.ref ck), .unset, .unset, .unset, .unset, .unset, .unset]) rfl ?_
    refine XS.aload X2.here hx rfl (hb hby at_33) rfl rfl ?_
    refine XS.iload X2.here hx rfl (hb hby at_35) rfl ?_
    refine XS.iloadN X2.here hx rfl (hb hby at_37) rfl ?_
    show Steps p.tables e below (T2.setTop (mkF m 38 #[.val (.int p0), .val (.int p1), .val (.int p2), .val (.int p3), .val (.int sa), .val (.int sb), .val (.int sc), .val (.ref ck), .unset, .unset, .unset, .unset, .unset, .unset] [(.int p0), (.int sa), (.ref ck)])) _
    refine XS.i2l X2.here hx rfl (hb hby at_38) rfl ?_
    refine st3.trans ?_
    show Steps p.tables e below (T3.setTop (mkF m 42 #[.val (.int p0), .val (.int p1), .val (.int p2), .val (.int p3), .val (.int sa), .val (.int sb), .val (.int sc), .val (.ref ck), .unset, .unset, .unset, .unset, .unset, .unset] [])) _
    refine XS.aload X3.here hx rfl (hb hby at_42) rfl rfl ?_
    refine XS.iload X3.here hx rfl (hb hby at_44) rfl ?_
    show Steps p.tables e below (T3.setTop (mkF m 46 #[.val (.int p0), .val (.int p1), .val (.int p2), .val (.int p3), .val (.int sa), .val (.int sb), .val (.int sc), .val (.ref ck), .unset, .unset, .unset, .unset, .unset, .unset] [(.int sb), (.ref ck)])) _
    refine XS.iloadN X3.here hx rfl (hb hby at_46) rfl ?_
    refine XS.i2l X3.here hx rfl (hb hby at_47) rfl ?_
    refine st4.trans ?_
    show Steps p.tables e below (T4.setTop (mkF m 51 #[.val (.int p0), .val (.int p1), .val (.int p2), .val (.int p3), .val (.int sa), .val (.int sb), .val (.int sc), .val (.ref ck), .unset, .unset, .unset, .unset, .unset, .unset] [])) _
    refine XS.aload X4.here hx rfl (hb hby at_51) rfl rfl ?_
    show Steps p.tables e below (T4.setTop (mkF m 53 #[.val (.int p0), .val (.int p1), .val (.int p2), .val (.int p3), .val (.int sa), .val (.int sb), .val (.int sc), .val (.ref ck), .unset, .unset, .unset, .unset, .unset, .unset] [(.ref ck)])) _
    refine XS.iload X4.here hx rfl (hb hby at_53) rfl ?_
    refine XS.iloadN X4.here hx rfl (hb hby at_55) rfl ?_
    refine XS.i2l X4.here hx rfl (hb hby at_56) rfl ?_
    refine st5.trans ?_
    show Steps p.tables e below (T5.setTop (mkF m 60 #[.val (.int p0), .val (.int p1), .val (.int p2), .val (.int p3), .val (.int sa), .val (.int sb), .val (.int sc), .val (.ref ck), .unset, .unset, .unset, .unset, .unset, .unset] [])) _
    refine XS.aload X5.here hx rfl (hb hby at_60) rfl rfl ?_
    refine XS.iload X5.here hx rfl (hb hby at_62) rfl ?_
    refine st6.trans ?_
    show Steps p.tables e below (T6.setTop (mkF m 67 #[.val (.int p0), .val (.int p1), .val (.int p2), .val (.int p3), .val (.int sa), .val (.int sb), .val (.int sc), .val (.ref ck), .unset, .unset, .unset, .unset, .unset, .unset] [(.long (own_rd wq5 bq5 (yq5.getD sa.toNatClampNeg 0)))])) _
    refine XS.lstore X6.here hx rfl (hb hby at_67) rfl (l' := #[.val (.int p0), .val (.int p1), .val (.int p2), .val (.int p3), .val (.int sa), .val (.int sb), .val (.int sc), .val (.ref ck), .val (.long (own_rd wq5 bq5 (yq5.getD sa.toNatClampNeg 0))), .second, .unset, .unset, .unset, .unset]) rfl ?_
    show Steps p.tables e below (T6.setTop (mkF m 69 #[.val (.int p0), .val (.int p1), .val (.int p2), .val (.int p3), .val (.int sa), .val (.int sb), .val (.int sc), .val (.ref ck), .val (.long (own_rd wq5 bq5 (yq5.getD sa.toNatClampNeg 0))), .second, .unset, .unset, .unset, .unset] [])) _
    refine XS.aload X6.here hx rfl (hb hby at_69) rfl rfl ?_
    refine XS.iload X6.here hx rfl (hb hby at_71) rfl ?_
    refine st7.trans ?_
    show Steps p.tables e below (T7.setTop (mkF m 76 #[.val (.int p0), .val (.int p1), .val (.int p2), .val (.int p3), .val (.int sa), .val (.int sb), .val (.int sc), .val (.ref ck), .val (.long (own_rd wq5 bq5 (yq5.getD sa.toNatClampNeg 0))), .second, .unset, .unset, .unset, .unset] [(.long (own_rd wq5 bq5 (yq5.getD sb.toNatClampNeg 0)))])) _
    refine XS.lstore X7.here hx rfl (hb hby at_76) rfl (l' := #[.val (.int p0), .val (.int p1), .val (.int p2), .val (.int p3), .val (.int sa), .val (.int sb), .val (.int sc), .val (.ref ck), .val (.long (own_rd wq5 bq5 (yq5.getD sa.toNatClampNeg 0))), .second, .val (.long (own_rd wq5 bq5 (yq5.getD sb.toNatClampNeg 0))), .second, .unset, .unset]) rfl ?_
    show Steps p.tables e below (T7.setTop (mkF m 78 #[.val (.int p0), .val (.int p1), .val (.int p2), .val (.int p3), .val (.int sa), .val (.int sb), .val (.int sc), .val (.ref ck), .val (.long (own_rd wq5 bq5 (yq5.getD sa.toNatClampNeg 0))), .second, .val (.long (own_rd wq5 bq5 (yq5.getD sb.toNatClampNeg 0))), .second, .unset, .unset] [])) _
    refine XS.aload X7.here hx rfl (hb hby at_78) rfl rfl ?_
    refine XS.iload X7.here hx rfl (hb hby at_80) rfl ?_
    refine st8.trans ?_
    show Steps p.tables e below (T8.setTop (mkF m 85 #[.val (.int p0), .val (.int p1), .val (.int p2), .val (.int p3), .val (.int sa), .val (.int sb), .val (.int sc), .val (.ref ck), .val (.long (own_rd wq5 bq5 (yq5.getD sa.toNatClampNeg 0))), .second, .val (.long (own_rd wq5 bq5 (yq5.getD sb.toNatClampNeg 0))), .second, .unset, .unset] [(.long (own_rd wq5 bq5 (yq5.getD sc.toNatClampNeg 0)))])) _
    refine XS.lstore X8.here hx rfl (hb hby at_85) rfl (l' := #[.val (.int p0), .val (.int p1), .val (.int p2), .val (.int p3), .val (.int sa), .val (.int sb), .val (.int sc), .val (.ref ck), .val (.long (own_rd wq5 bq5 (yq5.getD sa.toNatClampNeg 0))), .second, .val (.long (own_rd wq5 bq5 (yq5.getD sb.toNatClampNeg 0))), .second, .val (.long (own_rd wq5 bq5 (yq5.getD sc.toNatClampNeg 0))), .second]) rfl ?_
    show Steps p.tables e below (T8.setTop (mkF m 87 #[.val (.int p0), .val (.int p1), .val (.int p2), .val (.int p3), .val (.int sa), .val (.int sb), .val (.int sc), .val (.ref ck), .val (.long (own_rd wq5 bq5 (yq5.getD sa.toNatClampNeg 0))), .second, .val (.long (own_rd wq5 bq5 (yq5.getD sb.toNatClampNeg 0))), .second, .val (.long (own_rd wq5 bq5 (yq5.getD sc.toNatClampNeg 0))), .second] [])) _
    refine XS.lload X8.here hx rfl (hb hby at_87) rfl ?_
    refine XS.iload X8.here hx rfl (hb hby at_89) rfl ?_
    refine XS.iload X8.here hx rfl (hb hby at_91) rfl ?_
    refine XS.iload X8.here hx rfl (hb hby at_93) rfl ?_
    show Steps p.tables e below (T8.setTop (mkF m 95 #[.val (.int p0), .val (.int p1), .val (.int p2), .val (.int p3), .val (.int sa), .val (.int sb), .val (.int sc), .val (.ref ck), .val (.long (own_rd wq5 bq5 (yq5.getD sa.toNatClampNeg 0))), .second, .val (.long (own_rd wq5 bq5 (yq5.getD sb.toNatClampNeg 0))), .second, .val (.long (own_rd wq5 bq5 (yq5.getD sc.toNatClampNeg 0))), .second] [(.int sb), (.int sa), (.int sa), (.long (own_rd wq5 bq5 (yq5.getD sa.toNatClampNeg 0)))])) _
    refine XS.iload X8.here hx rfl (hb hby at_95) rfl ?_
    refine XS.iloadN X8.here hx rfl (hb hby at_97) rfl ?_
    refine XS.iloadN X8.here hx rfl (hb hby at_98) rfl ?_
    refine XS.iloadN X8.here hx rfl (hb hby at_99) rfl ?_
    show Steps p.tables e below (T8.setTop (mkF m 100 #[.val (.int p0), .val (.int p1), .val (.int p2), .val (.int p3), .val (.int sa), .val (.int sb), .val (.int sc), .val (.ref ck), .val (.long (own_rd wq5 bq5 (yq5.getD sa.toNatClampNeg 0))), .second, .val (.long (own_rd wq5 bq5 (yq5.getD sb.toNatClampNeg 0))), .second, .val (.long (own_rd wq5 bq5 (yq5.getD sc.toNatClampNeg 0))), .second] [(.int p2), (.int p1), (.int p0), (.int sc), (.int sb), (.int sa), (.int sa), (.long (own_rd wq5 bq5 (yq5.getD sa.toNatClampNeg 0)))])) _
    refine st9 _ ?_
    show Steps p.tables e below (T9.setTop (mkF m 103 #[.val (.int p0), .val (.int p1), .val (.int p2), .val (.int p3), .val (.int sa), .val (.int sb), .val (.int sc), .val (.ref ck), .val (.long (own_rd wq5 bq5 (yq5.getD sa.toNatClampNeg 0))), .second, .val (.long (own_rd wq5 bq5 (yq5.getD sb.toNatClampNeg 0))), .second, .val (.long (own_rd wq5 bq5 (yq5.getD sc.toNatClampNeg 0))), .second] [(.long (own_exp sa sa sb sc p0 p1 p2)), (.long (own_rd wq5 bq5 (yq5.getD sa.toNatClampNeg 0)))])) _
    refine XS.lcmp X9.here hx rfl (hb hby at_103) rfl ?_
    refine XS.ifNo X9.here hx rfl (hb hby at_104) rfl ((if0 _ _).trans (teq ((lw_eq _ _).mpr (FA.1 : (own_rd wq5 bq5 (yq5.getD sa.toNatClampNeg 0)) = (own_exp sa sa sb sc p0 p1 p2)))).2) ?_
    refine XS.lload X9.here hx rfl (hb hby at_107) rfl ?_
    show Steps p.tables e below (T9.setTop (mkF m 109 #[.val (.int p0), .val (.int p1), .val (.int p2), .val (.int p3), .val (.int sa), .val (.int sb), .val (.int sc), .val (.ref ck), .val (.long (own_rd wq5 bq5 (yq5.getD sa.toNatClampNeg 0))), .second, .val (.long (own_rd wq5 bq5 (yq5.getD sb.toNatClampNeg 0))), .second, .val (.long (own_rd wq5 bq5 (yq5.getD sc.toNatClampNeg 0))), .second] [(.long (own_rd wq5 bq5 (yq5.getD sb.toNatClampNeg 0)))])) _
    refine XS.iload X9.here hx rfl (hb hby at_109) rfl ?_
    refine XS.iload X9.here hx rfl (hb hby at_111) rfl ?_
    refine XS.iload X9.here hx rfl (hb hby at_113) rfl ?_
    refine XS.iload X9.here hx rfl (hb hby at_115) rfl ?_
    show Steps p.tables e below (T9.setTop (mkF m 117 #[.val (.int p0), .val (.int p1), .val (.int p2), .val (.int p3), .val (.int sa), .val (.int sb), .val (.int sc), .val (.ref ck), .val (.long (own_rd wq5 bq5 (yq5.getD sa.toNatClampNeg 0))), .second, .val (.long (own_rd wq5 bq5 (yq5.getD sb.toNatClampNeg 0))), .second, .val (.long (own_rd wq5 bq5 (yq5.getD sc.toNatClampNeg 0))), .second] [(.int sc), (.int sb), (.int sa), (.int sb), (.long (own_rd wq5 bq5 (yq5.getD sb.toNatClampNeg 0)))])) _
    refine XS.iloadN X9.here hx rfl (hb hby at_117) rfl ?_
    refine XS.iloadN X9.here hx rfl (hb hby at_118) rfl ?_
    refine XS.iloadN X9.here hx rfl (hb hby at_119) rfl ?_
    refine st10 _ ?_
    show Steps p.tables e below (T10.setTop (mkF m 123 #[.val (.int p0), .val (.int p1), .val (.int p2), .val (.int p3), .val (.int sa), .val (.int sb), .val (.int sc), .val (.ref ck), .val (.long (own_rd wq5 bq5 (yq5.getD sa.toNatClampNeg 0))), .second, .val (.long (own_rd wq5 bq5 (yq5.getD sb.toNatClampNeg 0))), .second, .val (.long (own_rd wq5 bq5 (yq5.getD sc.toNatClampNeg 0))), .second] [(.long (own_exp sb sa sb sc p0 p1 p2)), (.long (own_rd wq5 bq5 (yq5.getD sb.toNatClampNeg 0)))])) _
    refine XS.lcmp X10.here hx rfl (hb hby at_123) rfl ?_
    refine XS.ifNo X10.here hx rfl (hb hby at_124) rfl ((if0 _ _).trans (teq ((lw_eq _ _).mpr (FA.2.1 : (own_rd wq5 bq5 (yq5.getD sb.toNatClampNeg 0)) = (own_exp sb sa sb sc p0 p1 p2)))).2) ?_
    refine XS.lload X10.here hx rfl (hb hby at_127) rfl ?_
    refine XS.iload X10.here hx rfl (hb hby at_129) rfl ?_
    show Steps p.tables e below (T10.setTop (mkF m 131 #[.val (.int p0), .val (.int p1), .val (.int p2), .val (.int p3), .val (.int sa), .val (.int sb), .val (.int sc), .val (.ref ck), .val (.long (own_rd wq5 bq5 (yq5.getD sa.toNatClampNeg 0))), .second, .val (.long (own_rd wq5 bq5 (yq5.getD sb.toNatClampNeg 0))), .second, .val (.long (own_rd wq5 bq5 (yq5.getD sc.toNatClampNeg 0))), .second] [(.int sc), (.long (own_rd wq5 bq5 (yq5.getD sc.toNatClampNeg 0)))])) _
    refine XS.iload X10.here hx rfl (hb hby at_131) rfl ?_
    refine XS.iload X10.here hx rfl (hb hby at_133) rfl ?_
    refine XS.iload X10.here hx rfl (hb hby at_135) rfl ?_
    refine XS.iloadN X10.here hx rfl (hb hby at_137) rfl ?_
    show Steps p.tables e below (T10.setTop (mkF m 138 #[.val (.int p0), .val (.int p1), .val (.int p2), .val (.int p3), .val (.int sa), .val (.int sb), .val (.int sc), .val (.ref ck), .val (.long (own_rd wq5 bq5 (yq5.getD sa.toNatClampNeg 0))), .second, .val (.long (own_rd wq5 bq5 (yq5.getD sb.toNatClampNeg 0))), .second, .val (.long (own_rd wq5 bq5 (yq5.getD sc.toNatClampNeg 0))), .second] [(.int p0), (.int sc), (.int sb), (.int sa), (.int sc), (.long (own_rd wq5 bq5 (yq5.getD sc.toNatClampNeg 0)))])) _
    refine XS.iloadN X10.here hx rfl (hb hby at_138) rfl ?_
    refine XS.iloadN X10.here hx rfl (hb hby at_139) rfl ?_
    refine st11 _ ?_
    show Steps p.tables e below (T11.setTop (mkF m 143 #[.val (.int p0), .val (.int p1), .val (.int p2), .val (.int p3), .val (.int sa), .val (.int sb), .val (.int sc), .val (.ref ck), .val (.long (own_rd wq5 bq5 (yq5.getD sa.toNatClampNeg 0))), .second, .val (.long (own_rd wq5 bq5 (yq5.getD sb.toNatClampNeg 0))), .second, .val (.long (own_rd wq5 bq5 (yq5.getD sc.toNatClampNeg 0))), .second] [(.long (own_exp sc sa sb sc p0 p1 p2)), (.long (own_rd wq5 bq5 (yq5.getD sc.toNatClampNeg 0)))])) _
    refine XS.lcmp X11.here hx rfl (hb hby at_143) rfl ?_
    show Steps p.tables e below (T11.setTop (mkF m 144 #[.val (.int p0), .val (.int p1), .val (.int p2), .val (.int p3), .val (.int sa), .val (.int sb), .val (.int sc), .val (.ref ck), .val (.long (own_rd wq5 bq5 (yq5.getD sa.toNatClampNeg 0))), .second, .val (.long (own_rd wq5 bq5 (yq5.getD sb.toNatClampNeg 0))), .second, .val (.long (own_rd wq5 bq5 (yq5.getD sc.toNatClampNeg 0))), .second] [(.int (lcmpW (own_rd wq5 bq5 (yq5.getD sc.toNatClampNeg 0)) (own_exp sc sa sb sc p0 p1 p2)))])) _
    refine XS.ifNo X11.here hx rfl (hb hby at_144) rfl ((if0 _ _).trans (teq ((lw_eq _ _).mpr (FA.2.2 : (own_rd wq5 bq5 (yq5.getD sc.toNatClampNeg 0)) = (own_exp sc sa sb sc p0 p1 p2)))).2) ?_
    refine XS.iconst X11.here hx rfl (hb hby at_147) ?_
    refine XS.goto X11.here hx rfl (pc0 := 148) (pc' := 152) rfl (hb hby at_148) (by decide) (by decide) ?_
    show Steps p.tables e below (T11.setTop (mkF m 152 #[.val (.int p0), .val (.int p1), .val (.int p2), .val (.int p3), .val (.int sa), .val (.int sb), .val (.int sc), .val (.ref ck), .val (.long (own_rd wq5 bq5 (yq5.getD sa.toNatClampNeg 0))), .second, .val (.long (own_rd wq5 bq5 (yq5.getD sb.toNatClampNeg 0))), .second, .val (.long (own_rd wq5 bq5 (yq5.getD sc.toNatClampNeg 0))), .second] [(.int (1 : Int32))])) _
    exact retN X11 hx (t := .boolean) Bd.returns (by simp) (hb hby at_152) hr
  · show Qrm0 Z p0 p1 p2 p3 h0 n0 _ T11.heap _
    rw [eh11]
    exact ⟨rfl, N11⟩
set_option maxRecDepth 65536 in
set_option maxHeartbeats 40000000 in
theorem comes_1 {Post : Tables → Env → Array Value → State → Outcome → State → Prop} (hpost : ∀ tb e args s v u, (limb_1_1.after args s (.returned v) u = true ∧ limb_1_2.after args s (.returned v) u = true ∧ True) → FrameEnd s (.returned v) u (Jvm.fieldLocs frame_1_writes args s ++ Jvm.arrayLocs frame_1_arrays args s ++ Jvm.staticLocs frame_1_statics s) 24 192 → Post tb e args s (.returned v) u) :
    ArmFor flags0 classFile x code maxLocals ret World_1 tables_1 room_1 Calls_1 rest_1 Pre_1 Post := by
  intro l hfl _ _ p e ha hc hk s m args below hf hA hF happ hP
  obtain ⟨hcalls, hrest, hpre⟩ := hP
  obtain ⟨-, -, -, hnamed, -, -, -, hat⟩ := (Spec.applies_iff hf).mp happ
  obtain ⟨hg, hn⟩ := and_e (Cond.before_iff.mp (show (Jvm.Cond.and given_1 narrow_1).before args s = true from hpre))
  obtain ⟨g1, g2⟩ := and_e hg
  obtain ⟨g3, g4⟩ := and_e g2
  obtain ⟨g5, g6⟩ := and_e g4
  obtain ⟨g7, g8⟩ := and_e g6
  obtain ⟨w0, w1, w2, w3, rfl⟩ : ∃ w0 w1 w2 w3 : Value, args = #[w0, w1, w2, w3] := by
    have hs : args.size = 4 := by simpa [Cond.value, given_1] using g1
    obtain ⟨L⟩ := args
    match L, hs with
    | [w0, w1, w2, w3], _ => exact ⟨w0, w1, w2, w3, rfl⟩
  have hw := fun d (hd : d ∈ tables_1) => atoms_spec (ws := Jvm.Cond.code x code maxLocals ret :: tables_1) hat d (List.mem_cons_of_mem _ hd)
  obtain ⟨i0, ei0⟩ := is_v g3
  obtain rfl : w0 = (.int i0) := Option.some.inj ei0
  obtain ⟨i1, ei1⟩ := is_v g5
  obtain rfl : w1 = (.int i1) := Option.some.inj ei1
  obtain ⟨i2, ei2⟩ := is_v g7
  obtain rfl : w2 = (.int i2) := Option.some.inj ei2
  obtain ⟨i3, ei3⟩ := is_v g8
  obtain rfl : w3 = (.int i3) := Option.some.inj ei3
  obtain ⟨n, o, h1, h2, h3, _, L, rfl, ⟨rfl, N⟩, hq⟩ := rm0 l s _ hw tables_1 i0 i1 i2 i3  s.heap s.heap.size (Nat.le_refl _) p e ha hc hk s m _ below hf ((Spec.applies_iff_loose hf).mp happ).1 ⟨rfl, State.Warmed39.refl s, rfl⟩ trivial
  refine ⟨n, _, h1, h2, h3, hpost _ _ _ _ _ _ ⟨Cond.after_iff.mpr rfl, Cond.after_iff.mpr (eq_i res_at (Term.int_eval (1)) rfl), trivial⟩ ⟨hq.1, hq.2.1, (hq.2.2.sift fun y hy => Or.inr (N y hy)).mono (by decide) (by decide)⟩⟩
theorem main_1_1 : Claimed_1_1 := comes_1 fun _ _ _ _ _ _ h hF => ⟨h.1, hF⟩
theorem main_1_2 : Claimed_1_2 := comes_1 fun _ _ _ _ _ _ h hF => ⟨h.2.1, hF⟩
end Jvm.Pilot.@@N@@
namespace Jvm.Pilot.@@N@@
open Jvm Jvm.ClassFile Sem Op Lib Jvm.Free Jvm.Stand Jvm.Pilot.@@N@@.Jvm.D
/-! MADE BY PROGRAM (witnessworld.py) out of the Statement's table words and the real class files: 22 classes; the members and pool entries that the words name. The judged class is class 1, her method 2. -/
namespace start1
open Jvm.ClassFile
def u (s : String) : CpInfo := .utf8 (stringToUtf16 s)
/-- a pool by its gaps: so many unusable entries, then the entry; so many at the end -/
def gap : Nat → List CpInfo → List CpInfo
  | 0, r => r
  | n + 1, r => .unusable :: gap n r
def poolList (es : List (Nat × CpInfo)) (last : Nat) : List CpInfo := es.foldr (fun e r => gap e.1 (e.2 :: r)) (gap last [])
def pool (es : List (Nat × CpInfo)) (last : Nat) : Array CpInfo := ⟨poolList es last⟩
def fileOf (pool : Array CpInfo) (this : Nat) (attrs : Array Attribute := #[]) (ms : Array MethodInfo := #[]) (fl : Nat := 33) (sup : Nat := 0) (ifs : Array Nat := #[]) (fds : Array FieldInfo := #[]) : ClassFile where
  minorVersion := 0
  majorVersion := 65
  constantPool := pool
  accessFlags := fl
  thisClass := this
  superClass := sup
  interfaces := ifs
  fields := fds
  methods := ms
  attributes := attrs
def plain (name : String) (sup : Option ClassId) : Class where
  name := name
  kind := .ordinary
  loader := none
  accessFlags := 33
  super := sup
  interfaces := #[]
  cf := none
  fields := #[]
  methods := #[]
  instanceTypes := #[]
  staticTypes := #[]
  resolved := #[]
  callSites := []
  init := .initialized
  statics := none
  mirror := none

def pool0 : Array CpInfo := pool [(5, u "<init>"), (0, u "()V"), (1, .class_ 10), (1, u "java/lang/Object")] 113

def k0c0 : Code := { maxStack := 0, maxLocals := 1, code := object_method_1_code, exceptionTable := #[], attributes := #[] }
def k0m0 : Method := { name := "<init>", desc := "()V", sig := { parameters := [], returnType := none }, accessFlags := 1, code := some k0c0 }
/-- java/lang/Object -/
def k0 : Class := { plain "java/lang/Object" none with
  accessFlags := 33
  interfaces := #[]
  cf := some (fileOf pool0 8 #[] #[{ accessFlags := 1, nameIndex := 5, descriptorIndex := 6, attributes := #[] }] 33 0 #[] #[])
  fields := #[]
  methods := #[k0m0]
  instanceTypes := #[]
  staticTypes := #[]
  resolved := Array.replicate 124 none
  statics := none }

def pool1 : Array CpInfo := pool [(2, .class_ 4), (1, u "java/lang/Object"), (0, u "<init>"), (0, u "()V"), (0, .class_ 8), (0, u "com/example/wadjet/wadjet/storage/IntegerChunk"), (0, .methodref 7 10), (0, .nameAndType 5 11), (0, u "(I)V"), (0, .methodref 7 13), (0, .nameAndType 14 15), (0, u "writeInteger"), (0, u "(IJ)V"), (0, .methodref 7 17), (0, .nameAndType 18 19), (0, u "integer"), (0, u "(I)J"), (0, .methodref 21 22), (0, .class_ 23), (0, .nameAndType 24 25), (0, u "com/example/wadjet/wadjet/storage/IntegerChunkIntegerPinLaw"), (0, u "expected"), (0, u "(IIIIIII)J"), (3, u "law"), (0, u "(IIII)Z")] 2

def k1m0 : Method := { name := "<init>", desc := "()V", sig := { parameters := [], returnType := none }, accessFlags := 2, code := none }
def k1c1 : Code := { maxStack := 2, maxLocals := 9, code := method_2_code, exceptionTable := #[], attributes := #[] }
def k1m1 : Method := { name := "expected", desc := "(IIIIIII)J", sig := { parameters := [.int, .int, .int, .int, .int, .int, .int], returnType := some .long }, accessFlags := 10, code := some k1c1 }
def k1c2 : Code := { maxStack := 9, maxLocals := 14, code := code, exceptionTable := #[], attributes := #[] }
def k1m2 : Method := { name := "law", desc := "(IIII)Z", sig := { parameters := [.int, .int, .int, .int], returnType := some .boolean }, accessFlags := 9, code := some k1c2 }
/-- com/example/wadjet/wadjet/storage/IntegerChunkIntegerPinLaw -/
def k1 : Class := { plain "com/example/wadjet/wadjet/storage/IntegerChunkIntegerPinLaw" (some 0) with
  accessFlags := 49
  interfaces := #[]
  cf := some (fileOf pool1 21 #[] #[{ accessFlags := 2, nameIndex := 5, descriptorIndex := 6, attributes := #[] }, { accessFlags := 10, nameIndex := 24, descriptorIndex := 25, attributes := #[] }, { accessFlags := 9, nameIndex := 29, descriptorIndex := 30, attributes := #[] }] 49 2 #[] #[])
  fields := #[]
  methods := #[k1m0, k1m1, k1m2]
  instanceTypes := #[]
  staticTypes := #[]
  resolved := Array.replicate 33 none
  statics := none }

def pool2 : Array CpInfo := pool [(1, .methodref 2 3), (0, .class_ 4), (0, .nameAndType 5 6), (0, u "java/lang/Object"), (0, u "<init>"), (0, u "()V"), (2, .class_ 10), (0, u "com/example/wadjet/wadjet/storage/ColumnChunk"), (29, .class_ 41), (0, u "java/lang/Integer"), (7, .methodref 40 50), (0, .nameAndType 51 52), (0, u "highestOneBit"), (0, u "(I)I"), (0, .methodref 54 55), (0, .class_ 56), (0, .nameAndType 57 58), (0, u "java/lang/Math"), (0, u "max"), (0, u "(II)I"), (0, .methodref 54 60), (0, .nameAndType 61 58), (0, u "min"), (0, u "FIRST_CAPACITY"), (0, u "I"), (9, u "grownCapacity")] 22

def k2c0 : Code := { maxStack := 1, maxLocals := 1, code := prog_251_method_1_code, exceptionTable := #[], attributes := #[] }
def k2m0 : Method := { name := "<init>", desc := "()V", sig := { parameters := [], returnType := none }, accessFlags := 0, code := some k2c0 }
def k2c1 : Code := { maxStack := 3, maxLocals := 2, code := prog_251_method_4_code, exceptionTable := #[], attributes := #[] }
def k2m1 : Method := { name := "grownCapacity", desc := "(II)I", sig := { parameters := [.int, .int], returnType := some .int }, accessFlags := 8, code := some k2c1 }
/-- com/example/wadjet/wadjet/storage/ColumnChunk -/
def k2 : Class := { plain "com/example/wadjet/wadjet/storage/ColumnChunk" (some 0) with
  accessFlags := 1056
  interfaces := #[]
  cf := some (fileOf pool2 9 #[] #[{ accessFlags := 0, nameIndex := 5, descriptorIndex := 6, attributes := #[] }, { accessFlags := 8, nameIndex := 73, descriptorIndex := 58, attributes := #[] }] 1056 2 #[] #[{ accessFlags := 26, nameIndex := 62, descriptorIndex := 63, attributes := #[] }])
  fields := #[{ name := "FIRST_CAPACITY", type := .int, accessFlags := 26, slot := 0, constantValue := 0 }]
  methods := #[k2m0, k2m1]
  instanceTypes := #[]
  staticTypes := #[.int]
  resolved := Array.replicate 96 none
  statics := none }

def pool3 : Array CpInfo := pool [(1, .methodref 2 3), (0, .class_ 4), (0, .nameAndType 5 6), (0, u "com/example/wadjet/wadjet/storage/ColumnChunk"), (0, u "<init>"), (0, u "()V"), (0, .fieldref 8 9), (0, .class_ 10), (0, .nameAndType 11 12), (0, u "com/example/wadjet/wadjet/storage/IntegerChunk"), (0, u "width"), (0, u "I"), (0, .fieldref 8 14), (0, .nameAndType 15 16), (0, u "narrow"), (0, u "[B"), (4, .methodref 8 22), (0, .nameAndType 23 24), (0, u "integer"), (0, u "(I)J"), (6, .fieldref 8 32), (0, .nameAndType 33 34), (0, u "nulls"), (0, u "[J"), (0, .fieldref 8 36), (0, .nameAndType 37 38), (0, u "base"), (0, u "J"), (0, .fieldref 8 40), (0, .nameAndType 41 42), (0, u "middle"), (0, u "[C"), (0, .fieldref 8 44), (0, .nameAndType 45 46), (0, u "wide"), (0, u "[I"), (8, u "(I)V"), (2, u "writeInteger"), (0, u "(IJ)V"), (0, .methodref 61 62), (0, .class_ 63), (0, .nameAndType 64 65), (0, u "java/lang/Math"), (0, u "toIntExact"), (0, u "(J)I"), (0, .fieldref 8 67), (0, .nameAndType 68 69), (0, u "based"), (0, u "Z"), (0, .methodref 8 71), (0, .nameAndType 72 73), (0, u "capacity"), (0, u "()I"), (0, .methodref 8 75), (0, .nameAndType 76 77), (0, u "grownCapacity"), (0, u "(II)I"), (0, .methodref 8 79), (0, .nameAndType 80 55), (0, u "resize"), (0, .methodref 8 82), (0, .nameAndType 83 59), (0, u "widen"), (0, .long 18446744073709551615), (15, .methodref 101 102), (0, .class_ 103), (0, .nameAndType 104 105), (0, u "java/util/Arrays"), (0, u "copyOf"), (0, u "([BI)[B"), (0, .methodref 101 107), (0, .nameAndType 104 108), (0, u "([CI)[C"), (0, .methodref 101 110), (0, .nameAndType 104 111), (0, u "([II)[I"), (0, .methodref 61 113), (0, .nameAndType 114 115), (0, u "min"), (0, u "(JJ)J"), (0, .methodref 61 117), (0, .nameAndType 118 115), (0, u "max"), (0, .long 256), (1, .long 65536)] 22

def k3c0 : Code := { maxStack := 2, maxLocals := 2, code := prog_257_method_1_code, exceptionTable := #[], attributes := #[] }
def k3m0 : Method := { name := "<init>", desc := "(I)V", sig := { parameters := [.int], returnType := none }, accessFlags := 0, code := some k3c0 }
def k3c1 : Code := { maxStack := 4, maxLocals := 4, code := prog_257_method_5_code, exceptionTable := #[], attributes := #[] }
def k3m1 : Method := { name := "integer", desc := "(I)J", sig := { parameters := [.int], returnType := some .long }, accessFlags := 0, code := some k3c1 }
def k3c2 : Code := { maxStack := 8, maxLocals := 4, code := prog_257_method_8_code, exceptionTable := #[], attributes := #[] }
def k3m2 : Method := { name := "writeInteger", desc := "(IJ)V", sig := { parameters := [.int, .long], returnType := none }, accessFlags := 0, code := some k3c2 }
def k3c3 : Code := { maxStack := 2, maxLocals := 2, code := prog_257_method_13_code, exceptionTable := #[], attributes := #[] }
def k3m3 : Method := { name := "capacity", desc := "()I", sig := { parameters := [], returnType := some .int }, accessFlags := 2, code := some k3c3 }
def k3c4 : Code := { maxStack := 3, maxLocals := 2, code := prog_257_method_14_code, exceptionTable := #[], attributes := #[] }
def k3m4 : Method := { name := "resize", desc := "(I)V", sig := { parameters := [.int], returnType := none }, accessFlags := 2, code := some k3c4 }
def k3c5 : Code := { maxStack := 6, maxLocals := 15, code := prog_257_method_15_code, exceptionTable := #[], attributes := #[] }
def k3m5 : Method := { name := "widen", desc := "(IJ)V", sig := { parameters := [.int, .long], returnType := none }, accessFlags := 2, code := some k3c5 }
/-- com/example/wadjet/wadjet/storage/IntegerChunk -/
def k3 : Class := { plain "com/example/wadjet/wadjet/storage/IntegerChunk" (some 2) with
  accessFlags := 48
  interfaces := #[]
  cf := some (fileOf pool3 8 #[] #[{ accessFlags := 0, nameIndex := 5, descriptorIndex := 55, attributes := #[] }, { accessFlags := 0, nameIndex := 23, descriptorIndex := 24, attributes := #[] }, { accessFlags := 0, nameIndex := 58, descriptorIndex := 59, attributes := #[] }, { accessFlags := 2, nameIndex := 72, descriptorIndex := 73, attributes := #[] }, { accessFlags := 2, nameIndex := 80, descriptorIndex := 55, attributes := #[] }, { accessFlags := 2, nameIndex := 83, descriptorIndex := 59, attributes := #[] }] 48 2 #[] #[{ accessFlags := 2, nameIndex := 11, descriptorIndex := 12, attributes := #[] }, { accessFlags := 2, nameIndex := 37, descriptorIndex := 38, attributes := #[] }, { accessFlags := 2, nameIndex := 68, descriptorIndex := 69, attributes := #[] }, { accessFlags := 2, nameIndex := 15, descriptorIndex := 16, attributes := #[] }, { accessFlags := 2, nameIndex := 41, descriptorIndex := 42, attributes := #[] }, { accessFlags := 2, nameIndex := 45, descriptorIndex := 46, attributes := #[] }, { accessFlags := 2, nameIndex := 33, descriptorIndex := 34, attributes := #[] }])
  fields := #[{ name := "width", type := .int, accessFlags := 2, slot := 0, constantValue := 0 }, { name := "base", type := .long, accessFlags := 2, slot := 1, constantValue := 0 }, { name := "based", type := .boolean, accessFlags := 2, slot := 2, constantValue := 0 }, { name := "narrow", type := (.array .byte), accessFlags := 2, slot := 3, constantValue := 0 }, { name := "middle", type := (.array .char), accessFlags := 2, slot := 4, constantValue := 0 }, { name := "wide", type := (.array .int), accessFlags := 2, slot := 5, constantValue := 0 }, { name := "nulls", type := (.array .long), accessFlags := 2, slot := 6, constantValue := 0 }]
  methods := #[k3m0, k3m1, k3m2, k3m3, k3m4, k3m5]
  instanceTypes := #[.int, .long, .boolean, (.array .byte), (.array .char), (.array .int), (.array .long)]
  staticTypes := #[]
  resolved := Array.replicate 144 none
  statics := none }

def pool4 : Array CpInfo := pool [(1, .class_ 2), (0, u "java/lang/Math"), (1, .class_ 6), (1, u "java/lang/Object"), (0, u "<init>"), (0, u "()V"), (89, .class_ 100), (1, u "java/lang/Math$RandomNumberGeneratorHolder"), (20, u "(JJ)J"), (50, u "negativeZeroFloatBits"), (0, u "J"), (2, u "negativeZeroDoubleBits"), (21, u "max"), (2, u "min"), (43, u "$assertionsDisabled"), (0, u "Z"), (88, u "(II)I"), (2, u "twoToTheDoubleScaleDown"), (0, u "D"), (4, u "twoToTheDoubleScaleUp"), (9, u "E"), (3, u "PI"), (2, u "TAU"), (2, u "DEGREES_TO_RADIANS"), (0, u "RADIANS_TO_DEGREES"), (39, u "toIntExact"), (0, u "(J)I")] 53

def k4m0 : Method := { name := "<init>", desc := "()V", sig := { parameters := [], returnType := none }, accessFlags := 2, code := none }
def k4c1 : Code := { maxStack := 4, maxLocals := 2, code := jdk_29_method_43_code, exceptionTable := #[], attributes := #[] }
def k4m1 : Method := { name := "toIntExact", desc := "(J)I", sig := { parameters := [.long], returnType := some .int }, accessFlags := 9, code := some k4c1 }
def k4c2 : Code := { maxStack := 2, maxLocals := 2, code := jdk_29_method_65_code, exceptionTable := #[], attributes := #[] }
def k4m2 : Method := { name := "max", desc := "(II)I", sig := { parameters := [.int, .int], returnType := some .int }, accessFlags := 9, code := some k4c2 }
def k4c3 : Code := { maxStack := 4, maxLocals := 4, code := jdk_29_method_66_code, exceptionTable := #[], attributes := #[] }
def k4m3 : Method := { name := "max", desc := "(JJ)J", sig := { parameters := [.long, .long], returnType := some .long }, accessFlags := 9, code := some k4c3 }
def k4c4 : Code := { maxStack := 2, maxLocals := 2, code := jdk_29_method_69_code, exceptionTable := #[], attributes := #[] }
def k4m4 : Method := { name := "min", desc := "(II)I", sig := { parameters := [.int, .int], returnType := some .int }, accessFlags := 9, code := some k4c4 }
def k4c5 : Code := { maxStack := 4, maxLocals := 4, code := jdk_29_method_70_code, exceptionTable := #[], attributes := #[] }
def k4m5 : Method := { name := "min", desc := "(JJ)J", sig := { parameters := [.long, .long], returnType := some .long }, accessFlags := 9, code := some k4c5 }
/-- java/lang/Math -/
def k4 : Class := { plain "java/lang/Math" (some 0) with
  accessFlags := 49
  interfaces := #[]
  cf := some (fileOf pool4 1 #[.nestMembers #[98]] #[{ accessFlags := 2, nameIndex := 7, descriptorIndex := 8, attributes := #[] }, { accessFlags := 9, nameIndex := 405, descriptorIndex := 406, attributes := #[] }, { accessFlags := 9, nameIndex := 198, descriptorIndex := 335, attributes := #[] }, { accessFlags := 9, nameIndex := 198, descriptorIndex := 121, attributes := #[] }, { accessFlags := 9, nameIndex := 201, descriptorIndex := 335, attributes := #[] }, { accessFlags := 9, nameIndex := 201, descriptorIndex := 121, attributes := #[] }] 49 4 #[] #[{ accessFlags := 25, nameIndex := 354, descriptorIndex := 339, attributes := #[] }, { accessFlags := 25, nameIndex := 358, descriptorIndex := 339, attributes := #[] }, { accessFlags := 25, nameIndex := 361, descriptorIndex := 339, attributes := #[] }, { accessFlags := 26, nameIndex := 364, descriptorIndex := 339, attributes := #[] }, { accessFlags := 26, nameIndex := 365, descriptorIndex := 339, attributes := #[] }, { accessFlags := 26, nameIndex := 172, descriptorIndex := 173, attributes := #[] }, { accessFlags := 26, nameIndex := 176, descriptorIndex := 173, attributes := #[] }, { accessFlags := 8, nameIndex := 344, descriptorIndex := 339, attributes := #[] }, { accessFlags := 8, nameIndex := 338, descriptorIndex := 339, attributes := #[] }, { accessFlags := 4120, nameIndex := 245, descriptorIndex := 246, attributes := #[] }])
  fields := #[{ name := "E", type := .double, accessFlags := 25, slot := 0, constantValue := 0 }, { name := "PI", type := .double, accessFlags := 25, slot := 1, constantValue := 0 }, { name := "TAU", type := .double, accessFlags := 25, slot := 2, constantValue := 0 }, { name := "DEGREES_TO_RADIANS", type := .double, accessFlags := 26, slot := 3, constantValue := 0 }, { name := "RADIANS_TO_DEGREES", type := .double, accessFlags := 26, slot := 4, constantValue := 0 }, { name := "negativeZeroFloatBits", type := .long, accessFlags := 26, slot := 5, constantValue := 0 }, { name := "negativeZeroDoubleBits", type := .long, accessFlags := 26, slot := 6, constantValue := 0 }, { name := "twoToTheDoubleScaleUp", type := .double, accessFlags := 8, slot := 7, constantValue := 0 }, { name := "twoToTheDoubleScaleDown", type := .double, accessFlags := 8, slot := 8, constantValue := 0 }, { name := "$assertionsDisabled", type := .boolean, accessFlags := 4120, slot := 9, constantValue := 0 }]
  methods := #[k4m0, k4m1, k4m2, k4m3, k4m4, k4m5]
  instanceTypes := #[]
  staticTypes := #[.double, .double, .double, .double, .double, .long, .long, .double, .double, .boolean]
  resolved := Array.replicate 460 none
  statics := none }

def pool5 : Array CpInfo := pool [(1, .class_ 2), (0, u "java/io/Serializable"), (0, .class_ 4), (0, u "java/lang/Object")] 2

/-- java/io/Serializable -/
def k5 : Class := { plain "java/io/Serializable" (some 0) with
  accessFlags := 1537
  interfaces := #[]
  cf := some (fileOf pool5 1 #[] #[] 1537 3 #[] #[])
  fields := #[]
  methods := #[]
  instanceTypes := #[]
  staticTypes := #[]
  resolved := Array.replicate 7 none
  statics := none }

def pool6 : Array CpInfo := pool [(2, .class_ 4), (1, u "java/lang/Object"), (0, u "<init>"), (0, u "()V"), (1, .class_ 10), (1, u "java/lang/Number"), (2, .class_ 14), (0, u "java/io/Serializable"), (0, u "serialVersionUID"), (0, u "J")] 20

def k6m0 : Method := { name := "<init>", desc := "()V", sig := { parameters := [], returnType := none }, accessFlags := 1, code := none }
/-- java/lang/Number -/
def k6 : Class := { plain "java/lang/Number" (some 0) with
  accessFlags := 1057
  interfaces := #[5]
  cf := some (fileOf pool6 8 #[] #[{ accessFlags := 1, nameIndex := 5, descriptorIndex := 6, attributes := #[] }] 1057 2 #[13] #[{ accessFlags := 26, nameIndex := 15, descriptorIndex := 16, attributes := #[] }])
  fields := #[{ name := "serialVersionUID", type := .long, accessFlags := 26, slot := 0, constantValue := 0 }]
  methods := #[k6m0]
  instanceTypes := #[]
  staticTypes := #[.long]
  resolved := Array.replicate 37 none
  statics := none }

def pool7 : Array CpInfo := pool [(1, .class_ 2), (0, u "java/lang/Comparable"), (0, .class_ 4), (0, u "java/lang/Object")] 7

/-- java/lang/Comparable -/
def k7 : Class := { plain "java/lang/Comparable" (some 0) with
  accessFlags := 1537
  interfaces := #[]
  cf := some (fileOf pool7 1 #[] #[] 1537 3 #[] #[])
  fields := #[]
  methods := #[]
  instanceTypes := #[]
  staticTypes := #[]
  resolved := Array.replicate 12 none
  statics := none }

def pool8 : Array CpInfo := pool [(1, .class_ 2), (0, u "java/lang/constant/Constable"), (0, .class_ 4), (0, u "java/lang/Object")] 6

/-- java/lang/constant/Constable -/
def k8 : Class := { plain "java/lang/constant/Constable" (some 0) with
  accessFlags := 1537
  interfaces := #[]
  cf := some (fileOf pool8 1 #[] #[] 1537 3 #[] #[])
  fields := #[]
  methods := #[]
  instanceTypes := #[]
  staticTypes := #[]
  resolved := Array.replicate 11 none
  statics := none }

def pool9 : Array CpInfo := pool [(1, .class_ 2), (0, u "java/lang/constant/ConstantDesc"), (0, .class_ 4), (0, u "java/lang/Object")] 32

/-- java/lang/constant/ConstantDesc -/
def k9 : Class := { plain "java/lang/constant/ConstantDesc" (some 0) with
  accessFlags := 1537
  interfaces := #[]
  cf := some (fileOf pool9 1 #[] #[] 1537 3 #[] #[])
  fields := #[]
  methods := #[]
  instanceTypes := #[]
  staticTypes := #[]
  resolved := Array.replicate 37 none
  statics := none }

def pool10 : Array CpInfo := pool [(1, .class_ 2), (0, u "java/lang/Integer"), (16, u "digits"), (0, u "[C"), (30, .methodref 1 52), (0, .nameAndType 53 54), (0, u "numberOfLeadingZeros"), (0, u "(I)I"), (30, u "DigitOnes"), (0, u "[B"), (2, u "DigitTens"), (37, .integer 2147483648), (61, .class_ 190), (0, u "java/lang/Integer$IntegerCache"), (3, u "I"), (8, .class_ 204), (0, u "java/lang/Number"), (2, u "value"), (56, .integer 65536), (37, u "TYPE"), (0, u "Ljava/lang/Class;"), (0, .class_ 305), (0, u "java/lang/Comparable"), (0, .class_ 307), (0, u "java/lang/constant/Constable"), (0, .class_ 309), (0, u "java/lang/constant/ConstantDesc"), (0, u "MIN_VALUE"), (1, u "MAX_VALUE"), (3, u "SIZE"), (1, u "BYTES"), (1, u "serialVersionUID"), (0, u "J"), (81, u "highestOneBit")] 49

def k10c0 : Code := { maxStack := 3, maxLocals := 1, code := jdk_33_method_45_code, exceptionTable := #[], attributes := #[] }
def k10m0 : Method := { name := "highestOneBit", desc := "(I)I", sig := { parameters := [.int], returnType := some .int }, accessFlags := 9, code := some k10c0 }
def k10c1 : Code := { maxStack := 3, maxLocals := 2, code := jdk_33_method_47_code, exceptionTable := #[], attributes := #[] }
def k10m1 : Method := { name := "numberOfLeadingZeros", desc := "(I)I", sig := { parameters := [.int], returnType := some .int }, accessFlags := 9, code := some k10c1 }
/-- java/lang/Integer -/
def k10 : Class := { plain "java/lang/Integer" (some 6) with
  accessFlags := 49
  interfaces := #[7, 8, 9]
  cf := some (fileOf pool10 1 #[.nestMembers #[189]] #[{ accessFlags := 9, nameIndex := 403, descriptorIndex := 54, attributes := #[] }, { accessFlags := 9, nameIndex := 53, descriptorIndex := 54, attributes := #[] }] 49 203 #[304, 306, 308] #[{ accessFlags := 25, nameIndex := 310, descriptorIndex := 194, attributes := #[] }, { accessFlags := 25, nameIndex := 312, descriptorIndex := 194, attributes := #[] }, { accessFlags := 25, nameIndex := 302, descriptorIndex := 303, attributes := #[] }, { accessFlags := 24, nameIndex := 19, descriptorIndex := 20, attributes := #[] }, { accessFlags := 24, nameIndex := 89, descriptorIndex := 86, attributes := #[] }, { accessFlags := 24, nameIndex := 85, descriptorIndex := 86, attributes := #[] }, { accessFlags := 18, nameIndex := 207, descriptorIndex := 194, attributes := #[] }, { accessFlags := 25, nameIndex := 316, descriptorIndex := 194, attributes := #[] }, { accessFlags := 25, nameIndex := 318, descriptorIndex := 194, attributes := #[] }, { accessFlags := 26, nameIndex := 320, descriptorIndex := 321, attributes := #[] }])
  fields := #[{ name := "MIN_VALUE", type := .int, accessFlags := 25, slot := 0, constantValue := 0 }, { name := "MAX_VALUE", type := .int, accessFlags := 25, slot := 1, constantValue := 0 }, { name := "TYPE", type := (.object "java/lang/Class"), accessFlags := 25, slot := 2, constantValue := 0 }, { name := "digits", type := (.array .char), accessFlags := 24, slot := 3, constantValue := 0 }, { name := "DigitTens", type := (.array .byte), accessFlags := 24, slot := 4, constantValue := 0 }, { name := "DigitOnes", type := (.array .byte), accessFlags := 24, slot := 5, constantValue := 0 }, { name := "value", type := .int, accessFlags := 18, slot := 0, constantValue := 0 }, { name := "SIZE", type := .int, accessFlags := 25, slot := 6, constantValue := 0 }, { name := "BYTES", type := .int, accessFlags := 25, slot := 7, constantValue := 0 }, { name := "serialVersionUID", type := .long, accessFlags := 26, slot := 8, constantValue := 0 }]
  methods := #[k10m0, k10m1]
  instanceTypes := #[.int]
  staticTypes := #[.int, .int, (.object "java/lang/Class"), (.array .char), (.array .byte), (.array .byte), .int, .int, .long]
  resolved := Array.replicate 453 none
  statics := none }

def pool11 : Array CpInfo := pool [(2, .class_ 4), (1, u "java/lang/Object"), (0, u "<init>"), (0, u "()V"), (7, .class_ 16), (1, u "java/util/Arrays"), (57, .class_ 76), (1, u "java/util/Arrays$NaturalOrder"), (36, .class_ 115), (1, u "java/util/Arrays$LegacyMergeSort"), (1, u "Z"), (32, .methodref 151 152), (0, .class_ 153), (0, .nameAndType 154 155), (0, u "java/lang/System"), (0, u "arraycopy"), (0, u "(Ljava/lang/Object;ILjava/lang/Object;II)V"), (146, u "copyOf"), (1, .methodref 305 306), (0, .class_ 307), (0, .nameAndType 308 309), (0, u "java/lang/Math"), (0, u "min"), (0, u "(II)I"), (65, .class_ 376), (0, u "java/util/Arrays$ArrayList"), (68, u "$assertionsDisabled"), (269, u "MIN_ARRAY_SORT_GRAN"), (0, u "I"), (2, u "INSERTIONSORT_THRESHOLD"), (149, u "([BI)[B"), (1, u "([II)[I"), (1, u "([CI)[C"), (101, .class_ 976), (0, u "java/util/Arrays$ArrayItr")] 52

def k11m0 : Method := { name := "<init>", desc := "()V", sig := { parameters := [], returnType := none }, accessFlags := 2, code := none }
def k11c1 : Code := { maxStack := 6, maxLocals := 3, code := jdk_65_method_121_code, exceptionTable := #[], attributes := #[] }
def k11m1 : Method := { name := "copyOf", desc := "([BI)[B", sig := { parameters := [(.array .byte), .int], returnType := some (.array .byte) }, accessFlags := 9, code := some k11c1 }
def k11c2 : Code := { maxStack := 6, maxLocals := 3, code := jdk_65_method_123_code, exceptionTable := #[], attributes := #[] }
def k11m2 : Method := { name := "copyOf", desc := "([II)[I", sig := { parameters := [(.array .int), .int], returnType := some (.array .int) }, accessFlags := 9, code := some k11c2 }
def k11c3 : Code := { maxStack := 6, maxLocals := 3, code := jdk_65_method_125_code, exceptionTable := #[], attributes := #[] }
def k11m3 : Method := { name := "copyOf", desc := "([CI)[C", sig := { parameters := [(.array .char), .int], returnType := some (.array .char) }, accessFlags := 9, code := some k11c3 }
/-- java/util/Arrays -/
def k11 : Class := { plain "java/util/Arrays" (some 0) with
  accessFlags := 49
  interfaces := #[]
  cf := some (fileOf pool11 14 #[.nestMembers #[975, 375, 113, 74]] #[{ accessFlags := 2, nameIndex := 5, descriptorIndex := 6, attributes := #[] }, { accessFlags := 9, nameIndex := 302, descriptorIndex := 869, attributes := #[] }, { accessFlags := 9, nameIndex := 302, descriptorIndex := 871, attributes := #[] }, { accessFlags := 9, nameIndex := 302, descriptorIndex := 873, attributes := #[] }] 49 2 #[] #[{ accessFlags := 26, nameIndex := 715, descriptorIndex := 716, attributes := #[] }, { accessFlags := 26, nameIndex := 719, descriptorIndex := 716, attributes := #[] }, { accessFlags := 4120, nameIndex := 445, descriptorIndex := 117, attributes := #[] }])
  fields := #[{ name := "MIN_ARRAY_SORT_GRAN", type := .int, accessFlags := 26, slot := 0, constantValue := 0 }, { name := "INSERTIONSORT_THRESHOLD", type := .int, accessFlags := 26, slot := 1, constantValue := 0 }, { name := "$assertionsDisabled", type := .boolean, accessFlags := 4120, slot := 2, constantValue := 0 }]
  methods := #[k11m0, k11m1, k11m2, k11m3]
  instanceTypes := #[]
  staticTypes := #[.int, .int, .boolean]
  resolved := Array.replicate 1029 none
  statics := none }

def pool12 : Array CpInfo := pool [(2, .class_ 4), (1, u "java/lang/Object"), (0, u "<init>"), (0, u "()V"), (1, .class_ 10), (1, u "java/lang/System"), (0, u "allowSecurityManager"), (0, u "I"), (16, u "cons"), (0, u "Ljava/io/Console;"), (77, .class_ 110), (1, u "java/lang/System$CallersHolder"), (43, u "initialErrStream"), (0, u "Ljava/io/PrintStream;"), (19, u "security"), (0, u "Ljava/lang/SecurityManager;"), (31, .class_ 209), (0, u "java/lang/System$1"), (7, u "props"), (0, u "Ljava/util/Properties;"), (2, u "lineSeparator"), (0, u "Ljava/lang/String;"), (96, .class_ 321), (1, u "java/lang/System$LoggerFinder"), (5, .class_ 328), (0, u "java/lang/System$Logger"), (67, u "err"), (2, u "out"), (91, u "notSupportedJnuEncoding"), (15, u "in"), (17, u "initialIn"), (0, u "Ljava/io/InputStream;"), (35, u "bootLayer"), (0, u "Ljava/lang/ModuleLayer;"), (99, .class_ 664), (0, u "java/lang/System$2"), (9, u "NEVER"), (2, u "MAYBE"), (49, u "arraycopy"), (0, u "(Ljava/lang/Object;ILjava/lang/Object;II)V"), (72, .class_ 802), (0, u "java/lang/System$Logger$Level")] 31

def k12m0 : Method := { name := "<init>", desc := "()V", sig := { parameters := [], returnType := none }, accessFlags := 2, code := none }
def k12m1 : Method := { name := "arraycopy", desc := "(Ljava/lang/Object;ILjava/lang/Object;II)V", sig := { parameters := [(.object "java/lang/Object"), .int, (.object "java/lang/Object"), .int, .int], returnType := none }, accessFlags := 265, code := none }
/-- java/lang/System -/
def k12 : Class := { plain "java/lang/System" (some 0) with
  accessFlags := 49
  interfaces := #[]
  cf := some (fileOf pool12 8 #[.nestMembers #[319, 327, 801, 108, 663, 208]] #[{ accessFlags := 2, nameIndex := 5, descriptorIndex := 6, attributes := #[] }, { accessFlags := 265, nameIndex := 727, descriptorIndex := 728, attributes := #[] }] 49 2 #[] #[{ accessFlags := 25, nameIndex := 507, descriptorIndex := 526, attributes := #[] }, { accessFlags := 25, nameIndex := 399, descriptorIndex := 155, attributes := #[] }, { accessFlags := 25, nameIndex := 396, descriptorIndex := 155, attributes := #[] }, { accessFlags := 10, nameIndex := 525, descriptorIndex := 526, attributes := #[] }, { accessFlags := 26, nameIndex := 674, descriptorIndex := 12, attributes := #[] }, { accessFlags := 26, nameIndex := 677, descriptorIndex := 12, attributes := #[] }, { accessFlags := 10, nameIndex := 11, descriptorIndex := 12, attributes := #[] }, { accessFlags := 74, nameIndex := 175, descriptorIndex := 176, attributes := #[] }, { accessFlags := 10, nameIndex := 491, descriptorIndex := 222, attributes := #[] }, { accessFlags := 74, nameIndex := 29, descriptorIndex := 30, attributes := #[] }, { accessFlags := 74, nameIndex := 154, descriptorIndex := 155, attributes := #[] }, { accessFlags := 10, nameIndex := 217, descriptorIndex := 218, attributes := #[] }, { accessFlags := 10, nameIndex := 221, descriptorIndex := 222, attributes := #[] }, { accessFlags := 8, nameIndex := 562, descriptorIndex := 563, attributes := #[] }])
  fields := #[{ name := "in", type := (.object "java/io/InputStream"), accessFlags := 25, slot := 0, constantValue := 0 }, { name := "out", type := (.object "java/io/PrintStream"), accessFlags := 25, slot := 1, constantValue := 0 }, { name := "err", type := (.object "java/io/PrintStream"), accessFlags := 25, slot := 2, constantValue := 0 }, { name := "initialIn", type := (.object "java/io/InputStream"), accessFlags := 10, slot := 3, constantValue := 0 }, { name := "NEVER", type := .int, accessFlags := 26, slot := 4, constantValue := 0 }, { name := "MAYBE", type := .int, accessFlags := 26, slot := 5, constantValue := 0 }, { name := "allowSecurityManager", type := .int, accessFlags := 10, slot := 6, constantValue := 0 }, { name := "security", type := (.object "java/lang/SecurityManager"), accessFlags := 74, slot := 7, constantValue := 0 }, { name := "notSupportedJnuEncoding", type := (.object "java/lang/String"), accessFlags := 10, slot := 8, constantValue := 0 }, { name := "cons", type := (.object "java/io/Console"), accessFlags := 74, slot := 9, constantValue := 0 }, { name := "initialErrStream", type := (.object "java/io/PrintStream"), accessFlags := 74, slot := 10, constantValue := 0 }, { name := "props", type := (.object "java/util/Properties"), accessFlags := 10, slot := 11, constantValue := 0 }, { name := "lineSeparator", type := (.object "java/lang/String"), accessFlags := 10, slot := 12, constantValue := 0 }, { name := "bootLayer", type := (.object "java/lang/ModuleLayer"), accessFlags := 8, slot := 13, constantValue := 0 }]
  methods := #[k12m0, k12m1]
  instanceTypes := #[]
  staticTypes := #[(.object "java/io/InputStream"), (.object "java/io/PrintStream"), (.object "java/io/PrintStream"), (.object "java/io/InputStream"), .int, .int, .int, (.object "java/lang/SecurityManager"), (.object "java/lang/String"), (.object "java/io/Console"), (.object "java/io/PrintStream"), (.object "java/util/Properties"), (.object "java/lang/String"), (.object "java/lang/ModuleLayer")]
  resolved := Array.replicate 834 none
  statics := none }

def pool13 : Array CpInfo := pool [(1, u "java/lang/Cloneable"), (0, .class_ 1), (0, u "java/lang/Object"), (0, .class_ 3)] 3

/-- java/lang/Cloneable -/
def k13 : Class := { plain "java/lang/Cloneable" (some 0) with
  accessFlags := 1537
  interfaces := #[]
  cf := some (fileOf pool13 2 #[] #[] 1537 4 #[] #[])
  fields := #[]
  methods := #[]
  instanceTypes := #[]
  staticTypes := #[]
  resolved := Array.replicate 8 none
  statics := none }

/-- the primitive byte -/
def k14 : Class := { plain "byte" none with kind := .primitive 'B', accessFlags := 0x411 }
/-- [B -/
def k15 : Class := { plain "[B" (some 0) with kind := .array 14 .byte, interfaces := #[13, 5], accessFlags := 1041 }

/-- the primitive char -/
def k16 : Class := { plain "char" none with kind := .primitive 'C', accessFlags := 0x411 }
/-- [C -/
def k17 : Class := { plain "[C" (some 0) with kind := .array 16 .char, interfaces := #[13, 5], accessFlags := 1041 }

/-- the primitive int -/
def k18 : Class := { plain "int" none with kind := .primitive 'I', accessFlags := 0x411 }
/-- [I -/
def k19 : Class := { plain "[I" (some 0) with kind := .array 18 .int, interfaces := #[13, 5], accessFlags := 1041 }

/-- the primitive long -/
def k20 : Class := { plain "long" none with kind := .primitive 'J', accessFlags := 0x411 }
/-- [J -/
def k21 : Class := { plain "[J" (some 0) with kind := .array 20 .long, interfaces := #[13, 5], accessFlags := 1041 }

def heap : Heap := #[]
def classes : Array Class := #[k0, k1, k2, k3, k4, k5, k6, k7, k8, k9, k10, k11, k12, k13, k14, k15, k16, k17, k18, k19, k20, k21]
def interned : List (Array UInt16 × Addr) := []
def slotsUsed : Nat := 0
def theMethod : MethodId := ⟨1, 2⟩
def args0 : Array Value := #[.int 5, .int 5, .int 5, .int 5]
def aboutOver (below : List Frame) : State where
  vm := { classes := classes, interned := interned.toArray }
  heap := heap
  slotsUsed := slotsUsed
  threads := #[{ frames := .invoking theMethod args0 :: below }]
def below0 : List Frame := [.native { method := ⟨0, 0⟩, args := #[] }]
def about1 : State := aboutOver below0
def p0 : Program := .bare "" "" ""
def e0 : Env := launch0.env 0 0 0
theorem w_frames : about1.frames = Frame.invoking theMethod args0 :: below0 := rfl
set_option maxRecDepth 65536 in
theorem w_args : argsFit about1.vm theMethod args0 = true := by decide +kernel
set_option maxRecDepth 65536 in
theorem w_heap : heapFits about1 = true := by decide +kernel
set_option maxRecDepth 65536 in
theorem w_runnable : about1.curStatus? = some .runnable := by decide +kernel
set_option maxRecDepth 65536 in
theorem w_alone : about1.alone = true := by decide +kernel
set_option maxRecDepth 65536 in
theorem w_named : about1.methodNamed? x = some theMethod := by decide +kernel
set_option maxRecDepth 65536 in
theorem w_hears : about1.hears theMethod below0 = true := by decide +kernel
set_option maxRecDepth 65536 in
theorem w_ripe : about1.ripe theMethod args0 below0 = true := by decide +kernel
theorem w_running : about1.status = .running := rfl
set_option maxRecDepth 65536 in
theorem w_room : about1.hasRoom e0.platform room_1 = true :=
  launch0.hasRoom_least _ room_1 (by decide +kernel) (by decide +kernel) (by decide +kernel) (by decide +kernel) (by decide +kernel) (by decide +kernel)
theorem allAtoms_all (ts : List Jvm.Cond) (a : Array Jvm.Value) (st : Jvm.State) : (allAtoms ts).before a st = ts.all (fun c => c.before a st) := by
  induction ts with
  | nil => rfl
  | cons c t ih =>
    show (Jvm.Cond.and c (allAtoms t)).before a st = _
    rw [Jvm.Cond.before_and, ih, List.all_cons]
def words1 : List Jvm.Cond := Jvm.Cond.code x code maxLocals ret :: tables_1
/-- a 'code' word, met by the world's own term for the bytes: nothing is compared byte by byte -/
theorem code_word {y : MethodName} {bytes : ByteArray} {mx : Nat} {rt : Option FieldType} {a : Array Value} {s : State} {m : MethodId} {meth : Method} {c : Code} (h1 : s.methodNamed? y = some m) (h2 : s.vm.method? m = some meth) (h3 : meth.code = some c) (h4 : c.code = bytes)
    (h5 : (c.maxLocals == mx && c.exceptionTable.isEmpty && decide (c.maxStack ≤ mostOperands) && decide (meth.sig.returnType = rt) && !meth.locks && decide (parseMethodDescriptor y.desc = some meth.sig)) = true) : (Jvm.Cond.code y bytes mx rt).before a s = true := by
  simp only [Bool.and_eq_true, beq_iff_eq, Bool.not_eq_true', decide_eq_true_eq] at h5
  obtain ⟨⟨⟨⟨⟨g1, g2⟩, g3⟩, g4⟩, g5⟩, g6⟩ := h5
  simp [Cond.before, Cond.holds, Cond.value, h1, h2, h3, h4, g1, g2, g3, g4, g5, g6]
def isCode : Jvm.Cond → Bool
  | .code _ _ _ _ => true
  | _ => false
theorem all_split {L : List Jvm.Cond} {P : Jvm.Cond → Bool} (h1 : L.all (fun c => isCode c || P c) = true) (h2 : ∀ c ∈ L.filter isCode, P c = true) : L.all P = true := by
  refine List.all_eq_true.mpr fun c hc => ?_
  have h := List.all_eq_true.mp h1 c hc
  rcases Bool.eq_false_or_eq_true (isCode c) with hi | hi
  · exact h2 c (List.mem_filter.mpr ⟨hc, hi⟩)
  · simpa [hi] using h
set_option maxRecDepth 65536 in
theorem w_c0 : (Jvm.Cond.code x code maxLocals ret).before args0 about1 = true := code_word (m := ⟨1, 2⟩) (meth := k1m2) (c := k1c2) (by decide +kernel) rfl rfl rfl (by decide +kernel)
set_option maxRecDepth 65536 in
theorem w_c1 : (Jvm.Cond.code ({ cls := "com/example/wadjet/wadjet/storage/IntegerChunk", name := "<init>", desc := "(I)V" } : Jvm.MethodName) prog_257_method_1_code (2 : Nat) (Option.none : Option Jvm.ClassFile.FieldType)).before args0 about1 = true := code_word (m := ⟨3, 0⟩) (meth := k3m0) (c := k3c0) (by decide +kernel) rfl rfl rfl (by decide +kernel)
set_option maxRecDepth 65536 in
theorem w_c2 : (Jvm.Cond.code ({ cls := "com/example/wadjet/wadjet/storage/ColumnChunk", name := "<init>", desc := "()V" } : Jvm.MethodName) prog_251_method_1_code (1 : Nat) (Option.none : Option Jvm.ClassFile.FieldType)).before args0 about1 = true := code_word (m := ⟨2, 0⟩) (meth := k2m0) (c := k2c0) (by decide +kernel) rfl rfl rfl (by decide +kernel)
set_option maxRecDepth 65536 in
theorem w_c3 : (Jvm.Cond.code ({ cls := "java/lang/Object", name := "<init>", desc := "()V" } : Jvm.MethodName) object_method_1_code (1 : Nat) (Option.none : Option Jvm.ClassFile.FieldType)).before args0 about1 = true := code_word (m := ⟨0, 0⟩) (meth := k0m0) (c := k0c0) (by decide +kernel) rfl rfl rfl (by decide +kernel)
set_option maxRecDepth 65536 in
theorem w_c4 : (Jvm.Cond.code ({ cls := "com/example/wadjet/wadjet/storage/IntegerChunk", name := "writeInteger", desc := "(IJ)V" } : Jvm.MethodName) prog_257_method_8_code (4 : Nat) (Option.none : Option Jvm.ClassFile.FieldType)).before args0 about1 = true := code_word (m := ⟨3, 2⟩) (meth := k3m2) (c := k3c2) (by decide +kernel) rfl rfl rfl (by decide +kernel)
set_option maxRecDepth 65536 in
theorem w_c5 : (Jvm.Cond.code ({ cls := "java/lang/Math", name := "toIntExact", desc := "(J)I" } : Jvm.MethodName) jdk_29_method_43_code (2 : Nat) (Option.some Jvm.ClassFile.FieldType.int)).before args0 about1 = true := code_word (m := ⟨4, 1⟩) (meth := k4m1) (c := k4c1) (by decide +kernel) rfl rfl rfl (by decide +kernel)
set_option maxRecDepth 65536 in
theorem w_c6 : (Jvm.Cond.code ({ cls := "com/example/wadjet/wadjet/storage/IntegerChunk", name := "capacity", desc := "()I" } : Jvm.MethodName) prog_257_method_13_code (2 : Nat) (Option.some Jvm.ClassFile.FieldType.int)).before args0 about1 = true := code_word (m := ⟨3, 3⟩) (meth := k3m3) (c := k3c3) (by decide +kernel) rfl rfl rfl (by decide +kernel)
set_option maxRecDepth 65536 in
theorem w_c7 : (Jvm.Cond.code ({ cls := "com/example/wadjet/wadjet/storage/IntegerChunk", name := "integer", desc := "(I)J" } : Jvm.MethodName) prog_257_method_5_code (4 : Nat) (Option.some Jvm.ClassFile.FieldType.long)).before args0 about1 = true := code_word (m := ⟨3, 1⟩) (meth := k3m1) (c := k3c1) (by decide +kernel) rfl rfl rfl (by decide +kernel)
set_option maxRecDepth 65536 in
theorem w_c8 : (Jvm.Cond.code ({ cls := "com/example/wadjet/wadjet/storage/IntegerChunkIntegerPinLaw", name := "expected", desc := "(IIIIIII)J" } : Jvm.MethodName) method_2_code (9 : Nat) (Option.some Jvm.ClassFile.FieldType.long)).before args0 about1 = true := code_word (m := ⟨1, 1⟩) (meth := k1m1) (c := k1c1) (by decide +kernel) rfl rfl rfl (by decide +kernel)
set_option maxRecDepth 65536 in
theorem w_c9 : (Jvm.Cond.code ({ cls := "com/example/wadjet/wadjet/storage/IntegerChunk", name := "widen", desc := "(IJ)V" } : Jvm.MethodName) prog_257_method_15_code (15 : Nat) (Option.none : Option Jvm.ClassFile.FieldType)).before args0 about1 = true := code_word (m := ⟨3, 5⟩) (meth := k3m5) (c := k3c5) (by decide +kernel) rfl rfl rfl (by decide +kernel)
set_option maxRecDepth 65536 in
theorem w_c10 : (Jvm.Cond.code ({ cls := "java/lang/Math", name := "min", desc := "(JJ)J" } : Jvm.MethodName) jdk_29_method_70_code (4 : Nat) (Option.some Jvm.ClassFile.FieldType.long)).before args0 about1 = true := code_word (m := ⟨4, 5⟩) (meth := k4m5) (c := k4c5) (by decide +kernel) rfl rfl rfl (by decide +kernel)
set_option maxRecDepth 65536 in
theorem w_c11 : (Jvm.Cond.code ({ cls := "java/lang/Math", name := "max", desc := "(JJ)J" } : Jvm.MethodName) jdk_29_method_66_code (4 : Nat) (Option.some Jvm.ClassFile.FieldType.long)).before args0 about1 = true := code_word (m := ⟨4, 3⟩) (meth := k4m3) (c := k4c3) (by decide +kernel) rfl rfl rfl (by decide +kernel)
set_option maxRecDepth 65536 in
theorem w_c12 : (Jvm.Cond.code ({ cls := "com/example/wadjet/wadjet/storage/ColumnChunk", name := "grownCapacity", desc := "(II)I" } : Jvm.MethodName) prog_251_method_4_code (2 : Nat) (Option.some Jvm.ClassFile.FieldType.int)).before args0 about1 = true := code_word (m := ⟨2, 1⟩) (meth := k2m1) (c := k2c1) (by decide +kernel) rfl rfl rfl (by decide +kernel)
set_option maxRecDepth 65536 in
theorem w_c13 : (Jvm.Cond.code ({ cls := "java/lang/Integer", name := "highestOneBit", desc := "(I)I" } : Jvm.MethodName) jdk_33_method_45_code (1 : Nat) (Option.some Jvm.ClassFile.FieldType.int)).before args0 about1 = true := code_word (m := ⟨10, 0⟩) (meth := k10m0) (c := k10c0) (by decide +kernel) rfl rfl rfl (by decide +kernel)
set_option maxRecDepth 65536 in
theorem w_c14 : (Jvm.Cond.code ({ cls := "java/lang/Integer", name := "numberOfLeadingZeros", desc := "(I)I" } : Jvm.MethodName) jdk_33_method_47_code (2 : Nat) (Option.some Jvm.ClassFile.FieldType.int)).before args0 about1 = true := code_word (m := ⟨10, 1⟩) (meth := k10m1) (c := k10c1) (by decide +kernel) rfl rfl rfl (by decide +kernel)
set_option maxRecDepth 65536 in
theorem w_c15 : (Jvm.Cond.code ({ cls := "java/lang/Math", name := "max", desc := "(II)I" } : Jvm.MethodName) jdk_29_method_65_code (2 : Nat) (Option.some Jvm.ClassFile.FieldType.int)).before args0 about1 = true := code_word (m := ⟨4, 2⟩) (meth := k4m2) (c := k4c2) (by decide +kernel) rfl rfl rfl (by decide +kernel)
set_option maxRecDepth 65536 in
theorem w_c16 : (Jvm.Cond.code ({ cls := "java/lang/Math", name := "min", desc := "(II)I" } : Jvm.MethodName) jdk_29_method_69_code (2 : Nat) (Option.some Jvm.ClassFile.FieldType.int)).before args0 about1 = true := code_word (m := ⟨4, 4⟩) (meth := k4m4) (c := k4c4) (by decide +kernel) rfl rfl rfl (by decide +kernel)
set_option maxRecDepth 65536 in
theorem w_c17 : (Jvm.Cond.code ({ cls := "com/example/wadjet/wadjet/storage/IntegerChunk", name := "resize", desc := "(I)V" } : Jvm.MethodName) prog_257_method_14_code (2 : Nat) (Option.none : Option Jvm.ClassFile.FieldType)).before args0 about1 = true := code_word (m := ⟨3, 4⟩) (meth := k3m4) (c := k3c4) (by decide +kernel) rfl rfl rfl (by decide +kernel)
set_option maxRecDepth 65536 in
theorem w_c18 : (Jvm.Cond.code ({ cls := "java/util/Arrays", name := "copyOf", desc := "([BI)[B" } : Jvm.MethodName) jdk_65_method_121_code (3 : Nat) (Option.some (Jvm.ClassFile.FieldType.array Jvm.ClassFile.FieldType.byte))).before args0 about1 = true := code_word (m := ⟨11, 1⟩) (meth := k11m1) (c := k11c1) (by decide +kernel) rfl rfl rfl (by decide +kernel)
set_option maxRecDepth 65536 in
theorem w_c19 : (Jvm.Cond.code ({ cls := "java/util/Arrays", name := "copyOf", desc := "([II)[I" } : Jvm.MethodName) jdk_65_method_123_code (3 : Nat) (Option.some (Jvm.ClassFile.FieldType.array Jvm.ClassFile.FieldType.int))).before args0 about1 = true := code_word (m := ⟨11, 2⟩) (meth := k11m2) (c := k11c2) (by decide +kernel) rfl rfl rfl (by decide +kernel)
set_option maxRecDepth 65536 in
theorem w_c20 : (Jvm.Cond.code ({ cls := "java/util/Arrays", name := "copyOf", desc := "([CI)[C" } : Jvm.MethodName) jdk_65_method_125_code (3 : Nat) (Option.some (Jvm.ClassFile.FieldType.array Jvm.ClassFile.FieldType.char))).before args0 about1 = true := code_word (m := ⟨11, 3⟩) (meth := k11m3) (c := k11c3) (by decide +kernel) rfl rfl rfl (by decide +kernel)
def codes1 : List Jvm.Cond := [Jvm.Cond.code x code maxLocals ret, Jvm.Cond.code ({ cls := "com/example/wadjet/wadjet/storage/IntegerChunk", name := "<init>", desc := "(I)V" } : Jvm.MethodName) prog_257_method_1_code (2 : Nat) (Option.none : Option Jvm.ClassFile.FieldType), Jvm.Cond.code ({ cls := "com/example/wadjet/wadjet/storage/ColumnChunk", name := "<init>", desc := "()V" } : Jvm.MethodName) prog_251_method_1_code (1 : Nat) (Option.none : Option Jvm.ClassFile.FieldType), Jvm.Cond.code ({ cls := "java/lang/Object", name := "<init>", desc := "()V" } : Jvm.MethodName) object_method_1_code (1 : Nat) (Option.none : Option Jvm.ClassFile.FieldType), Jvm.Cond.code ({ cls := "com/example/wadjet/wadjet/storage/IntegerChunk", name := "writeInteger", desc := "(IJ)V" } : Jvm.MethodName) prog_257_method_8_code (4 : Nat) (Option.none : Option Jvm.ClassFile.FieldType), Jvm.Cond.code ({ cls := "java/lang/Math", name := "toIntExact", desc := "(J)I" } : Jvm.MethodName) jdk_29_method_43_code (2 : Nat) (Option.some Jvm.ClassFile.FieldType.int), Jvm.Cond.code ({ cls := "com/example/wadjet/wadjet/storage/IntegerChunk", name := "capacity", desc := "()I" } : Jvm.MethodName) prog_257_method_13_code (2 : Nat) (Option.some Jvm.ClassFile.FieldType.int), Jvm.Cond.code ({ cls := "com/example/wadjet/wadjet/storage/IntegerChunk", name := "integer", desc := "(I)J" } : Jvm.MethodName) prog_257_method_5_code (4 : Nat) (Option.some Jvm.ClassFile.FieldType.long), Jvm.Cond.code ({ cls := "com/example/wadjet/wadjet/storage/IntegerChunkIntegerPinLaw", name := "expected", desc := "(IIIIIII)J" } : Jvm.MethodName) method_2_code (9 : Nat) (Option.some Jvm.ClassFile.FieldType.long), Jvm.Cond.code ({ cls := "com/example/wadjet/wadjet/storage/IntegerChunk", name := "widen", desc := "(IJ)V" } : Jvm.MethodName) prog_257_method_15_code (15 : Nat) (Option.none : Option Jvm.ClassFile.FieldType), Jvm.Cond.code ({ cls := "java/lang/Math", name := "min", desc := "(JJ)J" } : Jvm.MethodName) jdk_29_method_70_code (4 : Nat) (Option.some Jvm.ClassFile.FieldType.long), Jvm.Cond.code ({ cls := "java/lang/Math", name := "max", desc := "(JJ)J" } : Jvm.MethodName) jdk_29_method_66_code (4 : Nat) (Option.some Jvm.ClassFile.FieldType.long), Jvm.Cond.code ({ cls := "com/example/wadjet/wadjet/storage/ColumnChunk", name := "grownCapacity", desc := "(II)I" } : Jvm.MethodName) prog_251_method_4_code (2 : Nat) (Option.some Jvm.ClassFile.FieldType.int), Jvm.Cond.code ({ cls := "java/lang/Integer", name := "highestOneBit", desc := "(I)I" } : Jvm.MethodName) jdk_33_method_45_code (1 : Nat) (Option.some Jvm.ClassFile.FieldType.int), Jvm.Cond.code ({ cls := "java/lang/Integer", name := "numberOfLeadingZeros", desc := "(I)I" } : Jvm.MethodName) jdk_33_method_47_code (2 : Nat) (Option.some Jvm.ClassFile.FieldType.int), Jvm.Cond.code ({ cls := "java/lang/Math", name := "max", desc := "(II)I" } : Jvm.MethodName) jdk_29_method_65_code (2 : Nat) (Option.some Jvm.ClassFile.FieldType.int), Jvm.Cond.code ({ cls := "java/lang/Math", name := "min", desc := "(II)I" } : Jvm.MethodName) jdk_29_method_69_code (2 : Nat) (Option.some Jvm.ClassFile.FieldType.int), Jvm.Cond.code ({ cls := "com/example/wadjet/wadjet/storage/IntegerChunk", name := "resize", desc := "(I)V" } : Jvm.MethodName) prog_257_method_14_code (2 : Nat) (Option.none : Option Jvm.ClassFile.FieldType), Jvm.Cond.code ({ cls := "java/util/Arrays", name := "copyOf", desc := "([BI)[B" } : Jvm.MethodName) jdk_65_method_121_code (3 : Nat) (Option.some (Jvm.ClassFile.FieldType.array Jvm.ClassFile.FieldType.byte)), Jvm.Cond.code ({ cls := "java/util/Arrays", name := "copyOf", desc := "([II)[I" } : Jvm.MethodName) jdk_65_method_123_code (3 : Nat) (Option.some (Jvm.ClassFile.FieldType.array Jvm.ClassFile.FieldType.int)), Jvm.Cond.code ({ cls := "java/util/Arrays", name := "copyOf", desc := "([CI)[C" } : Jvm.MethodName) jdk_65_method_125_code (3 : Nat) (Option.some (Jvm.ClassFile.FieldType.array Jvm.ClassFile.FieldType.char))]
set_option maxRecDepth 65536 in
theorem codes_eq : words1.filter isCode = codes1 := rfl
theorem w_codes : ∀ c ∈ words1.filter isCode, c.before args0 about1 = true := by
  rw [codes_eq]
  intro c hc
  simp only [codes1, List.mem_cons, List.not_mem_nil, or_false] at hc
  rcases hc with rfl | rfl | rfl | rfl | rfl | rfl | rfl | rfl | rfl | rfl | rfl | rfl | rfl | rfl | rfl | rfl | rfl | rfl | rfl | rfl | rfl
  · exact w_c0
  · exact w_c1
  · exact w_c2
  · exact w_c3
  · exact w_c4
  · exact w_c5
  · exact w_c6
  · exact w_c7
  · exact w_c8
  · exact w_c9
  · exact w_c10
  · exact w_c11
  · exact w_c12
  · exact w_c13
  · exact w_c14
  · exact w_c15
  · exact w_c16
  · exact w_c17
  · exact w_c18
  · exact w_c19
  · exact w_c20
set_option maxRecDepth 65536 in
theorem w_t1 : (words1.take 24).all (fun c => isCode c || c.before args0 about1) = true := by decide +kernel
set_option maxRecDepth 65536 in
theorem w_t2 : ((words1.drop 24).take 24).all (fun c => isCode c || c.before args0 about1) = true := by decide +kernel
set_option maxRecDepth 65536 in
theorem w_t3 : (((words1.drop 24).drop 24).take 24).all (fun c => isCode c || c.before args0 about1) = true := by decide +kernel
set_option maxRecDepth 65536 in
theorem w_t4 : ((((words1.drop 24).drop 24).drop 24).take 24).all (fun c => isCode c || c.before args0 about1) = true := by decide +kernel
set_option maxRecDepth 65536 in
theorem w_t5 : ((((words1.drop 24).drop 24).drop 24).drop 24).all (fun c => isCode c || c.before args0 about1) = true := by decide +kernel
theorem w_tables : (allAtoms (Jvm.Cond.code x code maxLocals ret :: tables_1)).before args0 about1 = true := by
  rw [allAtoms_all]
  show words1.all (fun c => c.before args0 about1) = true
  refine all_split ?_ w_codes
  rw [← List.take_append_drop 24 words1, List.all_append, w_t1, ← List.take_append_drop 24 (words1.drop 24), List.all_append, w_t2, ← List.take_append_drop 24 ((words1.drop 24).drop 24), List.all_append, w_t3, ← List.take_append_drop 24 (((words1.drop 24).drop 24).drop 24), List.all_append, w_t4, w_t5]
  rfl
set_option maxRecDepth 65536 in
theorem w_case : (Jvm.Cond.and given_1 narrow_1).before args0 about1 = true := by decide +kernel
theorem w_applies : (headSpec (Jvm.Cond.code x code maxLocals ret :: tables_1) room_1).applies x e0.platform about1 = true :=
  (Spec.applies_iff w_frames).mpr ⟨w_running, w_runnable, w_alone, w_named, w_hears, w_ripe, w_room, w_tables⟩
theorem atStart : AtStart classFile x code maxLocals ret World_1 tables_1 room_1 Calls_1 rest_1 Pre_1 launch0 p0 e0 about1 theMethod args0 below0 :=
  ⟨lists_1, trivial, launch0.admits_env _ _ _, launch0.least_env, fairChoices_fair.cas, fairChoices_fair.clock, w_frames, w_args, w_heap, w_applies, trivial, trivial, w_case⟩
end start1
theorem witness_1 : WitnessClaimed_1 := ⟨start1.p0, start1.e0, start1.about1, start1.theMethod, start1.args0, start1.below0, start1.atStart⟩
end Jvm.Pilot.@@N@@
