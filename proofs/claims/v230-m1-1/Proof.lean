import JvmDerived
import JvmDerived.Pilot.@@N@@Statement
import JvmDerived.Pilot.@@N@@Code
set_option linter.unusedVariables false
set_option linter.unusedSimpArgs false
namespace Jvm.RoadKit
open Sem ClassFile Op Lib Jvm.Stand Jvm.Free Jvm.LawKit
section New
variable {p : Program} {l : Launch} {e : Env} {R : Room} {s : State} {m : MethodId} {args : Array Value} {below : List Frame} {meth : Method} {c : Code} {T : State} {locs : List Loc} {cells slots : Nat}
theorem retI (X : Stand p l e R s m args below meth c T locs cells slots) (hx : p.tables.exec = Jvm.exec) {pc : Nat} {Ls : Array Slot} {z : Int32} {rest : List Value} (hret : meth.sig.returnType = some .int) (hd : decode c.code pc = .ok (.ireturn, 1)) {fs : List Frame}
    (hl : ∀ (f : JFrame) (acts : List Action), f.method = m → f.locked = none → f.entered = [] → (doReturn e (T.setTop f) acts (some (.int z))).1 = T.setFrames fs) : Steps p.tables e below (T.setTop (mkF m pc Ls (.int z :: rest))) (T.setFrames fs) := by
  have hm' : T.vm.method? m = some meth := X.method'
  have hn : narrow .int (.int z) = .int z := rfl
  show Steps p.tables e below (T.setTop { method := m, pc := pc, locals := Ls, stack := _ :: rest, locked := none }) _
  jvm_step X.here [X.here.top, hx, hd, hm', hret, hn]
  first | (intro acts; rw [hl _ acts rfl rfl rfl]) | rw [hl _ _ rfl rfl rfl]
  exact Steps.refl _
theorem own_lrem {target : State} (X : Stand p l e R s m args below meth c T locs cells slots) (hx : p.tables.exec = Jvm.exec) {g : JFrame} (hg : g.method = m) {x y : Int64} {rest : List Value} (hd : decode c.code g.pc = .ok (.lrem, 1)) (hs : g.stack = .long y :: .long x :: rest) (hy : y ≠ 0)
    (hr : Steps p.tables e below (T.setTop { g with pc := g.pc + 1, stack := .long (x % y) :: rest }) target) : Steps p.tables e below (T.setTop g) target :=
  XS.lrem X.here hx hg hd hs hy (by rw [lrem_mod]; exact hr)
theorem own_retJ (Y : Stand p l e R s m args below meth c T locs cells slots) (hexec : p.tables.exec = Jvm.exec) {pc : Nat} {Ls : Array Slot} {w : Int64} (hret : meth.sig.returnType = some .long)
    (hdg : decode c.code pc = .ok (.lreturn, 1)) {fs : List Frame} (hleave : ∀ (f : JFrame) (acts : List Action), f.method = m → f.locked = none → f.entered = [] → (doReturn e (T.setTop f) acts (some (.long w))).1 = T.setFrames fs) :
    Steps p.tables e below (T.setTop (mkF m pc Ls [.long w])) (T.setFrames fs) := Y.lreturnOut hexec hret hdg hleave
theorem own_retR (X : Stand p l e R s m args below meth c T locs cells slots) (hx : p.tables.exec = Jvm.exec) {pc : Nat} {Ls : Array Slot} {w : Value} {t : FieldType} {rest : List Value} (hret : meth.sig.returnType = some t) (hn : narrow t w = w) (ht : t.isReference = true) (hw : w.isRef = true)
    (hd : decode c.code pc = .ok (.areturn, 1)) {fs : List Frame} (hl : ∀ (f : JFrame) (acts : List Action), f.method = m → f.locked = none → f.entered = [] → (doReturn e (T.setTop f) acts (some w)).1 = T.setFrames fs) :
    Steps p.tables e below (T.setTop (mkF m pc Ls (w :: rest))) (T.setFrames fs) := retOut X hx hret hn (Or.inr (Or.inr (Or.inr (Or.inr ⟨rfl, ht, hw⟩)))) hd hl
theorem own_via {tb : Tables} {s0 target : State} (s' : State) (h : Steps tb e below s' target → Steps tb e below s0 target) (k : Steps tb e below s' target) : Steps tb e below s0 target := h k
end New
end Jvm.RoadKit
namespace Jvm.Pilot.@@N@@
open Jvm Jvm.ClassFile Sem Op Lib Jvm.Free Jvm.Stand Jvm.LawKit Jvm.RoadKit Bundle Jvm.Pilot.@@N@@.Jvm.D
def own_b0 (w : Int32) : Int32 := nar .byte (w.toInt8.toInt32)
def own_b1 (w : Int32) : Int32 := nar .byte (((w.toUInt32 >>> ((8 : Int32) &&& 31).toUInt32).toInt32).toInt8.toInt32)
def own_b2 (w : Int32) : Int32 := nar .byte (((w.toUInt32 >>> ((16 : Int32) &&& 31).toUInt32).toInt32).toInt8.toInt32)
def own_b3 (w : Int32) : Int32 := nar .byte (((w.toUInt32 >>> ((24 : Int32) &&& 31).toUInt32).toInt32).toInt8.toInt32)
def own_put (vs : List Value) (k : Nat) (w : Int32) : List Value := (((vs.set k (.int (own_b0 w))).set (k + 1) (.int (own_b1 w))).set (k + 2) (.int (own_b2 w))).set (k + 3) (.int (own_b3 w))
theorem own_put_len (vs : List Value) (k : Nat) (w : Int32) : (own_put vs k w).length = vs.length := by simp only [own_put, List.length_set]
def own_k4 (a b c d : Int32) : Int32 := ((((a &&& (255 : Int32)) ||| ((b &&& (255 : Int32)) <<< ((8 : Int32) &&& 31))) ||| ((c &&& (255 : Int32)) <<< ((16 : Int32) &&& 31))) ||| ((d &&& (255 : Int32)) <<< ((24 : Int32) &&& 31)))
def own_turn (h k : Int32) : Int32 := ((h * (1540483477 : Int32)) ^^^ (((k * (1540483477 : Int32)) ^^^ (((k * (1540483477 : Int32)).toUInt32 >>> ((24 : Int32) &&& 31).toUInt32).toInt32)) * (1540483477 : Int32)))
def own_tail (h l a b c : Int32) : Int32 := (if (0 : Int32) < l then (if (3 : Int32) = l then (if l < (2 : Int32) then (((h ^^^ ((c &&& (255 : Int32)) <<< ((16 : Int32) &&& 31))) ^^^ (a &&& (255 : Int32))) * (1540483477 : Int32)) else ((((h ^^^ ((c &&& (255 : Int32)) <<< ((16 : Int32) &&& 31))) ^^^ ((b &&& (255 : Int32)) <<< ((8 : Int32) &&& 31))) ^^^ (a &&& (255 : Int32))) * (1540483477 : Int32))) else (if l < (2 : Int32) then ((h ^^^ (a &&& (255 : Int32))) * (1540483477 : Int32)) else (((h ^^^ ((b &&& (255 : Int32)) <<< ((8 : Int32) &&& 31))) ^^^ (a &&& (255 : Int32))) * (1540483477 : Int32)))) else h)
def own_mix1 (h : Int32) : Int32 := (h ^^^ ((h.toUInt32 >>> ((13 : Int32) &&& 31).toUInt32).toInt32))
def own_mix2 (h : Int32) : Int32 := (h ^^^ ((h.toUInt32 >>> ((15 : Int32) &&& 31).toUInt32).toInt32))
def own_mix (h : Int32) : Int32 := own_mix2 (own_mix1 h * (1540483477 : Int32))
def own_h0 (nn y0 y1 y2 : Int32) : Int32 := own_mix (own_tail ((-1756908916 : Int32) ^^^ nn) (nn - (0 : Int32)) y0 y1 y2)
def own_h1 (nn y0 y1 y2 y3 y4 y5 y6 : Int32) : Int32 := own_mix (own_tail (own_turn ((-1756908916 : Int32) ^^^ nn) (own_k4 y0 y1 y2 y3)) (nn - (4 : Int32)) y4 y5 y6)
def own_h2 (nn y0 y1 y2 y3 y4 y5 y6 y7 y8 y9 y10 : Int32) : Int32 := own_mix (own_tail (own_turn (own_turn ((-1756908916 : Int32) ^^^ nn) (own_k4 y0 y1 y2 y3)) (own_k4 y4 y5 y6 y7)) (nn - (8 : Int32)) y8 y9 y10)
theorem own_z32 : (0 : Int32).toInt = 0 := by decide
theorem own_lt {vs : List Value} {nn q : Int32} (hlen : vs.length = nn.toNatClampNeg) (hp : ¬ (q < 0)) (h : q < nn) : q.toNatClampNeg < vs.length := by
  have a := nat_of hp
  rw [Int32.lt_iff_toInt_lt] at h hp
  rw [own_z32] at hp
  have b : (nn.toNatClampNeg : Int) = nn.toInt := (nat_of (j := nn) (by rw [Int32.lt_iff_toInt_lt, own_z32]; omega)).symm
  omega
theorem own_out {vs : List Value} {nn q : Int32} {x : Value} (hlen : vs.length = nn.toNatClampNeg) (hp : ¬ (q < 0)) (h : ¬ (q < nn)) : vs.set q.toNatClampNeg x = vs := by
  apply List.set_eq_of_length_le
  have a := nat_of hp
  rw [Int32.lt_iff_toInt_lt] at h hp
  rw [own_z32] at hp
  have b : nn.toNatClampNeg = nn.toInt.toNat := rfl
  omega
theorem own_in {i nn : Int32} {k : Int} (hi : i.toInt = k) (h0 : 0 ≤ k) (h : k < nn.toInt) : ¬ (i < 0) ∧ i < nn := by
  rw [Int32.lt_iff_toInt_lt, Int32.lt_iff_toInt_lt, own_z32]; omega
theorem own_g0 {nn L : Int32} {b : Int} (hL : L.toInt = b) (hn : b ≤ nn.toInt ∧ nn.toInt ≤ b + 3) (h : (0 : Int32) < (nn - L)) : b < nn.toInt := by
  rw [Int32.lt_iff_toInt_lt, own_z32] at h
  have a := c_isub nn L; have r := rng32 (nn - L); omega
theorem own_g1 {nn L : Int32} {b : Int} (hL : L.toInt = b) (hn : b ≤ nn.toInt ∧ nn.toInt ≤ b + 3) (h : ¬ ((nn - L) < (2 : Int32))) : b + 1 < nn.toInt := by
  have e : (2 : Int32).toInt = 2 := by decide
  rw [Int32.lt_iff_toInt_lt, e] at h
  have a := c_isub nn L; have r := rng32 (nn - L); omega
theorem own_g2 {nn L : Int32} {b : Int} (hL : L.toInt = b) (hn : b ≤ nn.toInt ∧ nn.toInt ≤ b + 3) (h : (3 : Int32) = (nn - L)) : b + 2 < nn.toInt := by
  have e : (3 : Int32).toInt = 3 := by decide
  rw [← Int32.toInt_inj, e] at h
  have a := c_isub nn L; have r := rng32 (nn - L); omega
theorem own_wh {nn wh : Int32} (a b c d r : Int32) (h : nn.toInt = a.toInt ∨ nn.toInt = b.toInt ∨ nn.toInt = c.toInt ∨ nn.toInt = d.toInt) (ha : a &&& (-4 : Int32) = r) (hb : b &&& (-4 : Int32) = r) (hc : c &&& (-4 : Int32) = r) (hd : d &&& (-4 : Int32) = r) (hw : wh = (nn &&& (-4 : Int32))) : wh = r := by
  rcases h with h | h | h | h <;> rw [Int32.toInt_inj] at h <;> subst h <;> rw [hw] <;> assumption
theorem own_wh0 {nn wh : Int32} (hn : 0 ≤ nn.toInt ∧ nn.toInt ≤ 3) (hw : wh = (nn &&& (-4 : Int32))) : wh = (0 : Int32) := own_wh 0 1 2 3 0 (by
  have e0 : (0 : Int32).toInt = 0 := by decide
  have e1 : (1 : Int32).toInt = 1 := by decide
  have e2 : (2 : Int32).toInt = 2 := by decide
  have e3 : (3 : Int32).toInt = 3 := by decide
  rw [e0, e1, e2, e3]; omega) (by decide) (by decide) (by decide) (by decide) hw
theorem own_wh1 {nn wh : Int32} (hn : 4 ≤ nn.toInt ∧ nn.toInt ≤ 7) (hw : wh = (nn &&& (-4 : Int32))) : wh = (4 : Int32) := own_wh 4 5 6 7 4 (by
  have e0 : (4 : Int32).toInt = 4 := by decide
  have e1 : (5 : Int32).toInt = 5 := by decide
  have e2 : (6 : Int32).toInt = 6 := by decide
  have e3 : (7 : Int32).toInt = 7 := by decide
  rw [e0, e1, e2, e3]; omega) (by decide) (by decide) (by decide) (by decide) hw
theorem own_wh2 {nn wh : Int32} (hn : 8 ≤ nn.toInt ∧ nn.toInt ≤ 11) (hw : wh = (nn &&& (-4 : Int32))) : wh = (8 : Int32) := own_wh 8 9 10 11 8 (by
  have e0 : (8 : Int32).toInt = 8 := by decide
  have e1 : (9 : Int32).toInt = 9 := by decide
  have e2 : (10 : Int32).toInt = 10 := by decide
  have e3 : (11 : Int32).toInt = 11 := by decide
  rw [e0, e1, e2, e3]; omega) (by decide) (by decide) (by decide) (by decide) hw

theorem d4_0 : decode method_3_code 0 = .ok (.iload_n 1, 1) := by decide +kernel
theorem d4_1 : decode method_3_code 1 = .ok (.ldc 26, 2) := by decide +kernel
theorem d4_3 : decode method_3_code 3 = .ok (.imul, 1) := by decide +kernel
theorem d4_4 : decode method_3_code 4 = .ok (.istore_n 2, 1) := by decide +kernel
theorem d4_5 : decode method_3_code 5 = .ok (.iload_n 2, 1) := by decide +kernel
theorem d4_6 : decode method_3_code 6 = .ok (.iload_n 2, 1) := by decide +kernel
theorem d4_7 : decode method_3_code 7 = .ok (.bipush 24, 2) := by decide +kernel
theorem d4_9 : decode method_3_code 9 = .ok (.iushr, 1) := by decide +kernel
theorem d4_10 : decode method_3_code 10 = .ok (.ixor, 1) := by decide +kernel
theorem d4_11 : decode method_3_code 11 = .ok (.istore_n 2, 1) := by decide +kernel
theorem d4_12 : decode method_3_code 12 = .ok (.iload_n 2, 1) := by decide +kernel
theorem d4_13 : decode method_3_code 13 = .ok (.ldc 26, 2) := by decide +kernel
theorem d4_15 : decode method_3_code 15 = .ok (.imul, 1) := by decide +kernel
theorem d4_16 : decode method_3_code 16 = .ok (.istore_n 2, 1) := by decide +kernel
theorem d4_17 : decode method_3_code 17 = .ok (.iload_n 0, 1) := by decide +kernel
theorem d4_18 : decode method_3_code 18 = .ok (.ldc 26, 2) := by decide +kernel
theorem d4_20 : decode method_3_code 20 = .ok (.imul, 1) := by decide +kernel
theorem d4_21 : decode method_3_code 21 = .ok (.istore_n 0, 1) := by decide +kernel
theorem d4_22 : decode method_3_code 22 = .ok (.iload_n 0, 1) := by decide +kernel
theorem d4_23 : decode method_3_code 23 = .ok (.iload_n 2, 1) := by decide +kernel
theorem d4_24 : decode method_3_code 24 = .ok (.ixor, 1) := by decide +kernel
theorem d4_25 : decode method_3_code 25 = .ok (.istore_n 0, 1) := by decide +kernel
theorem d4_26 : decode method_3_code 26 = .ok (.iload_n 0, 1) := by decide +kernel
theorem d4_27 : decode method_3_code 27 = .ok (.ireturn, 1) := by decide +kernel
theorem pn_4 : plainName "com/example/parley/parley/client/Murmur2HashPinLaw" = true := by first | (simp [plainName, overriddenIn]; done) | decide +kernel
theorem ef_rm4 (m : MethodId) (p0 : Int32) (p1 : Int32) : entryFrame m #[(.int p0), (.int p1)] 3 = mkF m 0 #[.val (.int p0), .val (.int p1), .unset] [] := by first | (simp [entryFrame, mkF, argsToLocals, Value.category]; done) | rfl
def Qrm4 (Z : State) (p0 : Int32) (p1 : Int32) (h0 : Heap) (n0 : Nat) (v : Option Value) (h : Heap) (L : List Loc) : Prop := v = some (.int ((p0 * (1540483477 : Int32)) ^^^ (((p1 * (1540483477 : Int32)) ^^^ (((p1 * (1540483477 : Int32)).toUInt32 >>> ((24 : Int32) &&& 31).toUInt32).toInt32)) * (1540483477 : Int32)))) ∧ Fr n0 L ∧ h = h0
set_option maxRecDepth 65536 in
set_option maxHeartbeats 40000000 in
theorem rm4 (l : Launch) (Z : State) (A0 : Array Value) (hw : ∀ d ∈ tables_1, d.before A0 Z = true) (ws : List Jvm.Cond) (p0 : Int32) (p1 : Int32) (h0 : Heap) (n0 : Nat) (Z0 : n0 ≤ h0.size) :
    MetFree l (⟨"com/example/parley/parley/client/Murmur2HashPinLaw", "block", "(II)I"⟩ : MethodName) (head1 (Jvm.Cond.code (⟨"com/example/parley/parley/client/Murmur2HashPinLaw", "block", "(II)I"⟩ : MethodName) method_3_code 3 (some .int) :: ws) ({ frames := 0, cells := 0, slots := 0, locals := 0 } : Room)) (fun a U => a = #[(.int p0), (.int p1)] ∧ Z.Warmed39 U.vm ∧ U.heap = h0) (fun _ _ _ _ _ => True) (fun _ U o U' => ∃ v L, o = .returned v ∧ Qrm4 Z p0 p1 h0 n0 v U'.heap L ∧ FrameEnd U o U' L ({ frames := 0, cells := 0, slots := 0, locals := 0 } : Room).cells ({ frames := 0, cells := 0, slots := 0, locals := 0 } : Room).slots) := by
  refine MetFree.of_bodySF (plainFor_of_name pn_4) hisR ?_
  intro p e s m args below meth c s₁ Bd hml0 hP hK
  obtain ⟨rfl, hZ, hh⟩ := hP
  have hx := Bd.exec
  have hby := Bd.bytes
  have hml : c.maxLocals = 3 := hml0
  have hown : s.vm.findClass "com/example/parley/parley/client/Murmur2HashPinLaw" = some m.cls := findClass_of_methodNamed Bd.named
  have hnm := (name_of_methodNamed Bd.named Bd.method).1
  have X0 : Stand p l e ({ frames := 0, cells := 0, slots := 0, locals := 0 } : Room) s m #[(.int p0), (.int p1)] below meth c s₁ [] 0 0 := Stand.of_body Bd
  have e0 : s₁.heap = h0 := by rw [← hh, Bd.state]; rfl
  have N0 := Fr.nil n0
  have K0 : Keep h0 h0 [] := Keep.refl _ _
  have pre0 : ∀ t, Steps p.tables e below (s₁.setTop (mkF m 0 #[.val (.int p0), .val (.int p1), .unset] [])) t → Steps p.tables e below (s₁.setTop (entryFrame m #[(.int p0), (.int p1)] 3)) t := fun t k => castTop (ef_rm4 m p0 p1) k
  obtain ⟨fs, hr, hrun, hended, hW, hsame⟩ := X0.leave (v := some (.int ((p0 * (1540483477 : Int32)) ^^^ (((p1 * (1540483477 : Int32)) ^^^ (((p1 * (1540483477 : Int32)).toUInt32 >>> ((24 : Int32) &&& 31).toUInt32).toInt32)) * (1540483477 : Int32))))) (fun h => by rw [Bd.returns] at h; cases h)
  refine ⟨_, _, pre0 _ ?_, hrun, hended, _, _, rfl, ?_, ⟨_, rfl⟩, hW, hsame.mono (by decide) (by decide)⟩
  · show Steps p.tables e below (s₁.setTop (mkF m 0 #[.val (.int p0), .val (.int p1), .unset] [])) _
    refine XS.iloadN X0.here hx rfl (hb hby d4_0) rfl ?_
    show Steps p.tables e below (s₁.setTop (mkF m 1 #[.val (.int p0), .val (.int p1), .unset] [(.int p1)])) _
    refine X0.ldcInt hx hown (mvT hZ (hw _ (List.mem_of_getElem? (i := 15) rfl))) (g := (mkF m 1 #[.val (.int p0), .val (.int p1), .unset] [(.int p1)])) rfl (hb hby d4_1) _ ?_
    show Steps p.tables e below (s₁.setTop (mkF m 3 #[.val (.int p0), .val (.int p1), .unset] [(.int (1540483477 : Int32)), (.int p1)])) _
    refine XS.imul X0.here hx rfl (hb hby d4_3) rfl ?_
    show Steps p.tables e below (s₁.setTop (mkF m 4 #[.val (.int p0), .val (.int p1), .unset] [(.int (p1 * (1540483477 : Int32)))])) _
    refine XS.istoreN X0.here hx rfl (hb hby d4_4) rfl (l' := #[.val (.int p0), .val (.int p1), .val (.int (p1 * (1540483477 : Int32)))]) rfl ?_
    show Steps p.tables e below (s₁.setTop (mkF m 5 #[.val (.int p0), .val (.int p1), .val (.int (p1 * (1540483477 : Int32)))] [])) _
    refine XS.iloadN X0.here hx rfl (hb hby d4_5) rfl ?_
    show Steps p.tables e below (s₁.setTop (mkF m 6 #[.val (.int p0), .val (.int p1), .val (.int (p1 * (1540483477 : Int32)))] [(.int (p1 * (1540483477 : Int32)))])) _
    refine XS.iloadN X0.here hx rfl (hb hby d4_6) rfl ?_
    show Steps p.tables e below (s₁.setTop (mkF m 7 #[.val (.int p0), .val (.int p1), .val (.int (p1 * (1540483477 : Int32)))] [(.int (p1 * (1540483477 : Int32))), (.int (p1 * (1540483477 : Int32)))])) _
    refine XS.bipush X0.here hx rfl (hb hby d4_7) ?_
    show Steps p.tables e below (s₁.setTop (mkF m 9 #[.val (.int p0), .val (.int p1), .val (.int (p1 * (1540483477 : Int32)))] [(.int (24 : Int32)), (.int (p1 * (1540483477 : Int32))), (.int (p1 * (1540483477 : Int32)))])) _
    refine XS.iushr X0.here hx rfl (hb hby d4_9) rfl ?_
    show Steps p.tables e below (s₁.setTop (mkF m 10 #[.val (.int p0), .val (.int p1), .val (.int (p1 * (1540483477 : Int32)))] [(.int (((p1 * (1540483477 : Int32)).toUInt32 >>> ((24 : Int32) &&& 31).toUInt32).toInt32)), (.int (p1 * (1540483477 : Int32)))])) _
    refine XS.ixor X0.here hx rfl (hb hby d4_10) rfl ?_
    show Steps p.tables e below (s₁.setTop (mkF m 11 #[.val (.int p0), .val (.int p1), .val (.int (p1 * (1540483477 : Int32)))] [(.int ((p1 * (1540483477 : Int32)) ^^^ (((p1 * (1540483477 : Int32)).toUInt32 >>> ((24 : Int32) &&& 31).toUInt32).toInt32)))])) _
    refine XS.istoreN X0.here hx rfl (hb hby d4_11) rfl (l' := #[.val (.int p0), .val (.int p1), .val (.int ((p1 * (1540483477 : Int32)) ^^^ (((p1 * (1540483477 : Int32)).toUInt32 >>> ((24 : Int32) &&& 31).toUInt32).toInt32)))]) rfl ?_
    show Steps p.tables e below (s₁.setTop (mkF m 12 #[.val (.int p0), .val (.int p1), .val (.int ((p1 * (1540483477 : Int32)) ^^^ (((p1 * (1540483477 : Int32)).toUInt32 >>> ((24 : Int32) &&& 31).toUInt32).toInt32)))] [])) _
    refine XS.iloadN X0.here hx rfl (hb hby d4_12) rfl ?_
    show Steps p.tables e below (s₁.setTop (mkF m 13 #[.val (.int p0), .val (.int p1), .val (.int ((p1 * (1540483477 : Int32)) ^^^ (((p1 * (1540483477 : Int32)).toUInt32 >>> ((24 : Int32) &&& 31).toUInt32).toInt32)))] [(.int ((p1 * (1540483477 : Int32)) ^^^ (((p1 * (1540483477 : Int32)).toUInt32 >>> ((24 : Int32) &&& 31).toUInt32).toInt32)))])) _
    refine X0.ldcInt hx hown (mvT hZ (hw _ (List.mem_of_getElem? (i := 15) rfl))) (g := (mkF m 13 #[.val (.int p0), .val (.int p1), .val (.int ((p1 * (1540483477 : Int32)) ^^^ (((p1 * (1540483477 : Int32)).toUInt32 >>> ((24 : Int32) &&& 31).toUInt32).toInt32)))] [(.int ((p1 * (1540483477 : Int32)) ^^^ (((p1 * (1540483477 : Int32)).toUInt32 >>> ((24 : Int32) &&& 31).toUInt32).toInt32)))])) rfl (hb hby d4_13) _ ?_
    show Steps p.tables e below (s₁.setTop (mkF m 15 #[.val (.int p0), .val (.int p1), .val (.int ((p1 * (1540483477 : Int32)) ^^^ (((p1 * (1540483477 : Int32)).toUInt32 >>> ((24 : Int32) &&& 31).toUInt32).toInt32)))] [(.int (1540483477 : Int32)), (.int ((p1 * (1540483477 : Int32)) ^^^ (((p1 * (1540483477 : Int32)).toUInt32 >>> ((24 : Int32) &&& 31).toUInt32).toInt32)))])) _
    refine XS.imul X0.here hx rfl (hb hby d4_15) rfl ?_
    show Steps p.tables e below (s₁.setTop (mkF m 16 #[.val (.int p0), .val (.int p1), .val (.int ((p1 * (1540483477 : Int32)) ^^^ (((p1 * (1540483477 : Int32)).toUInt32 >>> ((24 : Int32) &&& 31).toUInt32).toInt32)))] [(.int (((p1 * (1540483477 : Int32)) ^^^ (((p1 * (1540483477 : Int32)).toUInt32 >>> ((24 : Int32) &&& 31).toUInt32).toInt32)) * (1540483477 : Int32)))])) _
    refine XS.istoreN X0.here hx rfl (hb hby d4_16) rfl (l' := #[.val (.int p0), .val (.int p1), .val (.int (((p1 * (1540483477 : Int32)) ^^^ (((p1 * (1540483477 : Int32)).toUInt32 >>> ((24 : Int32) &&& 31).toUInt32).toInt32)) * (1540483477 : Int32)))]) rfl ?_
    show Steps p.tables e below (s₁.setTop (mkF m 17 #[.val (.int p0), .val (.int p1), .val (.int (((p1 * (1540483477 : Int32)) ^^^ (((p1 * (1540483477 : Int32)).toUInt32 >>> ((24 : Int32) &&& 31).toUInt32).toInt32)) * (1540483477 : Int32)))] [])) _
    refine XS.iloadN X0.here hx rfl (hb hby d4_17) rfl ?_
    show Steps p.tables e below (s₁.setTop (mkF m 18 #[.val (.int p0), .val (.int p1), .val (.int (((p1 * (1540483477 : Int32)) ^^^ (((p1 * (1540483477 : Int32)).toUInt32 >>> ((24 : Int32) &&& 31).toUInt32).toInt32)) * (1540483477 : Int32)))] [(.int p0)])) _
    refine X0.ldcInt hx hown (mvT hZ (hw _ (List.mem_of_getElem? (i := 15) rfl))) (g := (mkF m 18 #[.val (.int p0), .val (.int p1), .val (.int (((p1 * (1540483477 : Int32)) ^^^ (((p1 * (1540483477 : Int32)).toUInt32 >>> ((24 : Int32) &&& 31).toUInt32).toInt32)) * (1540483477 : Int32)))] [(.int p0)])) rfl (hb hby d4_18) _ ?_
    show Steps p.tables e below (s₁.setTop (mkF m 20 #[.val (.int p0), .val (.int p1), .val (.int (((p1 * (1540483477 : Int32)) ^^^ (((p1 * (1540483477 : Int32)).toUInt32 >>> ((24 : Int32) &&& 31).toUInt32).toInt32)) * (1540483477 : Int32)))] [(.int (1540483477 : Int32)), (.int p0)])) _
    refine XS.imul X0.here hx rfl (hb hby d4_20) rfl ?_
    show Steps p.tables e below (s₁.setTop (mkF m 21 #[.val (.int p0), .val (.int p1), .val (.int (((p1 * (1540483477 : Int32)) ^^^ (((p1 * (1540483477 : Int32)).toUInt32 >>> ((24 : Int32) &&& 31).toUInt32).toInt32)) * (1540483477 : Int32)))] [(.int (p0 * (1540483477 : Int32)))])) _
    refine XS.istoreN X0.here hx rfl (hb hby d4_21) rfl (l' := #[.val (.int (p0 * (1540483477 : Int32))), .val (.int p1), .val (.int (((p1 * (1540483477 : Int32)) ^^^ (((p1 * (1540483477 : Int32)).toUInt32 >>> ((24 : Int32) &&& 31).toUInt32).toInt32)) * (1540483477 : Int32)))]) rfl ?_
    show Steps p.tables e below (s₁.setTop (mkF m 22 #[.val (.int (p0 * (1540483477 : Int32))), .val (.int p1), .val (.int (((p1 * (1540483477 : Int32)) ^^^ (((p1 * (1540483477 : Int32)).toUInt32 >>> ((24 : Int32) &&& 31).toUInt32).toInt32)) * (1540483477 : Int32)))] [])) _
    refine XS.iloadN X0.here hx rfl (hb hby d4_22) rfl ?_
    show Steps p.tables e below (s₁.setTop (mkF m 23 #[.val (.int (p0 * (1540483477 : Int32))), .val (.int p1), .val (.int (((p1 * (1540483477 : Int32)) ^^^ (((p1 * (1540483477 : Int32)).toUInt32 >>> ((24 : Int32) &&& 31).toUInt32).toInt32)) * (1540483477 : Int32)))] [(.int (p0 * (1540483477 : Int32)))])) _
    refine XS.iloadN X0.here hx rfl (hb hby d4_23) rfl ?_
    show Steps p.tables e below (s₁.setTop (mkF m 24 #[.val (.int (p0 * (1540483477 : Int32))), .val (.int p1), .val (.int (((p1 * (1540483477 : Int32)) ^^^ (((p1 * (1540483477 : Int32)).toUInt32 >>> ((24 : Int32) &&& 31).toUInt32).toInt32)) * (1540483477 : Int32)))] [(.int (((p1 * (1540483477 : Int32)) ^^^ (((p1 * (1540483477 : Int32)).toUInt32 >>> ((24 : Int32) &&& 31).toUInt32).toInt32)) * (1540483477 : Int32))), (.int (p0 * (1540483477 : Int32)))])) _
    refine XS.ixor X0.here hx rfl (hb hby d4_24) rfl ?_
    show Steps p.tables e below (s₁.setTop (mkF m 25 #[.val (.int (p0 * (1540483477 : Int32))), .val (.int p1), .val (.int (((p1 * (1540483477 : Int32)) ^^^ (((p1 * (1540483477 : Int32)).toUInt32 >>> ((24 : Int32) &&& 31).toUInt32).toInt32)) * (1540483477 : Int32)))] [(.int ((p0 * (1540483477 : Int32)) ^^^ (((p1 * (1540483477 : Int32)) ^^^ (((p1 * (1540483477 : Int32)).toUInt32 >>> ((24 : Int32) &&& 31).toUInt32).toInt32)) * (1540483477 : Int32))))])) _
    refine XS.istoreN X0.here hx rfl (hb hby d4_25) rfl (l' := #[.val (.int ((p0 * (1540483477 : Int32)) ^^^ (((p1 * (1540483477 : Int32)) ^^^ (((p1 * (1540483477 : Int32)).toUInt32 >>> ((24 : Int32) &&& 31).toUInt32).toInt32)) * (1540483477 : Int32)))), .val (.int p1), .val (.int (((p1 * (1540483477 : Int32)) ^^^ (((p1 * (1540483477 : Int32)).toUInt32 >>> ((24 : Int32) &&& 31).toUInt32).toInt32)) * (1540483477 : Int32)))]) rfl ?_
    show Steps p.tables e below (s₁.setTop (mkF m 26 #[.val (.int ((p0 * (1540483477 : Int32)) ^^^ (((p1 * (1540483477 : Int32)) ^^^ (((p1 * (1540483477 : Int32)).toUInt32 >>> ((24 : Int32) &&& 31).toUInt32).toInt32)) * (1540483477 : Int32)))), .val (.int p1), .val (.int (((p1 * (1540483477 : Int32)) ^^^ (((p1 * (1540483477 : Int32)).toUInt32 >>> ((24 : Int32) &&& 31).toUInt32).toInt32)) * (1540483477 : Int32)))] [])) _
    refine XS.iloadN X0.here hx rfl (hb hby d4_26) rfl ?_
    show Steps p.tables e below (s₁.setTop (mkF m 27 #[.val (.int ((p0 * (1540483477 : Int32)) ^^^ (((p1 * (1540483477 : Int32)) ^^^ (((p1 * (1540483477 : Int32)).toUInt32 >>> ((24 : Int32) &&& 31).toUInt32).toInt32)) * (1540483477 : Int32)))), .val (.int p1), .val (.int (((p1 * (1540483477 : Int32)) ^^^ (((p1 * (1540483477 : Int32)).toUInt32 >>> ((24 : Int32) &&& 31).toUInt32).toInt32)) * (1540483477 : Int32)))] [(.int ((p0 * (1540483477 : Int32)) ^^^ (((p1 * (1540483477 : Int32)) ^^^ (((p1 * (1540483477 : Int32)).toUInt32 >>> ((24 : Int32) &&& 31).toUInt32).toInt32)) * (1540483477 : Int32))))])) _
    exact retI X0 hx Bd.returns (hb hby d4_27) hr
  · show Qrm4 Z p0 p1 h0 n0 _ s₁.heap _
    rw [e0]
    exact ⟨rfl, N0, rfl⟩
theorem d2_0 : decode method_5_code 0 = .ok (.iload_n 1, 1) := by decide +kernel
theorem d2_1 : decode method_5_code 1 = .ok (.aload_n 0, 1) := by decide +kernel
theorem d2_2 : decode method_5_code 2 = .ok (.arraylength, 1) := by decide +kernel
theorem d2_3 : decode method_5_code 3 = .ok (.if_icmp .ge 8, 3) := by decide +kernel
theorem d2_6 : decode method_5_code 6 = .ok (.aload_n 0, 1) := by decide +kernel
theorem d2_7 : decode method_5_code 7 = .ok (.iload_n 1, 1) := by decide +kernel
theorem d2_8 : decode method_5_code 8 = .ok (.iload_n 2, 1) := by decide +kernel
theorem d2_9 : decode method_5_code 9 = .ok (.i2b, 1) := by decide +kernel
theorem d2_10 : decode method_5_code 10 = .ok (.bastore, 1) := by decide +kernel
theorem d2_11 : decode method_5_code 11 = .ok (.return_, 1) := by decide +kernel
theorem pn_2 : plainName "com/example/parley/parley/client/Murmur2HashPinLaw" = true := by first | (simp [plainName, overriddenIn]; done) | decide +kernel
theorem ef_rm2 (m : MethodId) (a0 : Addr) (p1 : Int32) (p2 : Int32) : entryFrame m #[(.ref a0), (.int p1), (.int p2)] 3 = mkF m 0 #[.val (.ref a0), .val (.int p1), .val (.int p2)] [] := by first | (simp [entryFrame, mkF, argsToLocals, Value.category]; done) | rfl
def Qrm2 (Z : State) (a0 : Addr) (p1 : Int32) (p2 : Int32) (kk : ClassId) (nn : Int32) (vs : List Value) (dv : Value) (h0 : Heap) (n0 : Nat) (v : Option Value) (h : Heap) (L : List Loc) : Prop := v = none ∧ Fr n0 L ∧ Keep h0 h [a0] ∧ Arv Z h a0 kk .byte nn (vs.set p1.toNatClampNeg (.int (nar .byte (p2.toInt8.toInt32)))) dv
set_option maxRecDepth 65536 in
set_option maxHeartbeats 40000000 in
theorem rm2 (l : Launch) (Z : State) (A0 : Array Value) (hw : ∀ d ∈ tables_1, d.before A0 Z = true) (ws : List Jvm.Cond) (a0 : Addr) (p1 : Int32) (p2 : Int32) (kk : ClassId) (nn : Int32) (vs : List Value) (dv : Value) (h0 : Heap) (n0 : Nat) (Z0 : n0 ≤ h0.size) (V_a0 : Arv Z h0 a0 kk .byte nn vs dv) (g_a0 : n0 ≤ a0) (hp : ¬ (p1 < 0)) (hlen : vs.length = nn.toNatClampNeg) :
    MetFree l (⟨"com/example/parley/parley/client/Murmur2HashPinLaw", "set", "([BII)V"⟩ : MethodName) (head1 (Jvm.Cond.code (⟨"com/example/parley/parley/client/Murmur2HashPinLaw", "set", "([BII)V"⟩ : MethodName) method_5_code 3 none :: ws) ({ frames := 0, cells := 0, slots := 0, locals := 0 } : Room)) (fun a U => a = #[(.ref a0), (.int p1), (.int p2)] ∧ Z.Warmed39 U.vm ∧ U.heap = h0) (fun _ _ _ _ _ => True) (fun _ U o U' => ∃ v L, o = .returned v ∧ Qrm2 Z a0 p1 p2 kk nn vs dv h0 n0 v U'.heap L ∧ FrameEnd U o U' L ({ frames := 0, cells := 0, slots := 0, locals := 0 } : Room).cells ({ frames := 0, cells := 0, slots := 0, locals := 0 } : Room).slots) := by
  refine MetFree.of_bodySF (plainFor_of_name pn_2) hisR ?_
  intro p e s m args below meth c s₁ Bd hml0 hP hK
  obtain ⟨rfl, hZ, hh⟩ := hP
  have hx := Bd.exec
  have hby := Bd.bytes
  have hml : c.maxLocals = 3 := hml0
  have hown : s.vm.findClass "com/example/parley/parley/client/Murmur2HashPinLaw" = some m.cls := findClass_of_methodNamed Bd.named
  have hnm := (name_of_methodNamed Bd.named Bd.method).1
  have X0 : Stand p l e ({ frames := 0, cells := 0, slots := 0, locals := 0 } : Room) s m #[(.ref a0), (.int p1), (.int p2)] below meth c s₁ [] 0 0 := Stand.of_body Bd
  have e0 : s₁.heap = h0 := by rw [← hh, Bd.state]; rfl
  have N0 := Fr.nil n0
  have K0 : Keep h0 h0 [a0] := Keep.refl _ _
  have pre0 : ∀ t, Steps p.tables e below (s₁.setTop (mkF m 0 #[.val (.ref a0), .val (.int p1), .val (.int p2)] [])) t → Steps p.tables e below (s₁.setTop (entryFrame m #[(.ref a0), (.int p1), (.int p2)] 3)) t := fun t k => castTop (ef_rm2 m a0 p1 p2) k
  obtain ⟨cl1, Ar1, -, SS1, MM1, -, -⟩ := id V_a0
  by_cases hc3 : p1 < nn
  · obtain ⟨cl2, Ar2, qq2, SS2, MM2, HH2, GG2⟩ := id V_a0
    have hin2 := inb_of SS2 ⟨hp, hc3⟩
    obtain ⟨T2, h2, X2, e2, W2, st2⟩ := stB X0 hx hZ e0 Ar2 (j := p1) hin2 (g := (mkF m 10 #[.val (.ref a0), .val (.int p1), .val (.int p2)] [(.int (p2.toInt8.toInt32)), (.int p1), (.ref a0)])) rfl rfl (hb hby d2_10)
    have V_a0 : Arv Z h2 a0 kk .byte nn (vs.set p1.toNatClampNeg (.int (nar .byte (p2.toInt8.toInt32)))) dv := Arv.set Ar2 qq2 SS2 MM2 HH2 GG2 (fits_nar_byte _) W2 p1.toNatClampNeg rfl (own_lt hlen hp hc3)
    have Zh2 : n0 ≤ h2.size := Nat.le_trans Z0 (Keep.of_wr W2).1
    have Kh2 : Keep h0 h2 [a0] := K0.wr W2 (Or.inl (by simp))
    have N2 := Fr.snoc X2 N0 g_a0
    obtain ⟨fs, hr, hrun, hended, hW, hsame⟩ := X2.leave (v := none) (fun _ => rfl)
    refine ⟨_, _, pre0 _ ?_, hrun, hended, _, _, rfl, ?_, ⟨_, rfl⟩, hW, hsame.mono (by decide) (by decide)⟩
    · show Steps p.tables e below (s₁.setTop (mkF m 0 #[.val (.ref a0), .val (.int p1), .val (.int p2)] [])) _
      refine XS.iloadN X0.here hx rfl (hb hby d2_0) rfl ?_
      show Steps p.tables e below (s₁.setTop (mkF m 1 #[.val (.ref a0), .val (.int p1), .val (.int p2)] [(.int p1)])) _
      refine XS.aloadN X0.here hx rfl (hb hby d2_1) rfl rfl ?_
      show Steps p.tables e below (s₁.setTop (mkF m 2 #[.val (.ref a0), .val (.int p1), .val (.int p2)] [(.ref a0), (.int p1)])) _
      refine X0.arraylength hx (by rw [e0]; exact Ar1.1) (State.isArrayOf_alike hZ.alike Ar1.2.1) (g := (mkF m 2 #[.val (.ref a0), .val (.int p1), .val (.int p2)] [(.ref a0), (.int p1)])) rfl rfl (hb hby d2_2) _ ?_
      rw [len_of SS1 MM1]
      show Steps p.tables e below (s₁.setTop (mkF m 3 #[.val (.ref a0), .val (.int p1), .val (.int p2)] [(.int nn), (.int p1)])) _
      refine XS.icmpNo X0.here hx rfl (hb hby d2_3) rfl (tlt hc3).2.1 ?_
      show Steps p.tables e below (s₁.setTop (mkF m 6 #[.val (.ref a0), .val (.int p1), .val (.int p2)] [])) _
      refine XS.aloadN X0.here hx rfl (hb hby d2_6) rfl rfl ?_
      show Steps p.tables e below (s₁.setTop (mkF m 7 #[.val (.ref a0), .val (.int p1), .val (.int p2)] [(.ref a0)])) _
      refine XS.iloadN X0.here hx rfl (hb hby d2_7) rfl ?_
      show Steps p.tables e below (s₁.setTop (mkF m 8 #[.val (.ref a0), .val (.int p1), .val (.int p2)] [(.int p1), (.ref a0)])) _
      refine XS.iloadN X0.here hx rfl (hb hby d2_8) rfl ?_
      show Steps p.tables e below (s₁.setTop (mkF m 9 #[.val (.ref a0), .val (.int p1), .val (.int p2)] [(.int p2), (.int p1), (.ref a0)])) _
      refine XS.i2b X0.here hx rfl (hb hby d2_9) rfl ?_
      show Steps p.tables e below (s₁.setTop (mkF m 10 #[.val (.ref a0), .val (.int p1), .val (.int p2)] [(.int (p2.toInt8.toInt32)), (.int p1), (.ref a0)])) _
      refine st2 _ ?_
      show Steps p.tables e below (T2.setTop (mkF m 11 #[.val (.ref a0), .val (.int p1), .val (.int p2)] [])) _
      exact X2.returnOut hx Bd.returns (hb hby d2_11) hr
    · show Qrm2 Z a0 p1 p2 kk nn vs dv h0 n0 _ T2.heap _
      rw [e2]
      exact ⟨rfl, N2, Kh2, V_a0⟩
  · obtain ⟨fs, hr, hrun, hended, hW, hsame⟩ := X0.leave (v := none) (fun _ => rfl)
    refine ⟨_, _, pre0 _ ?_, hrun, hended, _, _, rfl, ?_, ⟨_, rfl⟩, hW, hsame.mono (by decide) (by decide)⟩
    · show Steps p.tables e below (s₁.setTop (mkF m 0 #[.val (.ref a0), .val (.int p1), .val (.int p2)] [])) _
      refine XS.iloadN X0.here hx rfl (hb hby d2_0) rfl ?_
      show Steps p.tables e below (s₁.setTop (mkF m 1 #[.val (.ref a0), .val (.int p1), .val (.int p2)] [(.int p1)])) _
      refine XS.aloadN X0.here hx rfl (hb hby d2_1) rfl rfl ?_
      show Steps p.tables e below (s₁.setTop (mkF m 2 #[.val (.ref a0), .val (.int p1), .val (.int p2)] [(.ref a0), (.int p1)])) _
      refine X0.arraylength hx (by rw [e0]; exact Ar1.1) (State.isArrayOf_alike hZ.alike Ar1.2.1) (g := (mkF m 2 #[.val (.ref a0), .val (.int p1), .val (.int p2)] [(.ref a0), (.int p1)])) rfl rfl (hb hby d2_2) _ ?_
      rw [len_of SS1 MM1]
      show Steps p.tables e below (s₁.setTop (mkF m 3 #[.val (.ref a0), .val (.int p1), .val (.int p2)] [(.int nn), (.int p1)])) _
      refine XS.icmpYes X0.here hx rfl (pc0 := 3) (pc' := 11) rfl (hb hby d2_3) rfl (flt hc3).2.1 (by decide) (by decide) ?_
      show Steps p.tables e below (s₁.setTop (mkF m 11 #[.val (.ref a0), .val (.int p1), .val (.int p2)] [])) _
      exact X0.returnOut hx Bd.returns (hb hby d2_11) hr
    · show Qrm2 Z a0 p1 p2 kk nn vs dv h0 n0 _ s₁.heap _
      rw [e0]
      exact ⟨rfl, N0, K0, by rw [own_out hlen hp hc3]; exact V_a0⟩
theorem pd_0 : parseMethodDescriptor "([BII)V" = some ⟨[(.array .byte), .int, .int], none⟩ := by decide +kernel
theorem d1_0 : decode method_4_code 0 = .ok (.aload_n 0, 1) := by decide +kernel
theorem d1_1 : decode method_4_code 1 = .ok (.iload_n 1, 1) := by decide +kernel
theorem d1_2 : decode method_4_code 2 = .ok (.iload_n 2, 1) := by decide +kernel
theorem d1_3 : decode method_4_code 3 = .ok (.invokestatic 27, 3) := by decide +kernel
theorem d1_6 : decode method_4_code 6 = .ok (.aload_n 0, 1) := by decide +kernel
theorem d1_7 : decode method_4_code 7 = .ok (.iload_n 1, 1) := by decide +kernel
theorem d1_8 : decode method_4_code 8 = .ok (.iconst 1, 1) := by decide +kernel
theorem d1_9 : decode method_4_code 9 = .ok (.iadd, 1) := by decide +kernel
theorem d1_10 : decode method_4_code 10 = .ok (.iload_n 2, 1) := by decide +kernel
theorem d1_11 : decode method_4_code 11 = .ok (.bipush 8, 2) := by decide +kernel
theorem d1_13 : decode method_4_code 13 = .ok (.iushr, 1) := by decide +kernel
theorem d1_14 : decode method_4_code 14 = .ok (.invokestatic 27, 3) := by decide +kernel
theorem d1_17 : decode method_4_code 17 = .ok (.aload_n 0, 1) := by decide +kernel
theorem d1_18 : decode method_4_code 18 = .ok (.iload_n 1, 1) := by decide +kernel
theorem d1_19 : decode method_4_code 19 = .ok (.iconst 2, 1) := by decide +kernel
theorem d1_20 : decode method_4_code 20 = .ok (.iadd, 1) := by decide +kernel
theorem d1_21 : decode method_4_code 21 = .ok (.iload_n 2, 1) := by decide +kernel
theorem d1_22 : decode method_4_code 22 = .ok (.bipush 16, 2) := by decide +kernel
theorem d1_24 : decode method_4_code 24 = .ok (.iushr, 1) := by decide +kernel
theorem d1_25 : decode method_4_code 25 = .ok (.invokestatic 27, 3) := by decide +kernel
theorem d1_28 : decode method_4_code 28 = .ok (.aload_n 0, 1) := by decide +kernel
theorem d1_29 : decode method_4_code 29 = .ok (.iload_n 1, 1) := by decide +kernel
theorem d1_30 : decode method_4_code 30 = .ok (.iconst 3, 1) := by decide +kernel
theorem d1_31 : decode method_4_code 31 = .ok (.iadd, 1) := by decide +kernel
theorem d1_32 : decode method_4_code 32 = .ok (.iload_n 2, 1) := by decide +kernel
theorem d1_33 : decode method_4_code 33 = .ok (.bipush 24, 2) := by decide +kernel
theorem d1_35 : decode method_4_code 35 = .ok (.iushr, 1) := by decide +kernel
theorem d1_36 : decode method_4_code 36 = .ok (.invokestatic 27, 3) := by decide +kernel
theorem d1_39 : decode method_4_code 39 = .ok (.return_, 1) := by decide +kernel
theorem pn_1 : plainName "com/example/parley/parley/client/Murmur2HashPinLaw" = true := by first | (simp [plainName, overriddenIn]; done) | decide +kernel
theorem ef_rm1_0 (m : MethodId) (a0 : Addr) (p2 : Int32) : entryFrame m #[(.ref a0), (.int (0 : Int32)), (.int p2)] 3 = mkF m 0 #[.val (.ref a0), .val (.int (0 : Int32)), .val (.int p2)] [] := by first | (simp [entryFrame, mkF, argsToLocals, Value.category]; done) | rfl
def Qrm1_0 (Z : State) (a0 : Addr) (p2 : Int32) (kk : ClassId) (nn : Int32) (vs : List Value) (dv : Value) (h0 : Heap) (n0 : Nat) (v : Option Value) (h : Heap) (L : List Loc) : Prop := v = none ∧ Fr n0 L ∧ Keep h0 h [a0] ∧ Arv Z h a0 kk .byte nn (own_put vs 0 p2) dv
set_option maxRecDepth 65536 in
set_option maxHeartbeats 40000000 in
theorem rm1_0 (l : Launch) (Z : State) (A0 : Array Value) (hw : ∀ d ∈ tables_1, d.before A0 Z = true) (ws : List Jvm.Cond) (a0 : Addr) (p2 : Int32) (kk : ClassId) (nn : Int32) (vs : List Value) (dv : Value) (h0 : Heap) (n0 : Nat) (Z0 : n0 ≤ h0.size) (V_a0 : Arv Z h0 a0 kk .byte nn vs dv) (g_a0 : n0 ≤ a0) (hlen : vs.length = nn.toNatClampNeg) :
    MetFree l (⟨"com/example/parley/parley/client/Murmur2HashPinLaw", "put", "([BII)V"⟩ : MethodName) (head1 (Jvm.Cond.code (⟨"com/example/parley/parley/client/Murmur2HashPinLaw", "put", "([BII)V"⟩ : MethodName) method_4_code 3 none :: ws) ({ frames := 1, cells := 0, slots := 0, locals := 14 } : Room)) (fun a U => a = #[(.ref a0), (.int (0 : Int32)), (.int p2)] ∧ Z.Warmed39 U.vm ∧ U.heap = h0) (fun _ _ _ _ _ => True) (fun _ U o U' => ∃ v L, o = .returned v ∧ Qrm1_0 Z a0 p2 kk nn vs dv h0 n0 v U'.heap L ∧ FrameEnd U o U' L ({ frames := 1, cells := 0, slots := 0, locals := 14 } : Room).cells ({ frames := 1, cells := 0, slots := 0, locals := 14 } : Room).slots) := by
  refine MetFree.of_bodySF (plainFor_of_name pn_1) hisR ?_
  intro p e s m args below meth c s₁ Bd hml0 hP hK
  obtain ⟨rfl, hZ, hh⟩ := hP
  have hx := Bd.exec
  have hby := Bd.bytes
  have hml : c.maxLocals = 3 := hml0
  have hown : s.vm.findClass "com/example/parley/parley/client/Murmur2HashPinLaw" = some m.cls := findClass_of_methodNamed Bd.named
  have hnm := (name_of_methodNamed Bd.named Bd.method).1
  have X0 : Stand p l e ({ frames := 1, cells := 0, slots := 0, locals := 14 } : Room) s m #[(.ref a0), (.int (0 : Int32)), (.int p2)] below meth c s₁ [] 0 0 := Stand.of_body Bd
  have e0 : s₁.heap = h0 := by rw [← hh, Bd.state]; rfl
  have N0 := Fr.nil n0
  have K0 : Keep h0 h0 [a0] := Keep.refl _ _
  have pre0 : ∀ t, Steps p.tables e below (s₁.setTop (mkF m 0 #[.val (.ref a0), .val (.int (0 : Int32)), .val (.int p2)] [])) t → Steps p.tables e below (s₁.setTop (entryFrame m #[(.ref a0), (.int (0 : Int32)), (.int p2)] 3)) t := fun t k => castTop (ef_rm1_0 m a0 p2) k
  obtain ⟨_, _, ⟨T1, L1, k1, n1⟩, -, X1, ⟨Lc1, hQ1, l1, y1, z1⟩, st1⟩ := Jvm.LawKit.callS X0 hx (y := (⟨"com/example/parley/parley/client/Murmur2HashPinLaw", "set", "([BII)V"⟩ : MethodName)) hown (mvT hZ (hw _ (List.mem_of_getElem? (i := 5) rfl))) (mvT hZ (hw _ (List.mem_of_getElem? (i := 6) rfl))) (mvT hZ (hw _ (List.mem_of_getElem? (i := 3) rfl))) (mvT hZ (hw _ (List.mem_of_getElem? (i := 7) rfl))) (by decide) (backOf (W := 0) (rm2 l Z A0 hw [] a0 (0 : Int32) p2 kk nn vs dv h0 n0 Z0 V_a0 g_a0 (by decide) (by simpa only [List.length_set] using hlen)) hZ (hw _ (List.mem_of_getElem? (i := 7) rfl)) (hw _ (List.mem_of_getElem? (i := 3) rfl)) (by decide) (by decide)) (g := (mkF m 3 #[.val (.ref a0), .val (.int (0 : Int32)), .val (.int p2)] [(.int p2), (.int (0 : Int32)), (.ref a0)])) rfl (by rw [hml]; rfl) (argsL := [(.ref a0), (.int (0 : Int32)), (.int p2)]) (rest := []) (lenOf pd_0 rfl) rfl (by show 2 * 0 + _ ≤ _; exact Nat.le_of_eq rfl) (hb hby d1_3) (fun _ _ => ⟨rfl, e0, (by decide : 0 + 0 ≤ _), (by decide : 0 + 0 ≤ _)⟩)
  dsimp only [Pt.U, Pt.locs, Pt.cells, Pt.slots] at X1 l1 y1 z1 st1 hQ1
  subst l1 y1 z1
  obtain ⟨rfl, N1q, Kc1, P1_0⟩ := hQ1
  have N1 := Fr.app N0 N1q
  have ZT1_heap : n0 ≤ T1.heap.size := Nat.le_trans Z0 Kc1.1
  have KT1_heap : Keep h0 T1.heap [a0] := K0.trans Kc1 (allS (Or.inl (by simp)) all0)
  have V_a0 : Arv Z T1.heap a0 kk .byte nn (vs.set (0 : Int32).toNatClampNeg (.int (nar .byte (p2.toInt8.toInt32)))) dv := P1_0
  obtain ⟨_, _, ⟨T2, L2, k2, n2⟩, -, X2, ⟨Lc2, hQ2, l2, y2, z2⟩, st2⟩ := Jvm.LawKit.callS X1 hx (y := (⟨"com/example/parley/parley/client/Murmur2HashPinLaw", "set", "([BII)V"⟩ : MethodName)) hown (mvT hZ (hw _ (List.mem_of_getElem? (i := 5) rfl))) (mvT hZ (hw _ (List.mem_of_getElem? (i := 6) rfl))) (mvT hZ (hw _ (List.mem_of_getElem? (i := 3) rfl))) (mvT hZ (hw _ (List.mem_of_getElem? (i := 7) rfl))) (by decide) (backOf (W := 0) (rm2 l Z A0 hw [] a0 ((0 : Int32) + (1 : Int32)) ((p2.toUInt32 >>> ((8 : Int32) &&& 31).toUInt32).toInt32) kk nn (vs.set (0 : Int32).toNatClampNeg (.int (nar .byte (p2.toInt8.toInt32)))) dv T1.heap n0 ZT1_heap V_a0 g_a0 (by decide) (by simpa only [List.length_set] using hlen)) hZ (hw _ (List.mem_of_getElem? (i := 7) rfl)) (hw _ (List.mem_of_getElem? (i := 3) rfl)) (by decide) (by decide)) (g := (mkF m 14 #[.val (.ref a0), .val (.int (0 : Int32)), .val (.int p2)] [(.int ((p2.toUInt32 >>> ((8 : Int32) &&& 31).toUInt32).toInt32)), (.int ((0 : Int32) + (1 : Int32))), (.ref a0)])) rfl (by rw [hml]; rfl) (argsL := [(.ref a0), (.int ((0 : Int32) + (1 : Int32))), (.int ((p2.toUInt32 >>> ((8 : Int32) &&& 31).toUInt32).toInt32))]) (rest := []) (lenOf pd_0 rfl) rfl (by show 2 * 0 + _ ≤ _; exact Nat.le_of_eq rfl) (hb hby d1_14) (fun _ _ => ⟨rfl, rfl, (by decide : 0 + 0 ≤ _), (by decide : 0 + 0 ≤ _)⟩)
  dsimp only [Pt.U, Pt.locs, Pt.cells, Pt.slots] at X2 l2 y2 z2 st2 hQ2
  subst l2 y2 z2
  obtain ⟨rfl, N2q, Kc2, P2_0⟩ := hQ2
  have N2 := Fr.app N1 N2q
  have ZT2_heap : n0 ≤ T2.heap.size := Nat.le_trans ZT1_heap Kc2.1
  have KT2_heap : Keep h0 T2.heap [a0] := KT1_heap.trans Kc2 (allS (Or.inl (by simp)) all0)
  have V_a0 : Arv Z T2.heap a0 kk .byte nn ((vs.set (0 : Int32).toNatClampNeg (.int (nar .byte (p2.toInt8.toInt32)))).set ((0 : Int32) + (1 : Int32)).toNatClampNeg (.int (nar .byte (((p2.toUInt32 >>> ((8 : Int32) &&& 31).toUInt32).toInt32).toInt8.toInt32)))) dv := P2_0
  obtain ⟨_, _, ⟨T3, L3, k3, n3⟩, -, X3, ⟨Lc3, hQ3, l3, y3, z3⟩, st3⟩ := Jvm.LawKit.callS X2 hx (y := (⟨"com/example/parley/parley/client/Murmur2HashPinLaw", "set", "([BII)V"⟩ : MethodName)) hown (mvT hZ (hw _ (List.mem_of_getElem? (i := 5) rfl))) (mvT hZ (hw _ (List.mem_of_getElem? (i := 6) rfl))) (mvT hZ (hw _ (List.mem_of_getElem? (i := 3) rfl))) (mvT hZ (hw _ (List.mem_of_getElem? (i := 7) rfl))) (by decide) (backOf (W := 0) (rm2 l Z A0 hw [] a0 ((0 : Int32) + (2 : Int32)) ((p2.toUInt32 >>> ((16 : Int32) &&& 31).toUInt32).toInt32) kk nn ((vs.set (0 : Int32).toNatClampNeg (.int (nar .byte (p2.toInt8.toInt32)))).set ((0 : Int32) + (1 : Int32)).toNatClampNeg (.int (nar .byte (((p2.toUInt32 >>> ((8 : Int32) &&& 31).toUInt32).toInt32).toInt8.toInt32)))) dv T2.heap n0 ZT2_heap V_a0 g_a0 (by decide) (by simpa only [List.length_set] using hlen)) hZ (hw _ (List.mem_of_getElem? (i := 7) rfl)) (hw _ (List.mem_of_getElem? (i := 3) rfl)) (by decide) (by decide)) (g := (mkF m 25 #[.val (.ref a0), .val (.int (0 : Int32)), .val (.int p2)] [(.int ((p2.toUInt32 >>> ((16 : Int32) &&& 31).toUInt32).toInt32)), (.int ((0 : Int32) + (2 : Int32))), (.ref a0)])) rfl (by rw [hml]; rfl) (argsL := [(.ref a0), (.int ((0 : Int32) + (2 : Int32))), (.int ((p2.toUInt32 >>> ((16 : Int32) &&& 31).toUInt32).toInt32))]) (rest := []) (lenOf pd_0 rfl) rfl (by show 2 * 0 + _ ≤ _; exact Nat.le_of_eq rfl) (hb hby d1_25) (fun _ _ => ⟨rfl, rfl, (by decide : 0 + 0 ≤ _), (by decide : 0 + 0 ≤ _)⟩)
  dsimp only [Pt.U, Pt.locs, Pt.cells, Pt.slots] at X3 l3 y3 z3 st3 hQ3
  subst l3 y3 z3
  obtain ⟨rfl, N3q, Kc3, P3_0⟩ := hQ3
  have N3 := Fr.app N2 N3q
  have ZT3_heap : n0 ≤ T3.heap.size := Nat.le_trans ZT2_heap Kc3.1
  have KT3_heap : Keep h0 T3.heap [a0] := KT2_heap.trans Kc3 (allS (Or.inl (by simp)) all0)
  have V_a0 : Arv Z T3.heap a0 kk .byte nn (((vs.set (0 : Int32).toNatClampNeg (.int (nar .byte (p2.toInt8.toInt32)))).set ((0 : Int32) + (1 : Int32)).toNatClampNeg (.int (nar .byte (((p2.toUInt32 >>> ((8 : Int32) &&& 31).toUInt32).toInt32).toInt8.toInt32)))).set ((0 : Int32) + (2 : Int32)).toNatClampNeg (.int (nar .byte (((p2.toUInt32 >>> ((16 : Int32) &&& 31).toUInt32).toInt32).toInt8.toInt32)))) dv := P3_0
  obtain ⟨_, _, ⟨T4, L4, k4, n4⟩, -, X4, ⟨Lc4, hQ4, l4, y4, z4⟩, st4⟩ := Jvm.LawKit.callS X3 hx (y := (⟨"com/example/parley/parley/client/Murmur2HashPinLaw", "set", "([BII)V"⟩ : MethodName)) hown (mvT hZ (hw _ (List.mem_of_getElem? (i := 5) rfl))) (mvT hZ (hw _ (List.mem_of_getElem? (i := 6) rfl))) (mvT hZ (hw _ (List.mem_of_getElem? (i := 3) rfl))) (mvT hZ (hw _ (List.mem_of_getElem? (i := 7) rfl))) (by decide) (backOf (W := 0) (rm2 l Z A0 hw [] a0 ((0 : Int32) + (3 : Int32)) ((p2.toUInt32 >>> ((24 : Int32) &&& 31).toUInt32).toInt32) kk nn (((vs.set (0 : Int32).toNatClampNeg (.int (nar .byte (p2.toInt8.toInt32)))).set ((0 : Int32) + (1 : Int32)).toNatClampNeg (.int (nar .byte (((p2.toUInt32 >>> ((8 : Int32) &&& 31).toUInt32).toInt32).toInt8.toInt32)))).set ((0 : Int32) + (2 : Int32)).toNatClampNeg (.int (nar .byte (((p2.toUInt32 >>> ((16 : Int32) &&& 31).toUInt32).toInt32).toInt8.toInt32)))) dv T3.heap n0 ZT3_heap V_a0 g_a0 (by decide) (by simpa only [List.length_set] using hlen)) hZ (hw _ (List.mem_of_getElem? (i := 7) rfl)) (hw _ (List.mem_of_getElem? (i := 3) rfl)) (by decide) (by decide)) (g := (mkF m 36 #[.val (.ref a0), .val (.int (0 : Int32)), .val (.int p2)] [(.int ((p2.toUInt32 >>> ((24 : Int32) &&& 31).toUInt32).toInt32)), (.int ((0 : Int32) + (3 : Int32))), (.ref a0)])) rfl (by rw [hml]; rfl) (argsL := [(.ref a0), (.int ((0 : Int32) + (3 : Int32))), (.int ((p2.toUInt32 >>> ((24 : Int32) &&& 31).toUInt32).toInt32))]) (rest := []) (lenOf pd_0 rfl) rfl (by show 2 * 0 + _ ≤ _; exact Nat.le_of_eq rfl) (hb hby d1_36) (fun _ _ => ⟨rfl, rfl, (by decide : 0 + 0 ≤ _), (by decide : 0 + 0 ≤ _)⟩)
  dsimp only [Pt.U, Pt.locs, Pt.cells, Pt.slots] at X4 l4 y4 z4 st4 hQ4
  subst l4 y4 z4
  obtain ⟨rfl, N4q, Kc4, P4_0⟩ := hQ4
  have N4 := Fr.app N3 N4q
  have ZT4_heap : n0 ≤ T4.heap.size := Nat.le_trans ZT3_heap Kc4.1
  have KT4_heap : Keep h0 T4.heap [a0] := KT3_heap.trans Kc4 (allS (Or.inl (by simp)) all0)
  have V_a0 : Arv Z T4.heap a0 kk .byte nn ((((vs.set (0 : Int32).toNatClampNeg (.int (nar .byte (p2.toInt8.toInt32)))).set ((0 : Int32) + (1 : Int32)).toNatClampNeg (.int (nar .byte (((p2.toUInt32 >>> ((8 : Int32) &&& 31).toUInt32).toInt32).toInt8.toInt32)))).set ((0 : Int32) + (2 : Int32)).toNatClampNeg (.int (nar .byte (((p2.toUInt32 >>> ((16 : Int32) &&& 31).toUInt32).toInt32).toInt8.toInt32)))).set ((0 : Int32) + (3 : Int32)).toNatClampNeg (.int (nar .byte (((p2.toUInt32 >>> ((24 : Int32) &&& 31).toUInt32).toInt32).toInt8.toInt32)))) dv := P4_0
  obtain ⟨fs, hr, hrun, hended, hW, hsame⟩ := X4.leave (v := none) (fun _ => rfl)
  refine ⟨_, _, pre0 _ ?_, hrun, hended, _, _, rfl, ?_, ⟨_, rfl⟩, hW, hsame.mono (by decide) (by decide)⟩
  · show Steps p.tables e below (s₁.setTop (mkF m 0 #[.val (.ref a0), .val (.int (0 : Int32)), .val (.int p2)] [])) _
    refine XS.aloadN X0.here hx rfl (hb hby d1_0) rfl rfl ?_
    show Steps p.tables e below (s₁.setTop (mkF m 1 #[.val (.ref a0), .val (.int (0 : Int32)), .val (.int p2)] [(.ref a0)])) _
    refine XS.iloadN X0.here hx rfl (hb hby d1_1) rfl ?_
    show Steps p.tables e below (s₁.setTop (mkF m 2 #[.val (.ref a0), .val (.int (0 : Int32)), .val (.int p2)] [(.int (0 : Int32)), (.ref a0)])) _
    refine XS.iloadN X0.here hx rfl (hb hby d1_2) rfl ?_
    show Steps p.tables e below (s₁.setTop (mkF m 3 #[.val (.ref a0), .val (.int (0 : Int32)), .val (.int p2)] [(.int p2), (.int (0 : Int32)), (.ref a0)])) _
    refine st1 _ ?_
    show Steps p.tables e below (T1.setTop (mkF m 6 #[.val (.ref a0), .val (.int (0 : Int32)), .val (.int p2)] [])) _
    refine XS.aloadN X1.here hx rfl (hb hby d1_6) rfl rfl ?_
    show Steps p.tables e below (T1.setTop (mkF m 7 #[.val (.ref a0), .val (.int (0 : Int32)), .val (.int p2)] [(.ref a0)])) _
    refine XS.iloadN X1.here hx rfl (hb hby d1_7) rfl ?_
    show Steps p.tables e below (T1.setTop (mkF m 8 #[.val (.ref a0), .val (.int (0 : Int32)), .val (.int p2)] [(.int (0 : Int32)), (.ref a0)])) _
    refine XS.iconst X1.here hx rfl (hb hby d1_8) ?_
    show Steps p.tables e below (T1.setTop (mkF m 9 #[.val (.ref a0), .val (.int (0 : Int32)), .val (.int p2)] [(.int (1 : Int32)), (.int (0 : Int32)), (.ref a0)])) _
    refine XS.iadd X1.here hx rfl (hb hby d1_9) rfl ?_
    show Steps p.tables e below (T1.setTop (mkF m 10 #[.val (.ref a0), .val (.int (0 : Int32)), .val (.int p2)] [(.int ((0 : Int32) + (1 : Int32))), (.ref a0)])) _
    refine XS.iloadN X1.here hx rfl (hb hby d1_10) rfl ?_
    show Steps p.tables e below (T1.setTop (mkF m 11 #[.val (.ref a0), .val (.int (0 : Int32)), .val (.int p2)] [(.int p2), (.int ((0 : Int32) + (1 : Int32))), (.ref a0)])) _
    refine XS.bipush X1.here hx rfl (hb hby d1_11) ?_
    show Steps p.tables e below (T1.setTop (mkF m 13 #[.val (.ref a0), .val (.int (0 : Int32)), .val (.int p2)] [(.int (8 : Int32)), (.int p2), (.int ((0 : Int32) + (1 : Int32))), (.ref a0)])) _
    refine XS.iushr X1.here hx rfl (hb hby d1_13) rfl ?_
    show Steps p.tables e below (T1.setTop (mkF m 14 #[.val (.ref a0), .val (.int (0 : Int32)), .val (.int p2)] [(.int ((p2.toUInt32 >>> ((8 : Int32) &&& 31).toUInt32).toInt32)), (.int ((0 : Int32) + (1 : Int32))), (.ref a0)])) _
    refine st2 _ ?_
    show Steps p.tables e below (T2.setTop (mkF m 17 #[.val (.ref a0), .val (.int (0 : Int32)), .val (.int p2)] [])) _
    refine XS.aloadN X2.here hx rfl (hb hby d1_17) rfl rfl ?_
    show Steps p.tables e below (T2.setTop (mkF m 18 #[.val (.ref a0), .val (.int (0 : Int32)), .val (.int p2)] [(.ref a0)])) _
    refine XS.iloadN X2.here hx rfl (hb hby d1_18) rfl ?_
    show Steps p.tables e below (T2.setTop (mkF m 19 #[.val (.ref a0), .val (.int (0 : Int32)), .val (.int p2)] [(.int (0 : Int32)), (.ref a0)])) _
    refine XS.iconst X2.here hx rfl (hb hby d1_19) ?_
    show Steps p.tables e below (T2.setTop (mkF m 20 #[.val (.ref a0), .val (.int (0 : Int32)), .val (.int p2)] [(.int (2 : Int32)), (.int (0 : Int32)), (.ref a0)])) _
    refine XS.iadd X2.here hx rfl (hb hby d1_20) rfl ?_
    show Steps p.tables e below (T2.setTop (mkF m 21 #[.val (.ref a0), .val (.int (0 : Int32)), .val (.int p2)] [(.int ((0 : Int32) + (2 : Int32))), (.ref a0)])) _
    refine XS.iloadN X2.here hx rfl (hb hby d1_21) rfl ?_
    show Steps p.tables e below (T2.setTop (mkF m 22 #[.val (.ref a0), .val (.int (0 : Int32)), .val (.int p2)] [(.int p2), (.int ((0 : Int32) + (2 : Int32))), (.ref a0)])) _
    refine XS.bipush X2.here hx rfl (hb hby d1_22) ?_
    show Steps p.tables e below (T2.setTop (mkF m 24 #[.val (.ref a0), .val (.int (0 : Int32)), .val (.int p2)] [(.int (16 : Int32)), (.int p2), (.int ((0 : Int32) + (2 : Int32))), (.ref a0)])) _
    refine XS.iushr X2.here hx rfl (hb hby d1_24) rfl ?_
    show Steps p.tables e below (T2.setTop (mkF m 25 #[.val (.ref a0), .val (.int (0 : Int32)), .val (.int p2)] [(.int ((p2.toUInt32 >>> ((16 : Int32) &&& 31).toUInt32).toInt32)), (.int ((0 : Int32) + (2 : Int32))), (.ref a0)])) _
    refine st3 _ ?_
    show Steps p.tables e below (T3.setTop (mkF m 28 #[.val (.ref a0), .val (.int (0 : Int32)), .val (.int p2)] [])) _
    refine XS.aloadN X3.here hx rfl (hb hby d1_28) rfl rfl ?_
    show Steps p.tables e below (T3.setTop (mkF m 29 #[.val (.ref a0), .val (.int (0 : Int32)), .val (.int p2)] [(.ref a0)])) _
    refine XS.iloadN X3.here hx rfl (hb hby d1_29) rfl ?_
    show Steps p.tables e below (T3.setTop (mkF m 30 #[.val (.ref a0), .val (.int (0 : Int32)), .val (.int p2)] [(.int (0 : Int32)), (.ref a0)])) _
    refine XS.iconst X3.here hx rfl (hb hby d1_30) ?_
    show Steps p.tables e below (T3.setTop (mkF m 31 #[.val (.ref a0), .val (.int (0 : Int32)), .val (.int p2)] [(.int (3 : Int32)), (.int (0 : Int32)), (.ref a0)])) _
    refine XS.iadd X3.here hx rfl (hb hby d1_31) rfl ?_
    show Steps p.tables e below (T3.setTop (mkF m 32 #[.val (.ref a0), .val (.int (0 : Int32)), .val (.int p2)] [(.int ((0 : Int32) + (3 : Int32))), (.ref a0)])) _
    refine XS.iloadN X3.here hx rfl (hb hby d1_32) rfl ?_
    show Steps p.tables e below (T3.setTop (mkF m 33 #[.val (.ref a0), .val (.int (0 : Int32)), .val (.int p2)] [(.int p2), (.int ((0 : Int32) + (3 : Int32))), (.ref a0)])) _
    refine XS.bipush X3.here hx rfl (hb hby d1_33) ?_
    show Steps p.tables e below (T3.setTop (mkF m 35 #[.val (.ref a0), .val (.int (0 : Int32)), .val (.int p2)] [(.int (24 : Int32)), (.int p2), (.int ((0 : Int32) + (3 : Int32))), (.ref a0)])) _
    refine XS.iushr X3.here hx rfl (hb hby d1_35) rfl ?_
    show Steps p.tables e below (T3.setTop (mkF m 36 #[.val (.ref a0), .val (.int (0 : Int32)), .val (.int p2)] [(.int ((p2.toUInt32 >>> ((24 : Int32) &&& 31).toUInt32).toInt32)), (.int ((0 : Int32) + (3 : Int32))), (.ref a0)])) _
    refine st4 _ ?_
    show Steps p.tables e below (T4.setTop (mkF m 39 #[.val (.ref a0), .val (.int (0 : Int32)), .val (.int p2)] [])) _
    exact X4.returnOut hx Bd.returns (hb hby d1_39) hr
  · show Qrm1_0 Z a0 p2 kk nn vs dv h0 n0 _ T4.heap _
    exact ⟨rfl, N4, KT4_heap, V_a0⟩
theorem ef_rm1_4 (m : MethodId) (a0 : Addr) (p2 : Int32) : entryFrame m #[(.ref a0), (.int (4 : Int32)), (.int p2)] 3 = mkF m 0 #[.val (.ref a0), .val (.int (4 : Int32)), .val (.int p2)] [] := by first | (simp [entryFrame, mkF, argsToLocals, Value.category]; done) | rfl
def Qrm1_4 (Z : State) (a0 : Addr) (p2 : Int32) (kk : ClassId) (nn : Int32) (vs : List Value) (dv : Value) (h0 : Heap) (n0 : Nat) (v : Option Value) (h : Heap) (L : List Loc) : Prop := v = none ∧ Fr n0 L ∧ Keep h0 h [a0] ∧ Arv Z h a0 kk .byte nn (own_put vs 4 p2) dv
set_option maxRecDepth 65536 in
set_option maxHeartbeats 40000000 in
theorem rm1_4 (l : Launch) (Z : State) (A0 : Array Value) (hw : ∀ d ∈ tables_1, d.before A0 Z = true) (ws : List Jvm.Cond) (a0 : Addr) (p2 : Int32) (kk : ClassId) (nn : Int32) (vs : List Value) (dv : Value) (h0 : Heap) (n0 : Nat) (Z0 : n0 ≤ h0.size) (V_a0 : Arv Z h0 a0 kk .byte nn vs dv) (g_a0 : n0 ≤ a0) (hlen : vs.length = nn.toNatClampNeg) :
    MetFree l (⟨"com/example/parley/parley/client/Murmur2HashPinLaw", "put", "([BII)V"⟩ : MethodName) (head1 (Jvm.Cond.code (⟨"com/example/parley/parley/client/Murmur2HashPinLaw", "put", "([BII)V"⟩ : MethodName) method_4_code 3 none :: ws) ({ frames := 1, cells := 0, slots := 0, locals := 14 } : Room)) (fun a U => a = #[(.ref a0), (.int (4 : Int32)), (.int p2)] ∧ Z.Warmed39 U.vm ∧ U.heap = h0) (fun _ _ _ _ _ => True) (fun _ U o U' => ∃ v L, o = .returned v ∧ Qrm1_4 Z a0 p2 kk nn vs dv h0 n0 v U'.heap L ∧ FrameEnd U o U' L ({ frames := 1, cells := 0, slots := 0, locals := 14 } : Room).cells ({ frames := 1, cells := 0, slots := 0, locals := 14 } : Room).slots) := by
  refine MetFree.of_bodySF (plainFor_of_name pn_1) hisR ?_
  intro p e s m args below meth c s₁ Bd hml0 hP hK
  obtain ⟨rfl, hZ, hh⟩ := hP
  have hx := Bd.exec
  have hby := Bd.bytes
  have hml : c.maxLocals = 3 := hml0
  have hown : s.vm.findClass "com/example/parley/parley/client/Murmur2HashPinLaw" = some m.cls := findClass_of_methodNamed Bd.named
  have hnm := (name_of_methodNamed Bd.named Bd.method).1
  have X0 : Stand p l e ({ frames := 1, cells := 0, slots := 0, locals := 14 } : Room) s m #[(.ref a0), (.int (4 : Int32)), (.int p2)] below meth c s₁ [] 0 0 := Stand.of_body Bd
  have e0 : s₁.heap = h0 := by rw [← hh, Bd.state]; rfl
  have N0 := Fr.nil n0
  have K0 : Keep h0 h0 [a0] := Keep.refl _ _
  have pre0 : ∀ t, Steps p.tables e below (s₁.setTop (mkF m 0 #[.val (.ref a0), .val (.int (4 : Int32)), .val (.int p2)] [])) t → Steps p.tables e below (s₁.setTop (entryFrame m #[(.ref a0), (.int (4 : Int32)), (.int p2)] 3)) t := fun t k => castTop (ef_rm1_4 m a0 p2) k
  obtain ⟨_, _, ⟨T1, L1, k1, n1⟩, -, X1, ⟨Lc1, hQ1, l1, y1, z1⟩, st1⟩ := Jvm.LawKit.callS X0 hx (y := (⟨"com/example/parley/parley/client/Murmur2HashPinLaw", "set", "([BII)V"⟩ : MethodName)) hown (mvT hZ (hw _ (List.mem_of_getElem? (i := 5) rfl))) (mvT hZ (hw _ (List.mem_of_getElem? (i := 6) rfl))) (mvT hZ (hw _ (List.mem_of_getElem? (i := 3) rfl))) (mvT hZ (hw _ (List.mem_of_getElem? (i := 7) rfl))) (by decide) (backOf (W := 0) (rm2 l Z A0 hw [] a0 (4 : Int32) p2 kk nn vs dv h0 n0 Z0 V_a0 g_a0 (by decide) (by simpa only [List.length_set] using hlen)) hZ (hw _ (List.mem_of_getElem? (i := 7) rfl)) (hw _ (List.mem_of_getElem? (i := 3) rfl)) (by decide) (by decide)) (g := (mkF m 3 #[.val (.ref a0), .val (.int (4 : Int32)), .val (.int p2)] [(.int p2), (.int (4 : Int32)), (.ref a0)])) rfl (by rw [hml]; rfl) (argsL := [(.ref a0), (.int (4 : Int32)), (.int p2)]) (rest := []) (lenOf pd_0 rfl) rfl (by show 2 * 0 + _ ≤ _; exact Nat.le_of_eq rfl) (hb hby d1_3) (fun _ _ => ⟨rfl, e0, (by decide : 0 + 0 ≤ _), (by decide : 0 + 0 ≤ _)⟩)
  dsimp only [Pt.U, Pt.locs, Pt.cells, Pt.slots] at X1 l1 y1 z1 st1 hQ1
  subst l1 y1 z1
  obtain ⟨rfl, N1q, Kc1, P1_0⟩ := hQ1
  have N1 := Fr.app N0 N1q
  have ZT1_heap : n0 ≤ T1.heap.size := Nat.le_trans Z0 Kc1.1
  have KT1_heap : Keep h0 T1.heap [a0] := K0.trans Kc1 (allS (Or.inl (by simp)) all0)
  have V_a0 : Arv Z T1.heap a0 kk .byte nn (vs.set (4 : Int32).toNatClampNeg (.int (nar .byte (p2.toInt8.toInt32)))) dv := P1_0
  obtain ⟨_, _, ⟨T2, L2, k2, n2⟩, -, X2, ⟨Lc2, hQ2, l2, y2, z2⟩, st2⟩ := Jvm.LawKit.callS X1 hx (y := (⟨"com/example/parley/parley/client/Murmur2HashPinLaw", "set", "([BII)V"⟩ : MethodName)) hown (mvT hZ (hw _ (List.mem_of_getElem? (i := 5) rfl))) (mvT hZ (hw _ (List.mem_of_getElem? (i := 6) rfl))) (mvT hZ (hw _ (List.mem_of_getElem? (i := 3) rfl))) (mvT hZ (hw _ (List.mem_of_getElem? (i := 7) rfl))) (by decide) (backOf (W := 0) (rm2 l Z A0 hw [] a0 ((4 : Int32) + (1 : Int32)) ((p2.toUInt32 >>> ((8 : Int32) &&& 31).toUInt32).toInt32) kk nn (vs.set (4 : Int32).toNatClampNeg (.int (nar .byte (p2.toInt8.toInt32)))) dv T1.heap n0 ZT1_heap V_a0 g_a0 (by decide) (by simpa only [List.length_set] using hlen)) hZ (hw _ (List.mem_of_getElem? (i := 7) rfl)) (hw _ (List.mem_of_getElem? (i := 3) rfl)) (by decide) (by decide)) (g := (mkF m 14 #[.val (.ref a0), .val (.int (4 : Int32)), .val (.int p2)] [(.int ((p2.toUInt32 >>> ((8 : Int32) &&& 31).toUInt32).toInt32)), (.int ((4 : Int32) + (1 : Int32))), (.ref a0)])) rfl (by rw [hml]; rfl) (argsL := [(.ref a0), (.int ((4 : Int32) + (1 : Int32))), (.int ((p2.toUInt32 >>> ((8 : Int32) &&& 31).toUInt32).toInt32))]) (rest := []) (lenOf pd_0 rfl) rfl (by show 2 * 0 + _ ≤ _; exact Nat.le_of_eq rfl) (hb hby d1_14) (fun _ _ => ⟨rfl, rfl, (by decide : 0 + 0 ≤ _), (by decide : 0 + 0 ≤ _)⟩)
  dsimp only [Pt.U, Pt.locs, Pt.cells, Pt.slots] at X2 l2 y2 z2 st2 hQ2
  subst l2 y2 z2
  obtain ⟨rfl, N2q, Kc2, P2_0⟩ := hQ2
  have N2 := Fr.app N1 N2q
  have ZT2_heap : n0 ≤ T2.heap.size := Nat.le_trans ZT1_heap Kc2.1
  have KT2_heap : Keep h0 T2.heap [a0] := KT1_heap.trans Kc2 (allS (Or.inl (by simp)) all0)
  have V_a0 : Arv Z T2.heap a0 kk .byte nn ((vs.set (4 : Int32).toNatClampNeg (.int (nar .byte (p2.toInt8.toInt32)))).set ((4 : Int32) + (1 : Int32)).toNatClampNeg (.int (nar .byte (((p2.toUInt32 >>> ((8 : Int32) &&& 31).toUInt32).toInt32).toInt8.toInt32)))) dv := P2_0
  obtain ⟨_, _, ⟨T3, L3, k3, n3⟩, -, X3, ⟨Lc3, hQ3, l3, y3, z3⟩, st3⟩ := Jvm.LawKit.callS X2 hx (y := (⟨"com/example/parley/parley/client/Murmur2HashPinLaw", "set", "([BII)V"⟩ : MethodName)) hown (mvT hZ (hw _ (List.mem_of_getElem? (i := 5) rfl))) (mvT hZ (hw _ (List.mem_of_getElem? (i := 6) rfl))) (mvT hZ (hw _ (List.mem_of_getElem? (i := 3) rfl))) (mvT hZ (hw _ (List.mem_of_getElem? (i := 7) rfl))) (by decide) (backOf (W := 0) (rm2 l Z A0 hw [] a0 ((4 : Int32) + (2 : Int32)) ((p2.toUInt32 >>> ((16 : Int32) &&& 31).toUInt32).toInt32) kk nn ((vs.set (4 : Int32).toNatClampNeg (.int (nar .byte (p2.toInt8.toInt32)))).set ((4 : Int32) + (1 : Int32)).toNatClampNeg (.int (nar .byte (((p2.toUInt32 >>> ((8 : Int32) &&& 31).toUInt32).toInt32).toInt8.toInt32)))) dv T2.heap n0 ZT2_heap V_a0 g_a0 (by decide) (by simpa only [List.length_set] using hlen)) hZ (hw _ (List.mem_of_getElem? (i := 7) rfl)) (hw _ (List.mem_of_getElem? (i := 3) rfl)) (by decide) (by decide)) (g := (mkF m 25 #[.val (.ref a0), .val (.int (4 : Int32)), .val (.int p2)] [(.int ((p2.toUInt32 >>> ((16 : Int32) &&& 31).toUInt32).toInt32)), (.int ((4 : Int32) + (2 : Int32))), (.ref a0)])) rfl (by rw [hml]; rfl) (argsL := [(.ref a0), (.int ((4 : Int32) + (2 : Int32))), (.int ((p2.toUInt32 >>> ((16 : Int32) &&& 31).toUInt32).toInt32))]) (rest := []) (lenOf pd_0 rfl) rfl (by show 2 * 0 + _ ≤ _; exact Nat.le_of_eq rfl) (hb hby d1_25) (fun _ _ => ⟨rfl, rfl, (by decide : 0 + 0 ≤ _), (by decide : 0 + 0 ≤ _)⟩)
  dsimp only [Pt.U, Pt.locs, Pt.cells, Pt.slots] at X3 l3 y3 z3 st3 hQ3
  subst l3 y3 z3
  obtain ⟨rfl, N3q, Kc3, P3_0⟩ := hQ3
  have N3 := Fr.app N2 N3q
  have ZT3_heap : n0 ≤ T3.heap.size := Nat.le_trans ZT2_heap Kc3.1
  have KT3_heap : Keep h0 T3.heap [a0] := KT2_heap.trans Kc3 (allS (Or.inl (by simp)) all0)
  have V_a0 : Arv Z T3.heap a0 kk .byte nn (((vs.set (4 : Int32).toNatClampNeg (.int (nar .byte (p2.toInt8.toInt32)))).set ((4 : Int32) + (1 : Int32)).toNatClampNeg (.int (nar .byte (((p2.toUInt32 >>> ((8 : Int32) &&& 31).toUInt32).toInt32).toInt8.toInt32)))).set ((4 : Int32) + (2 : Int32)).toNatClampNeg (.int (nar .byte (((p2.toUInt32 >>> ((16 : Int32) &&& 31).toUInt32).toInt32).toInt8.toInt32)))) dv := P3_0
  obtain ⟨_, _, ⟨T4, L4, k4, n4⟩, -, X4, ⟨Lc4, hQ4, l4, y4, z4⟩, st4⟩ := Jvm.LawKit.callS X3 hx (y := (⟨"com/example/parley/parley/client/Murmur2HashPinLaw", "set", "([BII)V"⟩ : MethodName)) hown (mvT hZ (hw _ (List.mem_of_getElem? (i := 5) rfl))) (mvT hZ (hw _ (List.mem_of_getElem? (i := 6) rfl))) (mvT hZ (hw _ (List.mem_of_getElem? (i := 3) rfl))) (mvT hZ (hw _ (List.mem_of_getElem? (i := 7) rfl))) (by decide) (backOf (W := 0) (rm2 l Z A0 hw [] a0 ((4 : Int32) + (3 : Int32)) ((p2.toUInt32 >>> ((24 : Int32) &&& 31).toUInt32).toInt32) kk nn (((vs.set (4 : Int32).toNatClampNeg (.int (nar .byte (p2.toInt8.toInt32)))).set ((4 : Int32) + (1 : Int32)).toNatClampNeg (.int (nar .byte (((p2.toUInt32 >>> ((8 : Int32) &&& 31).toUInt32).toInt32).toInt8.toInt32)))).set ((4 : Int32) + (2 : Int32)).toNatClampNeg (.int (nar .byte (((p2.toUInt32 >>> ((16 : Int32) &&& 31).toUInt32).toInt32).toInt8.toInt32)))) dv T3.heap n0 ZT3_heap V_a0 g_a0 (by decide) (by simpa only [List.length_set] using hlen)) hZ (hw _ (List.mem_of_getElem? (i := 7) rfl)) (hw _ (List.mem_of_getElem? (i := 3) rfl)) (by decide) (by decide)) (g := (mkF m 36 #[.val (.ref a0), .val (.int (4 : Int32)), .val (.int p2)] [(.int ((p2.toUInt32 >>> ((24 : Int32) &&& 31).toUInt32).toInt32)), (.int ((4 : Int32) + (3 : Int32))), (.ref a0)])) rfl (by rw [hml]; rfl) (argsL := [(.ref a0), (.int ((4 : Int32) + (3 : Int32))), (.int ((p2.toUInt32 >>> ((24 : Int32) &&& 31).toUInt32).toInt32))]) (rest := []) (lenOf pd_0 rfl) rfl (by show 2 * 0 + _ ≤ _; exact Nat.le_of_eq rfl) (hb hby d1_36) (fun _ _ => ⟨rfl, rfl, (by decide : 0 + 0 ≤ _), (by decide : 0 + 0 ≤ _)⟩)
  dsimp only [Pt.U, Pt.locs, Pt.cells, Pt.slots] at X4 l4 y4 z4 st4 hQ4
  subst l4 y4 z4
  obtain ⟨rfl, N4q, Kc4, P4_0⟩ := hQ4
  have N4 := Fr.app N3 N4q
  have ZT4_heap : n0 ≤ T4.heap.size := Nat.le_trans ZT3_heap Kc4.1
  have KT4_heap : Keep h0 T4.heap [a0] := KT3_heap.trans Kc4 (allS (Or.inl (by simp)) all0)
  have V_a0 : Arv Z T4.heap a0 kk .byte nn ((((vs.set (4 : Int32).toNatClampNeg (.int (nar .byte (p2.toInt8.toInt32)))).set ((4 : Int32) + (1 : Int32)).toNatClampNeg (.int (nar .byte (((p2.toUInt32 >>> ((8 : Int32) &&& 31).toUInt32).toInt32).toInt8.toInt32)))).set ((4 : Int32) + (2 : Int32)).toNatClampNeg (.int (nar .byte (((p2.toUInt32 >>> ((16 : Int32) &&& 31).toUInt32).toInt32).toInt8.toInt32)))).set ((4 : Int32) + (3 : Int32)).toNatClampNeg (.int (nar .byte (((p2.toUInt32 >>> ((24 : Int32) &&& 31).toUInt32).toInt32).toInt8.toInt32)))) dv := P4_0
  obtain ⟨fs, hr, hrun, hended, hW, hsame⟩ := X4.leave (v := none) (fun _ => rfl)
  refine ⟨_, _, pre0 _ ?_, hrun, hended, _, _, rfl, ?_, ⟨_, rfl⟩, hW, hsame.mono (by decide) (by decide)⟩
  · show Steps p.tables e below (s₁.setTop (mkF m 0 #[.val (.ref a0), .val (.int (4 : Int32)), .val (.int p2)] [])) _
    refine XS.aloadN X0.here hx rfl (hb hby d1_0) rfl rfl ?_
    show Steps p.tables e below (s₁.setTop (mkF m 1 #[.val (.ref a0), .val (.int (4 : Int32)), .val (.int p2)] [(.ref a0)])) _
    refine XS.iloadN X0.here hx rfl (hb hby d1_1) rfl ?_
    show Steps p.tables e below (s₁.setTop (mkF m 2 #[.val (.ref a0), .val (.int (4 : Int32)), .val (.int p2)] [(.int (4 : Int32)), (.ref a0)])) _
    refine XS.iloadN X0.here hx rfl (hb hby d1_2) rfl ?_
    show Steps p.tables e below (s₁.setTop (mkF m 3 #[.val (.ref a0), .val (.int (4 : Int32)), .val (.int p2)] [(.int p2), (.int (4 : Int32)), (.ref a0)])) _
    refine st1 _ ?_
    show Steps p.tables e below (T1.setTop (mkF m 6 #[.val (.ref a0), .val (.int (4 : Int32)), .val (.int p2)] [])) _
    refine XS.aloadN X1.here hx rfl (hb hby d1_6) rfl rfl ?_
    show Steps p.tables e below (T1.setTop (mkF m 7 #[.val (.ref a0), .val (.int (4 : Int32)), .val (.int p2)] [(.ref a0)])) _
    refine XS.iloadN X1.here hx rfl (hb hby d1_7) rfl ?_
    show Steps p.tables e below (T1.setTop (mkF m 8 #[.val (.ref a0), .val (.int (4 : Int32)), .val (.int p2)] [(.int (4 : Int32)), (.ref a0)])) _
    refine XS.iconst X1.here hx rfl (hb hby d1_8) ?_
    show Steps p.tables e below (T1.setTop (mkF m 9 #[.val (.ref a0), .val (.int (4 : Int32)), .val (.int p2)] [(.int (1 : Int32)), (.int (4 : Int32)), (.ref a0)])) _
    refine XS.iadd X1.here hx rfl (hb hby d1_9) rfl ?_
    show Steps p.tables e below (T1.setTop (mkF m 10 #[.val (.ref a0), .val (.int (4 : Int32)), .val (.int p2)] [(.int ((4 : Int32) + (1 : Int32))), (.ref a0)])) _
    refine XS.iloadN X1.here hx rfl (hb hby d1_10) rfl ?_
    show Steps p.tables e below (T1.setTop (mkF m 11 #[.val (.ref a0), .val (.int (4 : Int32)), .val (.int p2)] [(.int p2), (.int ((4 : Int32) + (1 : Int32))), (.ref a0)])) _
    refine XS.bipush X1.here hx rfl (hb hby d1_11) ?_
    show Steps p.tables e below (T1.setTop (mkF m 13 #[.val (.ref a0), .val (.int (4 : Int32)), .val (.int p2)] [(.int (8 : Int32)), (.int p2), (.int ((4 : Int32) + (1 : Int32))), (.ref a0)])) _
    refine XS.iushr X1.here hx rfl (hb hby d1_13) rfl ?_
    show Steps p.tables e below (T1.setTop (mkF m 14 #[.val (.ref a0), .val (.int (4 : Int32)), .val (.int p2)] [(.int ((p2.toUInt32 >>> ((8 : Int32) &&& 31).toUInt32).toInt32)), (.int ((4 : Int32) + (1 : Int32))), (.ref a0)])) _
    refine st2 _ ?_
    show Steps p.tables e below (T2.setTop (mkF m 17 #[.val (.ref a0), .val (.int (4 : Int32)), .val (.int p2)] [])) _
    refine XS.aloadN X2.here hx rfl (hb hby d1_17) rfl rfl ?_
    show Steps p.tables e below (T2.setTop (mkF m 18 #[.val (.ref a0), .val (.int (4 : Int32)), .val (.int p2)] [(.ref a0)])) _
    refine XS.iloadN X2.here hx rfl (hb hby d1_18) rfl ?_
    show Steps p.tables e below (T2.setTop (mkF m 19 #[.val (.ref a0), .val (.int (4 : Int32)), .val (.int p2)] [(.int (4 : Int32)), (.ref a0)])) _
    refine XS.iconst X2.here hx rfl (hb hby d1_19) ?_
    show Steps p.tables e below (T2.setTop (mkF m 20 #[.val (.ref a0), .val (.int (4 : Int32)), .val (.int p2)] [(.int (2 : Int32)), (.int (4 : Int32)), (.ref a0)])) _
    refine XS.iadd X2.here hx rfl (hb hby d1_20) rfl ?_
    show Steps p.tables e below (T2.setTop (mkF m 21 #[.val (.ref a0), .val (.int (4 : Int32)), .val (.int p2)] [(.int ((4 : Int32) + (2 : Int32))), (.ref a0)])) _
    refine XS.iloadN X2.here hx rfl (hb hby d1_21) rfl ?_
    show Steps p.tables e below (T2.setTop (mkF m 22 #[.val (.ref a0), .val (.int (4 : Int32)), .val (.int p2)] [(.int p2), (.int ((4 : Int32) + (2 : Int32))), (.ref a0)])) _
    refine XS.bipush X2.here hx rfl (hb hby d1_22) ?_
    show Steps p.tables e below (T2.setTop (mkF m 24 #[.val (.ref a0), .val (.int (4 : Int32)), .val (.int p2)] [(.int (16 : Int32)), (.int p2), (.int ((4 : Int32) + (2 : Int32))), (.ref a0)])) _
    refine XS.iushr X2.here hx rfl (hb hby d1_24) rfl ?_
    show Steps p.tables e below (T2.setTop (mkF m 25 #[.val (.ref a0), .val (.int (4 : Int32)), .val (.int p2)] [(.int ((p2.toUInt32 >>> ((16 : Int32) &&& 31).toUInt32).toInt32)), (.int ((4 : Int32) + (2 : Int32))), (.ref a0)])) _
    refine st3 _ ?_
    show Steps p.tables e below (T3.setTop (mkF m 28 #[.val (.ref a0), .val (.int (4 : Int32)), .val (.int p2)] [])) _
    refine XS.aloadN X3.here hx rfl (hb hby d1_28) rfl rfl ?_
    show Steps p.tables e below (T3.setTop (mkF m 29 #[.val (.ref a0), .val (.int (4 : Int32)), .val (.int p2)] [(.ref a0)])) _
    refine XS.iloadN X3.here hx rfl (hb hby d1_29) rfl ?_
    show Steps p.tables e below (T3.setTop (mkF m 30 #[.val (.ref a0), .val (.int (4 : Int32)), .val (.int p2)] [(.int (4 : Int32)), (.ref a0)])) _
    refine XS.iconst X3.here hx rfl (hb hby d1_30) ?_
    show Steps p.tables e below (T3.setTop (mkF m 31 #[.val (.ref a0), .val (.int (4 : Int32)), .val (.int p2)] [(.int (3 : Int32)), (.int (4 : Int32)), (.ref a0)])) _
    refine XS.iadd X3.here hx rfl (hb hby d1_31) rfl ?_
    show Steps p.tables e below (T3.setTop (mkF m 32 #[.val (.ref a0), .val (.int (4 : Int32)), .val (.int p2)] [(.int ((4 : Int32) + (3 : Int32))), (.ref a0)])) _
    refine XS.iloadN X3.here hx rfl (hb hby d1_32) rfl ?_
    show Steps p.tables e below (T3.setTop (mkF m 33 #[.val (.ref a0), .val (.int (4 : Int32)), .val (.int p2)] [(.int p2), (.int ((4 : Int32) + (3 : Int32))), (.ref a0)])) _
    refine XS.bipush X3.here hx rfl (hb hby d1_33) ?_
    show Steps p.tables e below (T3.setTop (mkF m 35 #[.val (.ref a0), .val (.int (4 : Int32)), .val (.int p2)] [(.int (24 : Int32)), (.int p2), (.int ((4 : Int32) + (3 : Int32))), (.ref a0)])) _
    refine XS.iushr X3.here hx rfl (hb hby d1_35) rfl ?_
    show Steps p.tables e below (T3.setTop (mkF m 36 #[.val (.ref a0), .val (.int (4 : Int32)), .val (.int p2)] [(.int ((p2.toUInt32 >>> ((24 : Int32) &&& 31).toUInt32).toInt32)), (.int ((4 : Int32) + (3 : Int32))), (.ref a0)])) _
    refine st4 _ ?_
    show Steps p.tables e below (T4.setTop (mkF m 39 #[.val (.ref a0), .val (.int (4 : Int32)), .val (.int p2)] [])) _
    exact X4.returnOut hx Bd.returns (hb hby d1_39) hr
  · show Qrm1_4 Z a0 p2 kk nn vs dv h0 n0 _ T4.heap _
    exact ⟨rfl, N4, KT4_heap, V_a0⟩
theorem ef_rm1_8 (m : MethodId) (a0 : Addr) (p2 : Int32) : entryFrame m #[(.ref a0), (.int (8 : Int32)), (.int p2)] 3 = mkF m 0 #[.val (.ref a0), .val (.int (8 : Int32)), .val (.int p2)] [] := by first | (simp [entryFrame, mkF, argsToLocals, Value.category]; done) | rfl
def Qrm1_8 (Z : State) (a0 : Addr) (p2 : Int32) (kk : ClassId) (nn : Int32) (vs : List Value) (dv : Value) (h0 : Heap) (n0 : Nat) (v : Option Value) (h : Heap) (L : List Loc) : Prop := v = none ∧ Fr n0 L ∧ Keep h0 h [a0] ∧ Arv Z h a0 kk .byte nn (own_put vs 8 p2) dv
set_option maxRecDepth 65536 in
set_option maxHeartbeats 40000000 in
theorem rm1_8 (l : Launch) (Z : State) (A0 : Array Value) (hw : ∀ d ∈ tables_1, d.before A0 Z = true) (ws : List Jvm.Cond) (a0 : Addr) (p2 : Int32) (kk : ClassId) (nn : Int32) (vs : List Value) (dv : Value) (h0 : Heap) (n0 : Nat) (Z0 : n0 ≤ h0.size) (V_a0 : Arv Z h0 a0 kk .byte nn vs dv) (g_a0 : n0 ≤ a0) (hlen : vs.length = nn.toNatClampNeg) :
    MetFree l (⟨"com/example/parley/parley/client/Murmur2HashPinLaw", "put", "([BII)V"⟩ : MethodName) (head1 (Jvm.Cond.code (⟨"com/example/parley/parley/client/Murmur2HashPinLaw", "put", "([BII)V"⟩ : MethodName) method_4_code 3 none :: ws) ({ frames := 1, cells := 0, slots := 0, locals := 14 } : Room)) (fun a U => a = #[(.ref a0), (.int (8 : Int32)), (.int p2)] ∧ Z.Warmed39 U.vm ∧ U.heap = h0) (fun _ _ _ _ _ => True) (fun _ U o U' => ∃ v L, o = .returned v ∧ Qrm1_8 Z a0 p2 kk nn vs dv h0 n0 v U'.heap L ∧ FrameEnd U o U' L ({ frames := 1, cells := 0, slots := 0, locals := 14 } : Room).cells ({ frames := 1, cells := 0, slots := 0, locals := 14 } : Room).slots) := by
  refine MetFree.of_bodySF (plainFor_of_name pn_1) hisR ?_
  intro p e s m args below meth c s₁ Bd hml0 hP hK
  obtain ⟨rfl, hZ, hh⟩ := hP
  have hx := Bd.exec
  have hby := Bd.bytes
  have hml : c.maxLocals = 3 := hml0
  have hown : s.vm.findClass "com/example/parley/parley/client/Murmur2HashPinLaw" = some m.cls := findClass_of_methodNamed Bd.named
  have hnm := (name_of_methodNamed Bd.named Bd.method).1
  have X0 : Stand p l e ({ frames := 1, cells := 0, slots := 0, locals := 14 } : Room) s m #[(.ref a0), (.int (8 : Int32)), (.int p2)] below meth c s₁ [] 0 0 := Stand.of_body Bd
  have e0 : s₁.heap = h0 := by rw [← hh, Bd.state]; rfl
  have N0 := Fr.nil n0
  have K0 : Keep h0 h0 [a0] := Keep.refl _ _
  have pre0 : ∀ t, Steps p.tables e below (s₁.setTop (mkF m 0 #[.val (.ref a0), .val (.int (8 : Int32)), .val (.int p2)] [])) t → Steps p.tables e below (s₁.setTop (entryFrame m #[(.ref a0), (.int (8 : Int32)), (.int p2)] 3)) t := fun t k => castTop (ef_rm1_8 m a0 p2) k
  obtain ⟨_, _, ⟨T1, L1, k1, n1⟩, -, X1, ⟨Lc1, hQ1, l1, y1, z1⟩, st1⟩ := Jvm.LawKit.callS X0 hx (y := (⟨"com/example/parley/parley/client/Murmur2HashPinLaw", "set", "([BII)V"⟩ : MethodName)) hown (mvT hZ (hw _ (List.mem_of_getElem? (i := 5) rfl))) (mvT hZ (hw _ (List.mem_of_getElem? (i := 6) rfl))) (mvT hZ (hw _ (List.mem_of_getElem? (i := 3) rfl))) (mvT hZ (hw _ (List.mem_of_getElem? (i := 7) rfl))) (by decide) (backOf (W := 0) (rm2 l Z A0 hw [] a0 (8 : Int32) p2 kk nn vs dv h0 n0 Z0 V_a0 g_a0 (by decide) (by simpa only [List.length_set] using hlen)) hZ (hw _ (List.mem_of_getElem? (i := 7) rfl)) (hw _ (List.mem_of_getElem? (i := 3) rfl)) (by decide) (by decide)) (g := (mkF m 3 #[.val (.ref a0), .val (.int (8 : Int32)), .val (.int p2)] [(.int p2), (.int (8 : Int32)), (.ref a0)])) rfl (by rw [hml]; rfl) (argsL := [(.ref a0), (.int (8 : Int32)), (.int p2)]) (rest := []) (lenOf pd_0 rfl) rfl (by show 2 * 0 + _ ≤ _; exact Nat.le_of_eq rfl) (hb hby d1_3) (fun _ _ => ⟨rfl, e0, (by decide : 0 + 0 ≤ _), (by decide : 0 + 0 ≤ _)⟩)
  dsimp only [Pt.U, Pt.locs, Pt.cells, Pt.slots] at X1 l1 y1 z1 st1 hQ1
  subst l1 y1 z1
  obtain ⟨rfl, N1q, Kc1, P1_0⟩ := hQ1
  have N1 := Fr.app N0 N1q
  have ZT1_heap : n0 ≤ T1.heap.size := Nat.le_trans Z0 Kc1.1
  have KT1_heap : Keep h0 T1.heap [a0] := K0.trans Kc1 (allS (Or.inl (by simp)) all0)
  have V_a0 : Arv Z T1.heap a0 kk .byte nn (vs.set (8 : Int32).toNatClampNeg (.int (nar .byte (p2.toInt8.toInt32)))) dv := P1_0
  obtain ⟨_, _, ⟨T2, L2, k2, n2⟩, -, X2, ⟨Lc2, hQ2, l2, y2, z2⟩, st2⟩ := Jvm.LawKit.callS X1 hx (y := (⟨"com/example/parley/parley/client/Murmur2HashPinLaw", "set", "([BII)V"⟩ : MethodName)) hown (mvT hZ (hw _ (List.mem_of_getElem? (i := 5) rfl))) (mvT hZ (hw _ (List.mem_of_getElem? (i := 6) rfl))) (mvT hZ (hw _ (List.mem_of_getElem? (i := 3) rfl))) (mvT hZ (hw _ (List.mem_of_getElem? (i := 7) rfl))) (by decide) (backOf (W := 0) (rm2 l Z A0 hw [] a0 ((8 : Int32) + (1 : Int32)) ((p2.toUInt32 >>> ((8 : Int32) &&& 31).toUInt32).toInt32) kk nn (vs.set (8 : Int32).toNatClampNeg (.int (nar .byte (p2.toInt8.toInt32)))) dv T1.heap n0 ZT1_heap V_a0 g_a0 (by decide) (by simpa only [List.length_set] using hlen)) hZ (hw _ (List.mem_of_getElem? (i := 7) rfl)) (hw _ (List.mem_of_getElem? (i := 3) rfl)) (by decide) (by decide)) (g := (mkF m 14 #[.val (.ref a0), .val (.int (8 : Int32)), .val (.int p2)] [(.int ((p2.toUInt32 >>> ((8 : Int32) &&& 31).toUInt32).toInt32)), (.int ((8 : Int32) + (1 : Int32))), (.ref a0)])) rfl (by rw [hml]; rfl) (argsL := [(.ref a0), (.int ((8 : Int32) + (1 : Int32))), (.int ((p2.toUInt32 >>> ((8 : Int32) &&& 31).toUInt32).toInt32))]) (rest := []) (lenOf pd_0 rfl) rfl (by show 2 * 0 + _ ≤ _; exact Nat.le_of_eq rfl) (hb hby d1_14) (fun _ _ => ⟨rfl, rfl, (by decide : 0 + 0 ≤ _), (by decide : 0 + 0 ≤ _)⟩)
  dsimp only [Pt.U, Pt.locs, Pt.cells, Pt.slots] at X2 l2 y2 z2 st2 hQ2
  subst l2 y2 z2
  obtain ⟨rfl, N2q, Kc2, P2_0⟩ := hQ2
  have N2 := Fr.app N1 N2q
  have ZT2_heap : n0 ≤ T2.heap.size := Nat.le_trans ZT1_heap Kc2.1
  have KT2_heap : Keep h0 T2.heap [a0] := KT1_heap.trans Kc2 (allS (Or.inl (by simp)) all0)
  have V_a0 : Arv Z T2.heap a0 kk .byte nn ((vs.set (8 : Int32).toNatClampNeg (.int (nar .byte (p2.toInt8.toInt32)))).set ((8 : Int32) + (1 : Int32)).toNatClampNeg (.int (nar .byte (((p2.toUInt32 >>> ((8 : Int32) &&& 31).toUInt32).toInt32).toInt8.toInt32)))) dv := P2_0
  obtain ⟨_, _, ⟨T3, L3, k3, n3⟩, -, X3, ⟨Lc3, hQ3, l3, y3, z3⟩, st3⟩ := Jvm.LawKit.callS X2 hx (y := (⟨"com/example/parley/parley/client/Murmur2HashPinLaw", "set", "([BII)V"⟩ : MethodName)) hown (mvT hZ (hw _ (List.mem_of_getElem? (i := 5) rfl))) (mvT hZ (hw _ (List.mem_of_getElem? (i := 6) rfl))) (mvT hZ (hw _ (List.mem_of_getElem? (i := 3) rfl))) (mvT hZ (hw _ (List.mem_of_getElem? (i := 7) rfl))) (by decide) (backOf (W := 0) (rm2 l Z A0 hw [] a0 ((8 : Int32) + (2 : Int32)) ((p2.toUInt32 >>> ((16 : Int32) &&& 31).toUInt32).toInt32) kk nn ((vs.set (8 : Int32).toNatClampNeg (.int (nar .byte (p2.toInt8.toInt32)))).set ((8 : Int32) + (1 : Int32)).toNatClampNeg (.int (nar .byte (((p2.toUInt32 >>> ((8 : Int32) &&& 31).toUInt32).toInt32).toInt8.toInt32)))) dv T2.heap n0 ZT2_heap V_a0 g_a0 (by decide) (by simpa only [List.length_set] using hlen)) hZ (hw _ (List.mem_of_getElem? (i := 7) rfl)) (hw _ (List.mem_of_getElem? (i := 3) rfl)) (by decide) (by decide)) (g := (mkF m 25 #[.val (.ref a0), .val (.int (8 : Int32)), .val (.int p2)] [(.int ((p2.toUInt32 >>> ((16 : Int32) &&& 31).toUInt32).toInt32)), (.int ((8 : Int32) + (2 : Int32))), (.ref a0)])) rfl (by rw [hml]; rfl) (argsL := [(.ref a0), (.int ((8 : Int32) + (2 : Int32))), (.int ((p2.toUInt32 >>> ((16 : Int32) &&& 31).toUInt32).toInt32))]) (rest := []) (lenOf pd_0 rfl) rfl (by show 2 * 0 + _ ≤ _; exact Nat.le_of_eq rfl) (hb hby d1_25) (fun _ _ => ⟨rfl, rfl, (by decide : 0 + 0 ≤ _), (by decide : 0 + 0 ≤ _)⟩)
  dsimp only [Pt.U, Pt.locs, Pt.cells, Pt.slots] at X3 l3 y3 z3 st3 hQ3
  subst l3 y3 z3
  obtain ⟨rfl, N3q, Kc3, P3_0⟩ := hQ3
  have N3 := Fr.app N2 N3q
  have ZT3_heap : n0 ≤ T3.heap.size := Nat.le_trans ZT2_heap Kc3.1
  have KT3_heap : Keep h0 T3.heap [a0] := KT2_heap.trans Kc3 (allS (Or.inl (by simp)) all0)
  have V_a0 : Arv Z T3.heap a0 kk .byte nn (((vs.set (8 : Int32).toNatClampNeg (.int (nar .byte (p2.toInt8.toInt32)))).set ((8 : Int32) + (1 : Int32)).toNatClampNeg (.int (nar .byte (((p2.toUInt32 >>> ((8 : Int32) &&& 31).toUInt32).toInt32).toInt8.toInt32)))).set ((8 : Int32) + (2 : Int32)).toNatClampNeg (.int (nar .byte (((p2.toUInt32 >>> ((16 : Int32) &&& 31).toUInt32).toInt32).toInt8.toInt32)))) dv := P3_0
  obtain ⟨_, _, ⟨T4, L4, k4, n4⟩, -, X4, ⟨Lc4, hQ4, l4, y4, z4⟩, st4⟩ := Jvm.LawKit.callS X3 hx (y := (⟨"com/example/parley/parley/client/Murmur2HashPinLaw", "set", "([BII)V"⟩ : MethodName)) hown (mvT hZ (hw _ (List.mem_of_getElem? (i := 5) rfl))) (mvT hZ (hw _ (List.mem_of_getElem? (i := 6) rfl))) (mvT hZ (hw _ (List.mem_of_getElem? (i := 3) rfl))) (mvT hZ (hw _ (List.mem_of_getElem? (i := 7) rfl))) (by decide) (backOf (W := 0) (rm2 l Z A0 hw [] a0 ((8 : Int32) + (3 : Int32)) ((p2.toUInt32 >>> ((24 : Int32) &&& 31).toUInt32).toInt32) kk nn (((vs.set (8 : Int32).toNatClampNeg (.int (nar .byte (p2.toInt8.toInt32)))).set ((8 : Int32) + (1 : Int32)).toNatClampNeg (.int (nar .byte (((p2.toUInt32 >>> ((8 : Int32) &&& 31).toUInt32).toInt32).toInt8.toInt32)))).set ((8 : Int32) + (2 : Int32)).toNatClampNeg (.int (nar .byte (((p2.toUInt32 >>> ((16 : Int32) &&& 31).toUInt32).toInt32).toInt8.toInt32)))) dv T3.heap n0 ZT3_heap V_a0 g_a0 (by decide) (by simpa only [List.length_set] using hlen)) hZ (hw _ (List.mem_of_getElem? (i := 7) rfl)) (hw _ (List.mem_of_getElem? (i := 3) rfl)) (by decide) (by decide)) (g := (mkF m 36 #[.val (.ref a0), .val (.int (8 : Int32)), .val (.int p2)] [(.int ((p2.toUInt32 >>> ((24 : Int32) &&& 31).toUInt32).toInt32)), (.int ((8 : Int32) + (3 : Int32))), (.ref a0)])) rfl (by rw [hml]; rfl) (argsL := [(.ref a0), (.int ((8 : Int32) + (3 : Int32))), (.int ((p2.toUInt32 >>> ((24 : Int32) &&& 31).toUInt32).toInt32))]) (rest := []) (lenOf pd_0 rfl) rfl (by show 2 * 0 + _ ≤ _; exact Nat.le_of_eq rfl) (hb hby d1_36) (fun _ _ => ⟨rfl, rfl, (by decide : 0 + 0 ≤ _), (by decide : 0 + 0 ≤ _)⟩)
  dsimp only [Pt.U, Pt.locs, Pt.cells, Pt.slots] at X4 l4 y4 z4 st4 hQ4
  subst l4 y4 z4
  obtain ⟨rfl, N4q, Kc4, P4_0⟩ := hQ4
  have N4 := Fr.app N3 N4q
  have ZT4_heap : n0 ≤ T4.heap.size := Nat.le_trans ZT3_heap Kc4.1
  have KT4_heap : Keep h0 T4.heap [a0] := KT3_heap.trans Kc4 (allS (Or.inl (by simp)) all0)
  have V_a0 : Arv Z T4.heap a0 kk .byte nn ((((vs.set (8 : Int32).toNatClampNeg (.int (nar .byte (p2.toInt8.toInt32)))).set ((8 : Int32) + (1 : Int32)).toNatClampNeg (.int (nar .byte (((p2.toUInt32 >>> ((8 : Int32) &&& 31).toUInt32).toInt32).toInt8.toInt32)))).set ((8 : Int32) + (2 : Int32)).toNatClampNeg (.int (nar .byte (((p2.toUInt32 >>> ((16 : Int32) &&& 31).toUInt32).toInt32).toInt8.toInt32)))).set ((8 : Int32) + (3 : Int32)).toNatClampNeg (.int (nar .byte (((p2.toUInt32 >>> ((24 : Int32) &&& 31).toUInt32).toInt32).toInt8.toInt32)))) dv := P4_0
  obtain ⟨fs, hr, hrun, hended, hW, hsame⟩ := X4.leave (v := none) (fun _ => rfl)
  refine ⟨_, _, pre0 _ ?_, hrun, hended, _, _, rfl, ?_, ⟨_, rfl⟩, hW, hsame.mono (by decide) (by decide)⟩
  · show Steps p.tables e below (s₁.setTop (mkF m 0 #[.val (.ref a0), .val (.int (8 : Int32)), .val (.int p2)] [])) _
    refine XS.aloadN X0.here hx rfl (hb hby d1_0) rfl rfl ?_
    show Steps p.tables e below (s₁.setTop (mkF m 1 #[.val (.ref a0), .val (.int (8 : Int32)), .val (.int p2)] [(.ref a0)])) _
    refine XS.iloadN X0.here hx rfl (hb hby d1_1) rfl ?_
    show Steps p.tables e below (s₁.setTop (mkF m 2 #[.val (.ref a0), .val (.int (8 : Int32)), .val (.int p2)] [(.int (8 : Int32)), (.ref a0)])) _
    refine XS.iloadN X0.here hx rfl (hb hby d1_2) rfl ?_
    show Steps p.tables e below (s₁.setTop (mkF m 3 #[.val (.ref a0), .val (.int (8 : Int32)), .val (.int p2)] [(.int p2), (.int (8 : Int32)), (.ref a0)])) _
    refine st1 _ ?_
    show Steps p.tables e below (T1.setTop (mkF m 6 #[.val (.ref a0), .val (.int (8 : Int32)), .val (.int p2)] [])) _
    refine XS.aloadN X1.here hx rfl (hb hby d1_6) rfl rfl ?_
    show Steps p.tables e below (T1.setTop (mkF m 7 #[.val (.ref a0), .val (.int (8 : Int32)), .val (.int p2)] [(.ref a0)])) _
    refine XS.iloadN X1.here hx rfl (hb hby d1_7) rfl ?_
    show Steps p.tables e below (T1.setTop (mkF m 8 #[.val (.ref a0), .val (.int (8 : Int32)), .val (.int p2)] [(.int (8 : Int32)), (.ref a0)])) _
    refine XS.iconst X1.here hx rfl (hb hby d1_8) ?_
    show Steps p.tables e below (T1.setTop (mkF m 9 #[.val (.ref a0), .val (.int (8 : Int32)), .val (.int p2)] [(.int (1 : Int32)), (.int (8 : Int32)), (.ref a0)])) _
    refine XS.iadd X1.here hx rfl (hb hby d1_9) rfl ?_
    show Steps p.tables e below (T1.setTop (mkF m 10 #[.val (.ref a0), .val (.int (8 : Int32)), .val (.int p2)] [(.int ((8 : Int32) + (1 : Int32))), (.ref a0)])) _
    refine XS.iloadN X1.here hx rfl (hb hby d1_10) rfl ?_
    show Steps p.tables e below (T1.setTop (mkF m 11 #[.val (.ref a0), .val (.int (8 : Int32)), .val (.int p2)] [(.int p2), (.int ((8 : Int32) + (1 : Int32))), (.ref a0)])) _
    refine XS.bipush X1.here hx rfl (hb hby d1_11) ?_
    show Steps p.tables e below (T1.setTop (mkF m 13 #[.val (.ref a0), .val (.int (8 : Int32)), .val (.int p2)] [(.int (8 : Int32)), (.int p2), (.int ((8 : Int32) + (1 : Int32))), (.ref a0)])) _
    refine XS.iushr X1.here hx rfl (hb hby d1_13) rfl ?_
    show Steps p.tables e below (T1.setTop (mkF m 14 #[.val (.ref a0), .val (.int (8 : Int32)), .val (.int p2)] [(.int ((p2.toUInt32 >>> ((8 : Int32) &&& 31).toUInt32).toInt32)), (.int ((8 : Int32) + (1 : Int32))), (.ref a0)])) _
    refine st2 _ ?_
    show Steps p.tables e below (T2.setTop (mkF m 17 #[.val (.ref a0), .val (.int (8 : Int32)), .val (.int p2)] [])) _
    refine XS.aloadN X2.here hx rfl (hb hby d1_17) rfl rfl ?_
    show Steps p.tables e below (T2.setTop (mkF m 18 #[.val (.ref a0), .val (.int (8 : Int32)), .val (.int p2)] [(.ref a0)])) _
    refine XS.iloadN X2.here hx rfl (hb hby d1_18) rfl ?_
    show Steps p.tables e below (T2.setTop (mkF m 19 #[.val (.ref a0), .val (.int (8 : Int32)), .val (.int p2)] [(.int (8 : Int32)), (.ref a0)])) _
    refine XS.iconst X2.here hx rfl (hb hby d1_19) ?_
    show Steps p.tables e below (T2.setTop (mkF m 20 #[.val (.ref a0), .val (.int (8 : Int32)), .val (.int p2)] [(.int (2 : Int32)), (.int (8 : Int32)), (.ref a0)])) _
    refine XS.iadd X2.here hx rfl (hb hby d1_20) rfl ?_
    show Steps p.tables e below (T2.setTop (mkF m 21 #[.val (.ref a0), .val (.int (8 : Int32)), .val (.int p2)] [(.int ((8 : Int32) + (2 : Int32))), (.ref a0)])) _
    refine XS.iloadN X2.here hx rfl (hb hby d1_21) rfl ?_
    show Steps p.tables e below (T2.setTop (mkF m 22 #[.val (.ref a0), .val (.int (8 : Int32)), .val (.int p2)] [(.int p2), (.int ((8 : Int32) + (2 : Int32))), (.ref a0)])) _
    refine XS.bipush X2.here hx rfl (hb hby d1_22) ?_
    show Steps p.tables e below (T2.setTop (mkF m 24 #[.val (.ref a0), .val (.int (8 : Int32)), .val (.int p2)] [(.int (16 : Int32)), (.int p2), (.int ((8 : Int32) + (2 : Int32))), (.ref a0)])) _
    refine XS.iushr X2.here hx rfl (hb hby d1_24) rfl ?_
    show Steps p.tables e below (T2.setTop (mkF m 25 #[.val (.ref a0), .val (.int (8 : Int32)), .val (.int p2)] [(.int ((p2.toUInt32 >>> ((16 : Int32) &&& 31).toUInt32).toInt32)), (.int ((8 : Int32) + (2 : Int32))), (.ref a0)])) _
    refine st3 _ ?_
    show Steps p.tables e below (T3.setTop (mkF m 28 #[.val (.ref a0), .val (.int (8 : Int32)), .val (.int p2)] [])) _
    refine XS.aloadN X3.here hx rfl (hb hby d1_28) rfl rfl ?_
    show Steps p.tables e below (T3.setTop (mkF m 29 #[.val (.ref a0), .val (.int (8 : Int32)), .val (.int p2)] [(.ref a0)])) _
    refine XS.iloadN X3.here hx rfl (hb hby d1_29) rfl ?_
    show Steps p.tables e below (T3.setTop (mkF m 30 #[.val (.ref a0), .val (.int (8 : Int32)), .val (.int p2)] [(.int (8 : Int32)), (.ref a0)])) _
    refine XS.iconst X3.here hx rfl (hb hby d1_30) ?_
    show Steps p.tables e below (T3.setTop (mkF m 31 #[.val (.ref a0), .val (.int (8 : Int32)), .val (.int p2)] [(.int (3 : Int32)), (.int (8 : Int32)), (.ref a0)])) _
    refine XS.iadd X3.here hx rfl (hb hby d1_31) rfl ?_
    show Steps p.tables e below (T3.setTop (mkF m 32 #[.val (.ref a0), .val (.int (8 : Int32)), .val (.int p2)] [(.int ((8 : Int32) + (3 : Int32))), (.ref a0)])) _
    refine XS.iloadN X3.here hx rfl (hb hby d1_32) rfl ?_
    show Steps p.tables e below (T3.setTop (mkF m 33 #[.val (.ref a0), .val (.int (8 : Int32)), .val (.int p2)] [(.int p2), (.int ((8 : Int32) + (3 : Int32))), (.ref a0)])) _
    refine XS.bipush X3.here hx rfl (hb hby d1_33) ?_
    show Steps p.tables e below (T3.setTop (mkF m 35 #[.val (.ref a0), .val (.int (8 : Int32)), .val (.int p2)] [(.int (24 : Int32)), (.int p2), (.int ((8 : Int32) + (3 : Int32))), (.ref a0)])) _
    refine XS.iushr X3.here hx rfl (hb hby d1_35) rfl ?_
    show Steps p.tables e below (T3.setTop (mkF m 36 #[.val (.ref a0), .val (.int (8 : Int32)), .val (.int p2)] [(.int ((p2.toUInt32 >>> ((24 : Int32) &&& 31).toUInt32).toInt32)), (.int ((8 : Int32) + (3 : Int32))), (.ref a0)])) _
    refine st4 _ ?_
    show Steps p.tables e below (T4.setTop (mkF m 39 #[.val (.ref a0), .val (.int (8 : Int32)), .val (.int p2)] [])) _
    exact X4.returnOut hx Bd.returns (hb hby d1_39) hr
  · show Qrm1_8 Z a0 p2 kk nn vs dv h0 n0 _ T4.heap _
    exact ⟨rfl, N4, KT4_heap, V_a0⟩
theorem d3_0 : decode prog_92_method_2_code 0 = .ok (.aload_n 0, 1) := by decide +kernel
theorem d3_1 : decode prog_92_method_2_code 1 = .ok (.arraylength, 1) := by decide +kernel
theorem d3_2 : decode prog_92_method_2_code 2 = .ok (.istore_n 1, 1) := by decide +kernel
theorem d3_3 : decode prog_92_method_2_code 3 = .ok (.ldc 9, 2) := by decide +kernel
theorem d3_5 : decode prog_92_method_2_code 5 = .ok (.iload_n 1, 1) := by decide +kernel
theorem d3_6 : decode prog_92_method_2_code 6 = .ok (.ixor, 1) := by decide +kernel
theorem d3_7 : decode prog_92_method_2_code 7 = .ok (.istore_n 2, 1) := by decide +kernel
theorem d3_8 : decode prog_92_method_2_code 8 = .ok (.iload_n 1, 1) := by decide +kernel
theorem d3_9 : decode prog_92_method_2_code 9 = .ok (.bipush (-4), 2) := by decide +kernel
theorem d3_11 : decode prog_92_method_2_code 11 = .ok (.iand, 1) := by decide +kernel
theorem d3_12 : decode prog_92_method_2_code 12 = .ok (.istore_n 3, 1) := by decide +kernel
theorem d3_13 : decode prog_92_method_2_code 13 = .ok (.iconst 0, 1) := by decide +kernel
theorem d3_14 : decode prog_92_method_2_code 14 = .ok (.istore 4, 2) := by decide +kernel
theorem d3_16 : decode prog_92_method_2_code 16 = .ok (.iload 4, 2) := by decide +kernel
theorem d3_18 : decode prog_92_method_2_code 18 = .ok (.iload_n 3, 1) := by decide +kernel
theorem d3_19 : decode prog_92_method_2_code 19 = .ok (.if_icmp .ge 95, 3) := by decide +kernel
theorem d3_114 : decode prog_92_method_2_code 114 = .ok (.iload_n 1, 1) := by decide +kernel
theorem d3_115 : decode prog_92_method_2_code 115 = .ok (.iload_n 3, 1) := by decide +kernel
theorem d3_116 : decode prog_92_method_2_code 116 = .ok (.isub, 1) := by decide +kernel
theorem d3_117 : decode prog_92_method_2_code 117 = .ok (.istore 4, 2) := by decide +kernel
theorem d3_119 : decode prog_92_method_2_code 119 = .ok (.iload 4, 2) := by decide +kernel
theorem d3_121 : decode prog_92_method_2_code 121 = .ok (.ifCond .le 60, 3) := by decide +kernel
theorem d3_124 : decode prog_92_method_2_code 124 = .ok (.iconst 3, 1) := by decide +kernel
theorem d3_125 : decode prog_92_method_2_code 125 = .ok (.iload 4, 2) := by decide +kernel
theorem d3_127 : decode prog_92_method_2_code 127 = .ok (.if_icmp .ne 18, 3) := by decide +kernel
theorem d3_130 : decode prog_92_method_2_code 130 = .ok (.iload_n 2, 1) := by decide +kernel
theorem d3_131 : decode prog_92_method_2_code 131 = .ok (.aload_n 0, 1) := by decide +kernel
theorem d3_132 : decode prog_92_method_2_code 132 = .ok (.iload_n 3, 1) := by decide +kernel
theorem d3_133 : decode prog_92_method_2_code 133 = .ok (.iconst 2, 1) := by decide +kernel
theorem d3_134 : decode prog_92_method_2_code 134 = .ok (.iadd, 1) := by decide +kernel
theorem d3_135 : decode prog_92_method_2_code 135 = .ok (.baload, 1) := by decide +kernel
theorem d3_136 : decode prog_92_method_2_code 136 = .ok (.sipush 255, 3) := by decide +kernel
theorem d3_139 : decode prog_92_method_2_code 139 = .ok (.iand, 1) := by decide +kernel
theorem d3_140 : decode prog_92_method_2_code 140 = .ok (.bipush 16, 2) := by decide +kernel
theorem d3_142 : decode prog_92_method_2_code 142 = .ok (.ishl, 1) := by decide +kernel
theorem d3_143 : decode prog_92_method_2_code 143 = .ok (.ixor, 1) := by decide +kernel
theorem d3_144 : decode prog_92_method_2_code 144 = .ok (.istore_n 2, 1) := by decide +kernel
theorem d3_145 : decode prog_92_method_2_code 145 = .ok (.iload 4, 2) := by decide +kernel
theorem d3_147 : decode prog_92_method_2_code 147 = .ok (.iconst 2, 1) := by decide +kernel
theorem d3_148 : decode prog_92_method_2_code 148 = .ok (.if_icmp .lt 18, 3) := by decide +kernel
theorem d3_151 : decode prog_92_method_2_code 151 = .ok (.iload_n 2, 1) := by decide +kernel
theorem d3_152 : decode prog_92_method_2_code 152 = .ok (.aload_n 0, 1) := by decide +kernel
theorem d3_153 : decode prog_92_method_2_code 153 = .ok (.iload_n 3, 1) := by decide +kernel
theorem d3_154 : decode prog_92_method_2_code 154 = .ok (.iconst 1, 1) := by decide +kernel
theorem d3_155 : decode prog_92_method_2_code 155 = .ok (.iadd, 1) := by decide +kernel
theorem d3_156 : decode prog_92_method_2_code 156 = .ok (.baload, 1) := by decide +kernel
theorem d3_157 : decode prog_92_method_2_code 157 = .ok (.sipush 255, 3) := by decide +kernel
theorem d3_160 : decode prog_92_method_2_code 160 = .ok (.iand, 1) := by decide +kernel
theorem d3_161 : decode prog_92_method_2_code 161 = .ok (.bipush 8, 2) := by decide +kernel
theorem d3_163 : decode prog_92_method_2_code 163 = .ok (.ishl, 1) := by decide +kernel
theorem d3_164 : decode prog_92_method_2_code 164 = .ok (.ixor, 1) := by decide +kernel
theorem d3_165 : decode prog_92_method_2_code 165 = .ok (.istore_n 2, 1) := by decide +kernel
theorem d3_166 : decode prog_92_method_2_code 166 = .ok (.iload_n 2, 1) := by decide +kernel
theorem d3_167 : decode prog_92_method_2_code 167 = .ok (.aload_n 0, 1) := by decide +kernel
theorem d3_168 : decode prog_92_method_2_code 168 = .ok (.iload_n 3, 1) := by decide +kernel
theorem d3_169 : decode prog_92_method_2_code 169 = .ok (.baload, 1) := by decide +kernel
theorem d3_170 : decode prog_92_method_2_code 170 = .ok (.sipush 255, 3) := by decide +kernel
theorem d3_173 : decode prog_92_method_2_code 173 = .ok (.iand, 1) := by decide +kernel
theorem d3_174 : decode prog_92_method_2_code 174 = .ok (.ixor, 1) := by decide +kernel
theorem d3_175 : decode prog_92_method_2_code 175 = .ok (.istore_n 2, 1) := by decide +kernel
theorem d3_176 : decode prog_92_method_2_code 176 = .ok (.iload_n 2, 1) := by decide +kernel
theorem d3_177 : decode prog_92_method_2_code 177 = .ok (.ldc 10, 2) := by decide +kernel
theorem d3_179 : decode prog_92_method_2_code 179 = .ok (.imul, 1) := by decide +kernel
theorem d3_180 : decode prog_92_method_2_code 180 = .ok (.istore_n 2, 1) := by decide +kernel
theorem d3_181 : decode prog_92_method_2_code 181 = .ok (.iload_n 2, 1) := by decide +kernel
theorem d3_182 : decode prog_92_method_2_code 182 = .ok (.iload_n 2, 1) := by decide +kernel
theorem d3_183 : decode prog_92_method_2_code 183 = .ok (.bipush 13, 2) := by decide +kernel
theorem d3_185 : decode prog_92_method_2_code 185 = .ok (.iushr, 1) := by decide +kernel
theorem d3_186 : decode prog_92_method_2_code 186 = .ok (.ixor, 1) := by decide +kernel
theorem d3_187 : decode prog_92_method_2_code 187 = .ok (.istore_n 2, 1) := by decide +kernel
theorem d3_188 : decode prog_92_method_2_code 188 = .ok (.iload_n 2, 1) := by decide +kernel
theorem d3_189 : decode prog_92_method_2_code 189 = .ok (.ldc 10, 2) := by decide +kernel
theorem d3_191 : decode prog_92_method_2_code 191 = .ok (.imul, 1) := by decide +kernel
theorem d3_192 : decode prog_92_method_2_code 192 = .ok (.istore_n 2, 1) := by decide +kernel
theorem d3_193 : decode prog_92_method_2_code 193 = .ok (.iload_n 2, 1) := by decide +kernel
theorem d3_194 : decode prog_92_method_2_code 194 = .ok (.iload_n 2, 1) := by decide +kernel
theorem d3_195 : decode prog_92_method_2_code 195 = .ok (.bipush 15, 2) := by decide +kernel
theorem d3_197 : decode prog_92_method_2_code 197 = .ok (.iushr, 1) := by decide +kernel
theorem d3_198 : decode prog_92_method_2_code 198 = .ok (.ixor, 1) := by decide +kernel
theorem d3_199 : decode prog_92_method_2_code 199 = .ok (.istore_n 2, 1) := by decide +kernel
theorem d3_200 : decode prog_92_method_2_code 200 = .ok (.iload_n 2, 1) := by decide +kernel
theorem d3_201 : decode prog_92_method_2_code 201 = .ok (.ireturn, 1) := by decide +kernel
theorem pn_3 : plainName "com/example/parley/parley/client/Murmur2" = true := by first | (simp [plainName, overriddenIn]; done) | decide +kernel
theorem ef_rm3_0 (m : MethodId) (a0 : Addr) : entryFrame m #[(.ref a0)] 6 = mkF m 0 #[.val (.ref a0), .unset, .unset, .unset, .unset, .unset] [] := by first | (simp [entryFrame, mkF, argsToLocals, Value.category]; done) | rfl
def Qrm3_0 (Z : State) (a0 : Addr) (kk : ClassId) (nn : Int32) (vs : List Value) (dv : Value) (y0 : Int32) (y1 : Int32) (y2 : Int32) (h0 : Heap) (n0 : Nat) (v : Option Value) (h : Heap) (L : List Loc) : Prop := v = some (.int (own_h0 nn y0 y1 y2)) ∧ Fr n0 L ∧ h = h0
set_option maxRecDepth 65536 in
set_option maxHeartbeats 40000000 in
theorem rm3_0 (l : Launch) (Z : State) (A0 : Array Value) (hw : ∀ d ∈ tables_1, d.before A0 Z = true) (ws : List Jvm.Cond) (a0 : Addr) (kk : ClassId) (nn : Int32) (vs : List Value) (dv : Value) (y0 : Int32) (y1 : Int32) (y2 : Int32) (h0 : Heap) (n0 : Nat) (Z0 : n0 ≤ h0.size) (V_a0 : Arv Z h0 a0 kk .byte nn vs dv) (hn : 0 ≤ nn.toInt ∧ nn.toInt ≤ 3) (yat0 : 0 < nn.toInt → vs.getD 0 dv = .int y0) (yat1 : 1 < nn.toInt → vs.getD 1 dv = .int y1) (yat2 : 2 < nn.toInt → vs.getD 2 dv = .int y2) :
    MetFree l (⟨"com/example/parley/parley/client/Murmur2", "hash", "([B)I"⟩ : MethodName) (head1 (Jvm.Cond.code (⟨"com/example/parley/parley/client/Murmur2", "hash", "([B)I"⟩ : MethodName) prog_92_method_2_code 6 (some .int) :: ws) ({ frames := 0, cells := 0, slots := 0, locals := 0 } : Room)) (fun a U => a = #[(.ref a0)] ∧ Z.Warmed39 U.vm ∧ U.heap = h0) (fun _ _ _ _ _ => True) (fun _ U o U' => ∃ v L, o = .returned v ∧ Qrm3_0 Z a0 kk nn vs dv y0 y1 y2 h0 n0 v U'.heap L ∧ FrameEnd U o U' L ({ frames := 0, cells := 0, slots := 0, locals := 0 } : Room).cells ({ frames := 0, cells := 0, slots := 0, locals := 0 } : Room).slots) := by
  refine MetFree.of_bodySF (plainFor_of_name pn_3) hisR ?_
  intro p e s m args below meth c s₁ Bd hml0 hP hK
  obtain ⟨rfl, hZ, hh⟩ := hP
  have hx := Bd.exec
  have hby := Bd.bytes
  have hml : c.maxLocals = 6 := hml0
  have hown : s.vm.findClass "com/example/parley/parley/client/Murmur2" = some m.cls := findClass_of_methodNamed Bd.named
  have hnm := (name_of_methodNamed Bd.named Bd.method).1
  have X0 : Stand p l e ({ frames := 0, cells := 0, slots := 0, locals := 0 } : Room) s m #[(.ref a0)] below meth c s₁ [] 0 0 := Stand.of_body Bd
  have e0 : s₁.heap = h0 := by rw [← hh, Bd.state]; rfl
  have N0 := Fr.nil n0
  have K0 : Keep h0 h0 [] := Keep.refl _ _
  have pre0 : ∀ t, Steps p.tables e below (s₁.setTop (mkF m 0 #[.val (.ref a0), .unset, .unset, .unset, .unset, .unset] [])) t → Steps p.tables e below (s₁.setTop (entryFrame m #[(.ref a0)] 6)) t := fun t k => castTop (ef_rm3_0 m a0) k
  obtain ⟨cl1, Ar1, -, SS1, MM1, -, -⟩ := id V_a0
  obtain ⟨h0_, h_h0_⟩ : ∃ z : Int32, z = ((-1756908916 : Int32) ^^^ nn) := ⟨_, rfl⟩
  obtain ⟨wh, h_wh⟩ : ∃ z : Int32, z = (nn &&& (-4 : Int32)) := ⟨_, rfl⟩
  rcases (own_wh0 hn h_wh) with rfl
  obtain ⟨ht_, h_ht_⟩ : ∃ z : Int32, z = (if (0 : Int32) < (nn - (0 : Int32)) then (if (3 : Int32) = (nn - (0 : Int32)) then (if (nn - (0 : Int32)) < (2 : Int32) then (((h0_ ^^^ ((y2 &&& (255 : Int32)) <<< ((16 : Int32) &&& 31))) ^^^ (y0 &&& (255 : Int32))) * (1540483477 : Int32)) else ((((h0_ ^^^ ((y2 &&& (255 : Int32)) <<< ((16 : Int32) &&& 31))) ^^^ ((y1 &&& (255 : Int32)) <<< ((8 : Int32) &&& 31))) ^^^ (y0 &&& (255 : Int32))) * (1540483477 : Int32))) else (if (nn - (0 : Int32)) < (2 : Int32) then ((h0_ ^^^ (y0 &&& (255 : Int32))) * (1540483477 : Int32)) else (((h0_ ^^^ ((y1 &&& (255 : Int32)) <<< ((8 : Int32) &&& 31))) ^^^ (y0 &&& (255 : Int32))) * (1540483477 : Int32)))) else h0_) := ⟨_, rfl⟩
  obtain ⟨ha_, h_ha_⟩ : ∃ z : Int32, z = (ht_ ^^^ ((ht_.toUInt32 >>> ((13 : Int32) &&& 31).toUInt32).toInt32)) := ⟨_, rfl⟩
  obtain ⟨hb_, h_hb_⟩ : ∃ z : Int32, z = (ha_ * (1540483477 : Int32)) := ⟨_, rfl⟩
  obtain ⟨rr_, h_rr_⟩ : ∃ z : Int32, z = (hb_ ^^^ ((hb_.toUInt32 >>> ((15 : Int32) &&& 31).toUInt32).toInt32)) := ⟨_, rfl⟩
  obtain ⟨fs, hr, hrun, hended, hW, hsame⟩ := X0.leave (v := some (.int rr_)) (fun h => by rw [Bd.returns] at h; cases h)
  refine ⟨_, _, pre0 _ ?_, hrun, hended, _, _, rfl, ?_, ⟨_, rfl⟩, hW, hsame.mono (by decide) (by decide)⟩
  · show Steps p.tables e below (s₁.setTop (mkF m 0 #[.val (.ref a0), .unset, .unset, .unset, .unset, .unset] [])) _
    refine XS.aloadN X0.here hx rfl (hb hby d3_0) rfl rfl ?_
    show Steps p.tables e below (s₁.setTop (mkF m 1 #[.val (.ref a0), .unset, .unset, .unset, .unset, .unset] [(.ref a0)])) _
    refine X0.arraylength hx (by rw [e0]; exact Ar1.1) (State.isArrayOf_alike hZ.alike Ar1.2.1) (g := (mkF m 1 #[.val (.ref a0), .unset, .unset, .unset, .unset, .unset] [(.ref a0)])) rfl rfl (hb hby d3_1) _ ?_
    rw [len_of SS1 MM1]
    show Steps p.tables e below (s₁.setTop (mkF m 2 #[.val (.ref a0), .unset, .unset, .unset, .unset, .unset] [(.int nn)])) _
    refine XS.istoreN X0.here hx rfl (hb hby d3_2) rfl (l' := #[.val (.ref a0), .val (.int nn), .unset, .unset, .unset, .unset]) rfl ?_
    show Steps p.tables e below (s₁.setTop (mkF m 3 #[.val (.ref a0), .val (.int nn), .unset, .unset, .unset, .unset] [])) _
    refine X0.ldcInt hx hown (mvT hZ (hw _ (List.mem_of_getElem? (i := 12) rfl))) (g := (mkF m 3 #[.val (.ref a0), .val (.int nn), .unset, .unset, .unset, .unset] [])) rfl (hb hby d3_3) _ ?_
    show Steps p.tables e below (s₁.setTop (mkF m 5 #[.val (.ref a0), .val (.int nn), .unset, .unset, .unset, .unset] [(.int (-1756908916 : Int32))])) _
    refine XS.iloadN X0.here hx rfl (hb hby d3_5) rfl ?_
    show Steps p.tables e below (s₁.setTop (mkF m 6 #[.val (.ref a0), .val (.int nn), .unset, .unset, .unset, .unset] [(.int nn), (.int (-1756908916 : Int32))])) _
    refine XS.ixor X0.here hx rfl (hb hby d3_6) rfl ?_
    show Steps p.tables e below (s₁.setTop (mkF m 7 #[.val (.ref a0), .val (.int nn), .unset, .unset, .unset, .unset] [(.int ((-1756908916 : Int32) ^^^ nn))])) _
    rw [← h_h0_]
    show Steps p.tables e below (s₁.setTop (mkF m 7 #[.val (.ref a0), .val (.int nn), .unset, .unset, .unset, .unset] [(.int h0_)])) _
    refine XS.istoreN X0.here hx rfl (hb hby d3_7) rfl (l' := #[.val (.ref a0), .val (.int nn), .val (.int h0_), .unset, .unset, .unset]) rfl ?_
    show Steps p.tables e below (s₁.setTop (mkF m 8 #[.val (.ref a0), .val (.int nn), .val (.int h0_), .unset, .unset, .unset] [])) _
    refine XS.iloadN X0.here hx rfl (hb hby d3_8) rfl ?_
    show Steps p.tables e below (s₁.setTop (mkF m 9 #[.val (.ref a0), .val (.int nn), .val (.int h0_), .unset, .unset, .unset] [(.int nn)])) _
    refine XS.bipush X0.here hx rfl (hb hby d3_9) ?_
    show Steps p.tables e below (s₁.setTop (mkF m 11 #[.val (.ref a0), .val (.int nn), .val (.int h0_), .unset, .unset, .unset] [(.int (-4 : Int32)), (.int nn)])) _
    refine XS.iand X0.here hx rfl (hb hby d3_11) rfl ?_
    show Steps p.tables e below (s₁.setTop (mkF m 12 #[.val (.ref a0), .val (.int nn), .val (.int h0_), .unset, .unset, .unset] [(.int (nn &&& (-4 : Int32)))])) _
    rw [← h_wh]
    show Steps p.tables e below (s₁.setTop (mkF m 12 #[.val (.ref a0), .val (.int nn), .val (.int h0_), .unset, .unset, .unset] [(.int (0 : Int32))])) _
    refine XS.istoreN X0.here hx rfl (hb hby d3_12) rfl (l' := #[.val (.ref a0), .val (.int nn), .val (.int h0_), .val (.int (0 : Int32)), .unset, .unset]) rfl ?_
    show Steps p.tables e below (s₁.setTop (mkF m 13 #[.val (.ref a0), .val (.int nn), .val (.int h0_), .val (.int (0 : Int32)), .unset, .unset] [])) _
    refine XS.iconst X0.here hx rfl (hb hby d3_13) ?_
    show Steps p.tables e below (s₁.setTop (mkF m 14 #[.val (.ref a0), .val (.int nn), .val (.int h0_), .val (.int (0 : Int32)), .unset, .unset] [(.int (0 : Int32))])) _
    refine XS.istore X0.here hx rfl (hb hby d3_14) rfl (l' := #[.val (.ref a0), .val (.int nn), .val (.int h0_), .val (.int (0 : Int32)), .val (.int (0 : Int32)), .unset]) rfl ?_
    show Steps p.tables e below (s₁.setTop (mkF m 16 #[.val (.ref a0), .val (.int nn), .val (.int h0_), .val (.int (0 : Int32)), .val (.int (0 : Int32)), .unset] [])) _
    refine XS.iload X0.here hx rfl (hb hby d3_16) rfl ?_
    show Steps p.tables e below (s₁.setTop (mkF m 18 #[.val (.ref a0), .val (.int nn), .val (.int h0_), .val (.int (0 : Int32)), .val (.int (0 : Int32)), .unset] [(.int (0 : Int32))])) _
    refine XS.iloadN X0.here hx rfl (hb hby d3_18) rfl ?_
    show Steps p.tables e below (s₁.setTop (mkF m 19 #[.val (.ref a0), .val (.int nn), .val (.int h0_), .val (.int (0 : Int32)), .val (.int (0 : Int32)), .unset] [(.int (0 : Int32)), (.int (0 : Int32))])) _
    refine XS.icmpYes X0.here hx rfl (pc0 := 19) (pc' := 114) rfl (hb hby d3_19) rfl (flt (by decide : ¬ ((0 : Int32) < (0 : Int32)))).2.1 (by decide) (by decide) ?_
    show Steps p.tables e below (s₁.setTop (mkF m 114 #[.val (.ref a0), .val (.int nn), .val (.int h0_), .val (.int (0 : Int32)), .val (.int (0 : Int32)), .unset] [])) _
    refine XS.iloadN X0.here hx rfl (hb hby d3_114) rfl ?_
    show Steps p.tables e below (s₁.setTop (mkF m 115 #[.val (.ref a0), .val (.int nn), .val (.int h0_), .val (.int (0 : Int32)), .val (.int (0 : Int32)), .unset] [(.int nn)])) _
    refine XS.iloadN X0.here hx rfl (hb hby d3_115) rfl ?_
    show Steps p.tables e below (s₁.setTop (mkF m 116 #[.val (.ref a0), .val (.int nn), .val (.int h0_), .val (.int (0 : Int32)), .val (.int (0 : Int32)), .unset] [(.int (0 : Int32)), (.int nn)])) _
    refine XS.isub X0.here hx rfl (hb hby d3_116) rfl ?_
    show Steps p.tables e below (s₁.setTop (mkF m 117 #[.val (.ref a0), .val (.int nn), .val (.int h0_), .val (.int (0 : Int32)), .val (.int (0 : Int32)), .unset] [(.int (nn - (0 : Int32)))])) _
    refine XS.istore X0.here hx rfl (hb hby d3_117) rfl (l' := #[.val (.ref a0), .val (.int nn), .val (.int h0_), .val (.int (0 : Int32)), .val (.int (nn - (0 : Int32))), .unset]) rfl ?_
    show Steps p.tables e below (s₁.setTop (mkF m 119 #[.val (.ref a0), .val (.int nn), .val (.int h0_), .val (.int (0 : Int32)), .val (.int (nn - (0 : Int32))), .unset] [])) _
    refine XS.iload X0.here hx rfl (hb hby d3_119) rfl ?_
    refine own_via (s₁.setTop (mkF m 181 #[.val (.ref a0), .val (.int nn), .val (.int (if (0 : Int32) < (nn - (0 : Int32)) then (if (3 : Int32) = (nn - (0 : Int32)) then (if (nn - (0 : Int32)) < (2 : Int32) then (((h0_ ^^^ ((y2 &&& (255 : Int32)) <<< ((16 : Int32) &&& 31))) ^^^ (y0 &&& (255 : Int32))) * (1540483477 : Int32)) else ((((h0_ ^^^ ((y2 &&& (255 : Int32)) <<< ((16 : Int32) &&& 31))) ^^^ ((y1 &&& (255 : Int32)) <<< ((8 : Int32) &&& 31))) ^^^ (y0 &&& (255 : Int32))) * (1540483477 : Int32))) else (if (nn - (0 : Int32)) < (2 : Int32) then ((h0_ ^^^ (y0 &&& (255 : Int32))) * (1540483477 : Int32)) else (((h0_ ^^^ ((y1 &&& (255 : Int32)) <<< ((8 : Int32) &&& 31))) ^^^ (y0 &&& (255 : Int32))) * (1540483477 : Int32)))) else h0_)), .val (.int (0 : Int32)), .val (.int (nn - (0 : Int32))), .unset] [])) (fun k => ?_) ?_
    · by_cases hc121 : (0 : Int32) < (nn - (0 : Int32))
      · show Steps p.tables e below (s₁.setTop (mkF m 121 #[.val (.ref a0), .val (.int nn), .val (.int h0_), .val (.int (0 : Int32)), .val (.int (nn - (0 : Int32))), .unset] [(.int (nn - (0 : Int32)))])) _
        refine XS.ifNo X0.here hx rfl (hb hby d3_121) rfl ((if0 _ _).trans (tlt hc121).2.2.2) ?_
        show Steps p.tables e below (s₁.setTop (mkF m 124 #[.val (.ref a0), .val (.int nn), .val (.int h0_), .val (.int (0 : Int32)), .val (.int (nn - (0 : Int32))), .unset] [])) _
        refine XS.iconst X0.here hx rfl (hb hby d3_124) ?_
        show Steps p.tables e below (s₁.setTop (mkF m 125 #[.val (.ref a0), .val (.int nn), .val (.int h0_), .val (.int (0 : Int32)), .val (.int (nn - (0 : Int32))), .unset] [(.int (3 : Int32))])) _
        refine XS.iload X0.here hx rfl (hb hby d3_125) rfl ?_
        by_cases hc127 : (3 : Int32) = (nn - (0 : Int32))
        · show Steps p.tables e below (s₁.setTop (mkF m 127 #[.val (.ref a0), .val (.int nn), .val (.int h0_), .val (.int (0 : Int32)), .val (.int (nn - (0 : Int32))), .unset] [(.int (nn - (0 : Int32))), (.int (3 : Int32))])) _
          refine XS.icmpNo X0.here hx rfl (hb hby d3_127) rfl (teq hc127).2 ?_
          show Steps p.tables e below (s₁.setTop (mkF m 130 #[.val (.ref a0), .val (.int nn), .val (.int h0_), .val (.int (0 : Int32)), .val (.int (nn - (0 : Int32))), .unset] [])) _
          refine XS.iloadN X0.here hx rfl (hb hby d3_130) rfl ?_
          show Steps p.tables e below (s₁.setTop (mkF m 131 #[.val (.ref a0), .val (.int nn), .val (.int h0_), .val (.int (0 : Int32)), .val (.int (nn - (0 : Int32))), .unset] [(.int h0_)])) _
          refine XS.aloadN X0.here hx rfl (hb hby d3_131) rfl rfl ?_
          show Steps p.tables e below (s₁.setTop (mkF m 132 #[.val (.ref a0), .val (.int nn), .val (.int h0_), .val (.int (0 : Int32)), .val (.int (nn - (0 : Int32))), .unset] [(.ref a0), (.int h0_)])) _
          refine XS.iloadN X0.here hx rfl (hb hby d3_132) rfl ?_
          show Steps p.tables e below (s₁.setTop (mkF m 133 #[.val (.ref a0), .val (.int nn), .val (.int h0_), .val (.int (0 : Int32)), .val (.int (nn - (0 : Int32))), .unset] [(.int (0 : Int32)), (.ref a0), (.int h0_)])) _
          refine XS.iconst X0.here hx rfl (hb hby d3_133) ?_
          show Steps p.tables e below (s₁.setTop (mkF m 134 #[.val (.ref a0), .val (.int nn), .val (.int h0_), .val (.int (0 : Int32)), .val (.int (nn - (0 : Int32))), .unset] [(.int (2 : Int32)), (.int (0 : Int32)), (.ref a0), (.int h0_)])) _
          refine XS.iadd X0.here hx rfl (hb hby d3_134) rfl ?_
          obtain ⟨cl2, Ar2, -, SS2, MM2, HH2, -⟩ := id V_a0
          have hin2 := inb_of SS2 (own_in (i := ((0 : Int32) + (2 : Int32))) (k := 2) (by decide) (by decide) (own_g2 (by decide : (0 : Int32).toInt = 0) hn hc127))
          have hat2 : cl2.slots[(((0 : Int32) + (2 : Int32))).toNatClampNeg]? = some (.int y2) := HH2.at hin2 (yat2 (own_g2 (by decide : (0 : Int32).toInt = 0) hn hc127))
          show Steps p.tables e below (s₁.setTop (mkF m 135 #[.val (.ref a0), .val (.int nn), .val (.int h0_), .val (.int (0 : Int32)), .val (.int (nn - (0 : Int32))), .unset] [(.int ((0 : Int32) + (2 : Int32))), (.ref a0), (.int h0_)])) _
          refine X0.baloadBytes hx (j := ((0 : Int32) + (2 : Int32))) (v := (.int y2)) (by rw [e0]; exact Ar2.1) (State.isArrayOf_alike hZ.alike Ar2.2.1) Ar2.2.2 hin2 hat2 (g := (mkF m 135 #[.val (.ref a0), .val (.int nn), .val (.int h0_), .val (.int (0 : Int32)), .val (.int (nn - (0 : Int32))), .unset] [(.int ((0 : Int32) + (2 : Int32))), (.ref a0), (.int h0_)])) rfl rfl (hb hby d3_135) _ ?_
          show Steps p.tables e below (s₁.setTop (mkF m 136 #[.val (.ref a0), .val (.int nn), .val (.int h0_), .val (.int (0 : Int32)), .val (.int (nn - (0 : Int32))), .unset] [(.int y2), (.int h0_)])) _
          refine XS.sipush X0.here hx rfl (hb hby d3_136) ?_
          show Steps p.tables e below (s₁.setTop (mkF m 139 #[.val (.ref a0), .val (.int nn), .val (.int h0_), .val (.int (0 : Int32)), .val (.int (nn - (0 : Int32))), .unset] [(.int (255 : Int32)), (.int y2), (.int h0_)])) _
          refine XS.iand X0.here hx rfl (hb hby d3_139) rfl ?_
          show Steps p.tables e below (s₁.setTop (mkF m 140 #[.val (.ref a0), .val (.int nn), .val (.int h0_), .val (.int (0 : Int32)), .val (.int (nn - (0 : Int32))), .unset] [(.int (y2 &&& (255 : Int32))), (.int h0_)])) _
          refine XS.bipush X0.here hx rfl (hb hby d3_140) ?_
          show Steps p.tables e below (s₁.setTop (mkF m 142 #[.val (.ref a0), .val (.int nn), .val (.int h0_), .val (.int (0 : Int32)), .val (.int (nn - (0 : Int32))), .unset] [(.int (16 : Int32)), (.int (y2 &&& (255 : Int32))), (.int h0_)])) _
          refine XS.ishl X0.here hx rfl (hb hby d3_142) rfl ?_
          show Steps p.tables e below (s₁.setTop (mkF m 143 #[.val (.ref a0), .val (.int nn), .val (.int h0_), .val (.int (0 : Int32)), .val (.int (nn - (0 : Int32))), .unset] [(.int ((y2 &&& (255 : Int32)) <<< ((16 : Int32) &&& 31))), (.int h0_)])) _
          refine XS.ixor X0.here hx rfl (hb hby d3_143) rfl ?_
          show Steps p.tables e below (s₁.setTop (mkF m 144 #[.val (.ref a0), .val (.int nn), .val (.int h0_), .val (.int (0 : Int32)), .val (.int (nn - (0 : Int32))), .unset] [(.int (h0_ ^^^ ((y2 &&& (255 : Int32)) <<< ((16 : Int32) &&& 31))))])) _
          refine XS.istoreN X0.here hx rfl (hb hby d3_144) rfl (l' := #[.val (.ref a0), .val (.int nn), .val (.int (h0_ ^^^ ((y2 &&& (255 : Int32)) <<< ((16 : Int32) &&& 31)))), .val (.int (0 : Int32)), .val (.int (nn - (0 : Int32))), .unset]) rfl ?_
          show Steps p.tables e below (s₁.setTop (mkF m 145 #[.val (.ref a0), .val (.int nn), .val (.int (h0_ ^^^ ((y2 &&& (255 : Int32)) <<< ((16 : Int32) &&& 31)))), .val (.int (0 : Int32)), .val (.int (nn - (0 : Int32))), .unset] [])) _
          refine XS.iload X0.here hx rfl (hb hby d3_145) rfl ?_
          show Steps p.tables e below (s₁.setTop (mkF m 147 #[.val (.ref a0), .val (.int nn), .val (.int (h0_ ^^^ ((y2 &&& (255 : Int32)) <<< ((16 : Int32) &&& 31)))), .val (.int (0 : Int32)), .val (.int (nn - (0 : Int32))), .unset] [(.int (nn - (0 : Int32)))])) _
          refine XS.iconst X0.here hx rfl (hb hby d3_147) ?_
          by_cases hc148 : (nn - (0 : Int32)) < (2 : Int32)
          · show Steps p.tables e below (s₁.setTop (mkF m 148 #[.val (.ref a0), .val (.int nn), .val (.int (h0_ ^^^ ((y2 &&& (255 : Int32)) <<< ((16 : Int32) &&& 31)))), .val (.int (0 : Int32)), .val (.int (nn - (0 : Int32))), .unset] [(.int (2 : Int32)), (.int (nn - (0 : Int32)))])) _
            refine XS.icmpYes X0.here hx rfl (pc0 := 148) (pc' := 166) rfl (hb hby d3_148) rfl (tlt hc148).1 (by decide) (by decide) ?_
            show Steps p.tables e below (s₁.setTop (mkF m 166 #[.val (.ref a0), .val (.int nn), .val (.int (h0_ ^^^ ((y2 &&& (255 : Int32)) <<< ((16 : Int32) &&& 31)))), .val (.int (0 : Int32)), .val (.int (nn - (0 : Int32))), .unset] [])) _
            refine XS.iloadN X0.here hx rfl (hb hby d3_166) rfl ?_
            show Steps p.tables e below (s₁.setTop (mkF m 167 #[.val (.ref a0), .val (.int nn), .val (.int (h0_ ^^^ ((y2 &&& (255 : Int32)) <<< ((16 : Int32) &&& 31)))), .val (.int (0 : Int32)), .val (.int (nn - (0 : Int32))), .unset] [(.int (h0_ ^^^ ((y2 &&& (255 : Int32)) <<< ((16 : Int32) &&& 31))))])) _
            refine XS.aloadN X0.here hx rfl (hb hby d3_167) rfl rfl ?_
            show Steps p.tables e below (s₁.setTop (mkF m 168 #[.val (.ref a0), .val (.int nn), .val (.int (h0_ ^^^ ((y2 &&& (255 : Int32)) <<< ((16 : Int32) &&& 31)))), .val (.int (0 : Int32)), .val (.int (nn - (0 : Int32))), .unset] [(.ref a0), (.int (h0_ ^^^ ((y2 &&& (255 : Int32)) <<< ((16 : Int32) &&& 31))))])) _
            refine XS.iloadN X0.here hx rfl (hb hby d3_168) rfl ?_
            obtain ⟨cl3, Ar3, -, SS3, MM3, HH3, -⟩ := id V_a0
            have hin3 := inb_of SS3 (own_in (i := (0 : Int32)) (k := 0) (by decide) (by decide) (own_g0 (by decide : (0 : Int32).toInt = 0) hn hc121))
            have hat3 : cl3.slots[((0 : Int32)).toNatClampNeg]? = some (.int y0) := HH3.at hin3 (yat0 (own_g0 (by decide : (0 : Int32).toInt = 0) hn hc121))
            show Steps p.tables e below (s₁.setTop (mkF m 169 #[.val (.ref a0), .val (.int nn), .val (.int (h0_ ^^^ ((y2 &&& (255 : Int32)) <<< ((16 : Int32) &&& 31)))), .val (.int (0 : Int32)), .val (.int (nn - (0 : Int32))), .unset] [(.int (0 : Int32)), (.ref a0), (.int (h0_ ^^^ ((y2 &&& (255 : Int32)) <<< ((16 : Int32) &&& 31))))])) _
            refine X0.baloadBytes hx (j := (0 : Int32)) (v := (.int y0)) (by rw [e0]; exact Ar3.1) (State.isArrayOf_alike hZ.alike Ar3.2.1) Ar3.2.2 hin3 hat3 (g := (mkF m 169 #[.val (.ref a0), .val (.int nn), .val (.int (h0_ ^^^ ((y2 &&& (255 : Int32)) <<< ((16 : Int32) &&& 31)))), .val (.int (0 : Int32)), .val (.int (nn - (0 : Int32))), .unset] [(.int (0 : Int32)), (.ref a0), (.int (h0_ ^^^ ((y2 &&& (255 : Int32)) <<< ((16 : Int32) &&& 31))))])) rfl rfl (hb hby d3_169) _ ?_
            show Steps p.tables e below (s₁.setTop (mkF m 170 #[.val (.ref a0), .val (.int nn), .val (.int (h0_ ^^^ ((y2 &&& (255 : Int32)) <<< ((16 : Int32) &&& 31)))), .val (.int (0 : Int32)), .val (.int (nn - (0 : Int32))), .unset] [(.int y0), (.int (h0_ ^^^ ((y2 &&& (255 : Int32)) <<< ((16 : Int32) &&& 31))))])) _
            refine XS.sipush X0.here hx rfl (hb hby d3_170) ?_
            show Steps p.tables e below (s₁.setTop (mkF m 173 #[.val (.ref a0), .val (.int nn), .val (.int (h0_ ^^^ ((y2 &&& (255 : Int32)) <<< ((16 : Int32) &&& 31)))), .val (.int (0 : Int32)), .val (.int (nn - (0 : Int32))), .unset] [(.int (255 : Int32)), (.int y0), (.int (h0_ ^^^ ((y2 &&& (255 : Int32)) <<< ((16 : Int32) &&& 31))))])) _
            refine XS.iand X0.here hx rfl (hb hby d3_173) rfl ?_
            show Steps p.tables e below (s₁.setTop (mkF m 174 #[.val (.ref a0), .val (.int nn), .val (.int (h0_ ^^^ ((y2 &&& (255 : Int32)) <<< ((16 : Int32) &&& 31)))), .val (.int (0 : Int32)), .val (.int (nn - (0 : Int32))), .unset] [(.int (y0 &&& (255 : Int32))), (.int (h0_ ^^^ ((y2 &&& (255 : Int32)) <<< ((16 : Int32) &&& 31))))])) _
            refine XS.ixor X0.here hx rfl (hb hby d3_174) rfl ?_
            show Steps p.tables e below (s₁.setTop (mkF m 175 #[.val (.ref a0), .val (.int nn), .val (.int (h0_ ^^^ ((y2 &&& (255 : Int32)) <<< ((16 : Int32) &&& 31)))), .val (.int (0 : Int32)), .val (.int (nn - (0 : Int32))), .unset] [(.int ((h0_ ^^^ ((y2 &&& (255 : Int32)) <<< ((16 : Int32) &&& 31))) ^^^ (y0 &&& (255 : Int32))))])) _
            refine XS.istoreN X0.here hx rfl (hb hby d3_175) rfl (l' := #[.val (.ref a0), .val (.int nn), .val (.int ((h0_ ^^^ ((y2 &&& (255 : Int32)) <<< ((16 : Int32) &&& 31))) ^^^ (y0 &&& (255 : Int32)))), .val (.int (0 : Int32)), .val (.int (nn - (0 : Int32))), .unset]) rfl ?_
            show Steps p.tables e below (s₁.setTop (mkF m 176 #[.val (.ref a0), .val (.int nn), .val (.int ((h0_ ^^^ ((y2 &&& (255 : Int32)) <<< ((16 : Int32) &&& 31))) ^^^ (y0 &&& (255 : Int32)))), .val (.int (0 : Int32)), .val (.int (nn - (0 : Int32))), .unset] [])) _
            refine XS.iloadN X0.here hx rfl (hb hby d3_176) rfl ?_
            show Steps p.tables e below (s₁.setTop (mkF m 177 #[.val (.ref a0), .val (.int nn), .val (.int ((h0_ ^^^ ((y2 &&& (255 : Int32)) <<< ((16 : Int32) &&& 31))) ^^^ (y0 &&& (255 : Int32)))), .val (.int (0 : Int32)), .val (.int (nn - (0 : Int32))), .unset] [(.int ((h0_ ^^^ ((y2 &&& (255 : Int32)) <<< ((16 : Int32) &&& 31))) ^^^ (y0 &&& (255 : Int32))))])) _
            refine X0.ldcInt hx hown (mvT hZ (hw _ (List.mem_of_getElem? (i := 13) rfl))) (g := (mkF m 177 #[.val (.ref a0), .val (.int nn), .val (.int ((h0_ ^^^ ((y2 &&& (255 : Int32)) <<< ((16 : Int32) &&& 31))) ^^^ (y0 &&& (255 : Int32)))), .val (.int (0 : Int32)), .val (.int (nn - (0 : Int32))), .unset] [(.int ((h0_ ^^^ ((y2 &&& (255 : Int32)) <<< ((16 : Int32) &&& 31))) ^^^ (y0 &&& (255 : Int32))))])) rfl (hb hby d3_177) _ ?_
            show Steps p.tables e below (s₁.setTop (mkF m 179 #[.val (.ref a0), .val (.int nn), .val (.int ((h0_ ^^^ ((y2 &&& (255 : Int32)) <<< ((16 : Int32) &&& 31))) ^^^ (y0 &&& (255 : Int32)))), .val (.int (0 : Int32)), .val (.int (nn - (0 : Int32))), .unset] [(.int (1540483477 : Int32)), (.int ((h0_ ^^^ ((y2 &&& (255 : Int32)) <<< ((16 : Int32) &&& 31))) ^^^ (y0 &&& (255 : Int32))))])) _
            refine XS.imul X0.here hx rfl (hb hby d3_179) rfl ?_
            show Steps p.tables e below (s₁.setTop (mkF m 180 #[.val (.ref a0), .val (.int nn), .val (.int ((h0_ ^^^ ((y2 &&& (255 : Int32)) <<< ((16 : Int32) &&& 31))) ^^^ (y0 &&& (255 : Int32)))), .val (.int (0 : Int32)), .val (.int (nn - (0 : Int32))), .unset] [(.int (((h0_ ^^^ ((y2 &&& (255 : Int32)) <<< ((16 : Int32) &&& 31))) ^^^ (y0 &&& (255 : Int32))) * (1540483477 : Int32)))])) _
            refine XS.istoreN X0.here hx rfl (hb hby d3_180) rfl (l' := #[.val (.ref a0), .val (.int nn), .val (.int (((h0_ ^^^ ((y2 &&& (255 : Int32)) <<< ((16 : Int32) &&& 31))) ^^^ (y0 &&& (255 : Int32))) * (1540483477 : Int32))), .val (.int (0 : Int32)), .val (.int (nn - (0 : Int32))), .unset]) rfl ?_
            try simp only [if_pos hc121, if_pos hc127, if_pos hc148] at k
            exact k
          · show Steps p.tables e below (s₁.setTop (mkF m 148 #[.val (.ref a0), .val (.int nn), .val (.int (h0_ ^^^ ((y2 &&& (255 : Int32)) <<< ((16 : Int32) &&& 31)))), .val (.int (0 : Int32)), .val (.int (nn - (0 : Int32))), .unset] [(.int (2 : Int32)), (.int (nn - (0 : Int32)))])) _
            refine XS.icmpNo X0.here hx rfl (hb hby d3_148) rfl (flt hc148).1 ?_
            show Steps p.tables e below (s₁.setTop (mkF m 151 #[.val (.ref a0), .val (.int nn), .val (.int (h0_ ^^^ ((y2 &&& (255 : Int32)) <<< ((16 : Int32) &&& 31)))), .val (.int (0 : Int32)), .val (.int (nn - (0 : Int32))), .unset] [])) _
            refine XS.iloadN X0.here hx rfl (hb hby d3_151) rfl ?_
            show Steps p.tables e below (s₁.setTop (mkF m 152 #[.val (.ref a0), .val (.int nn), .val (.int (h0_ ^^^ ((y2 &&& (255 : Int32)) <<< ((16 : Int32) &&& 31)))), .val (.int (0 : Int32)), .val (.int (nn - (0 : Int32))), .unset] [(.int (h0_ ^^^ ((y2 &&& (255 : Int32)) <<< ((16 : Int32) &&& 31))))])) _
            refine XS.aloadN X0.here hx rfl (hb hby d3_152) rfl rfl ?_
            show Steps p.tables e below (s₁.setTop (mkF m 153 #[.val (.ref a0), .val (.int nn), .val (.int (h0_ ^^^ ((y2 &&& (255 : Int32)) <<< ((16 : Int32) &&& 31)))), .val (.int (0 : Int32)), .val (.int (nn - (0 : Int32))), .unset] [(.ref a0), (.int (h0_ ^^^ ((y2 &&& (255 : Int32)) <<< ((16 : Int32) &&& 31))))])) _
            refine XS.iloadN X0.here hx rfl (hb hby d3_153) rfl ?_
            show Steps p.tables e below (s₁.setTop (mkF m 154 #[.val (.ref a0), .val (.int nn), .val (.int (h0_ ^^^ ((y2 &&& (255 : Int32)) <<< ((16 : Int32) &&& 31)))), .val (.int (0 : Int32)), .val (.int (nn - (0 : Int32))), .unset] [(.int (0 : Int32)), (.ref a0), (.int (h0_ ^^^ ((y2 &&& (255 : Int32)) <<< ((16 : Int32) &&& 31))))])) _
            refine XS.iconst X0.here hx rfl (hb hby d3_154) ?_
            show Steps p.tables e below (s₁.setTop (mkF m 155 #[.val (.ref a0), .val (.int nn), .val (.int (h0_ ^^^ ((y2 &&& (255 : Int32)) <<< ((16 : Int32) &&& 31)))), .val (.int (0 : Int32)), .val (.int (nn - (0 : Int32))), .unset] [(.int (1 : Int32)), (.int (0 : Int32)), (.ref a0), (.int (h0_ ^^^ ((y2 &&& (255 : Int32)) <<< ((16 : Int32) &&& 31))))])) _
            refine XS.iadd X0.here hx rfl (hb hby d3_155) rfl ?_
            obtain ⟨cl4, Ar4, -, SS4, MM4, HH4, -⟩ := id V_a0
            have hin4 := inb_of SS4 (own_in (i := ((0 : Int32) + (1 : Int32))) (k := 1) (by decide) (by decide) (own_g1 (by decide : (0 : Int32).toInt = 0) hn hc148))
            have hat4 : cl4.slots[(((0 : Int32) + (1 : Int32))).toNatClampNeg]? = some (.int y1) := HH4.at hin4 (yat1 (own_g1 (by decide : (0 : Int32).toInt = 0) hn hc148))
            show Steps p.tables e below (s₁.setTop (mkF m 156 #[.val (.ref a0), .val (.int nn), .val (.int (h0_ ^^^ ((y2 &&& (255 : Int32)) <<< ((16 : Int32) &&& 31)))), .val (.int (0 : Int32)), .val (.int (nn - (0 : Int32))), .unset] [(.int ((0 : Int32) + (1 : Int32))), (.ref a0), (.int (h0_ ^^^ ((y2 &&& (255 : Int32)) <<< ((16 : Int32) &&& 31))))])) _
            refine X0.baloadBytes hx (j := ((0 : Int32) + (1 : Int32))) (v := (.int y1)) (by rw [e0]; exact Ar4.1) (State.isArrayOf_alike hZ.alike Ar4.2.1) Ar4.2.2 hin4 hat4 (g := (mkF m 156 #[.val (.ref a0), .val (.int nn), .val (.int (h0_ ^^^ ((y2 &&& (255 : Int32)) <<< ((16 : Int32) &&& 31)))), .val (.int (0 : Int32)), .val (.int (nn - (0 : Int32))), .unset] [(.int ((0 : Int32) + (1 : Int32))), (.ref a0), (.int (h0_ ^^^ ((y2 &&& (255 : Int32)) <<< ((16 : Int32) &&& 31))))])) rfl rfl (hb hby d3_156) _ ?_
            show Steps p.tables e below (s₁.setTop (mkF m 157 #[.val (.ref a0), .val (.int nn), .val (.int (h0_ ^^^ ((y2 &&& (255 : Int32)) <<< ((16 : Int32) &&& 31)))), .val (.int (0 : Int32)), .val (.int (nn - (0 : Int32))), .unset] [(.int y1), (.int (h0_ ^^^ ((y2 &&& (255 : Int32)) <<< ((16 : Int32) &&& 31))))])) _
            refine XS.sipush X0.here hx rfl (hb hby d3_157) ?_
            show Steps p.tables e below (s₁.setTop (mkF m 160 #[.val (.ref a0), .val (.int nn), .val (.int (h0_ ^^^ ((y2 &&& (255 : Int32)) <<< ((16 : Int32) &&& 31)))), .val (.int (0 : Int32)), .val (.int (nn - (0 : Int32))), .unset] [(.int (255 : Int32)), (.int y1), (.int (h0_ ^^^ ((y2 &&& (255 : Int32)) <<< ((16 : Int32) &&& 31))))])) _
            refine XS.iand X0.here hx rfl (hb hby d3_160) rfl ?_
            show Steps p.tables e below (s₁.setTop (mkF m 161 #[.val (.ref a0), .val (.int nn), .val (.int (h0_ ^^^ ((y2 &&& (255 : Int32)) <<< ((16 : Int32) &&& 31)))), .val (.int (0 : Int32)), .val (.int (nn - (0 : Int32))), .unset] [(.int (y1 &&& (255 : Int32))), (.int (h0_ ^^^ ((y2 &&& (255 : Int32)) <<< ((16 : Int32) &&& 31))))])) _
            refine XS.bipush X0.here hx rfl (hb hby d3_161) ?_
            show Steps p.tables e below (s₁.setTop (mkF m 163 #[.val (.ref a0), .val (.int nn), .val (.int (h0_ ^^^ ((y2 &&& (255 : Int32)) <<< ((16 : Int32) &&& 31)))), .val (.int (0 : Int32)), .val (.int (nn - (0 : Int32))), .unset] [(.int (8 : Int32)), (.int (y1 &&& (255 : Int32))), (.int (h0_ ^^^ ((y2 &&& (255 : Int32)) <<< ((16 : Int32) &&& 31))))])) _
            refine XS.ishl X0.here hx rfl (hb hby d3_163) rfl ?_
            show Steps p.tables e below (s₁.setTop (mkF m 164 #[.val (.ref a0), .val (.int nn), .val (.int (h0_ ^^^ ((y2 &&& (255 : Int32)) <<< ((16 : Int32) &&& 31)))), .val (.int (0 : Int32)), .val (.int (nn - (0 : Int32))), .unset] [(.int ((y1 &&& (255 : Int32)) <<< ((8 : Int32) &&& 31))), (.int (h0_ ^^^ ((y2 &&& (255 : Int32)) <<< ((16 : Int32) &&& 31))))])) _
            refine XS.ixor X0.here hx rfl (hb hby d3_164) rfl ?_
            show Steps p.tables e below (s₁.setTop (mkF m 165 #[.val (.ref a0), .val (.int nn), .val (.int (h0_ ^^^ ((y2 &&& (255 : Int32)) <<< ((16 : Int32) &&& 31)))), .val (.int (0 : Int32)), .val (.int (nn - (0 : Int32))), .unset] [(.int ((h0_ ^^^ ((y2 &&& (255 : Int32)) <<< ((16 : Int32) &&& 31))) ^^^ ((y1 &&& (255 : Int32)) <<< ((8 : Int32) &&& 31))))])) _
            refine XS.istoreN X0.here hx rfl (hb hby d3_165) rfl (l' := #[.val (.ref a0), .val (.int nn), .val (.int ((h0_ ^^^ ((y2 &&& (255 : Int32)) <<< ((16 : Int32) &&& 31))) ^^^ ((y1 &&& (255 : Int32)) <<< ((8 : Int32) &&& 31)))), .val (.int (0 : Int32)), .val (.int (nn - (0 : Int32))), .unset]) rfl ?_
            show Steps p.tables e below (s₁.setTop (mkF m 166 #[.val (.ref a0), .val (.int nn), .val (.int ((h0_ ^^^ ((y2 &&& (255 : Int32)) <<< ((16 : Int32) &&& 31))) ^^^ ((y1 &&& (255 : Int32)) <<< ((8 : Int32) &&& 31)))), .val (.int (0 : Int32)), .val (.int (nn - (0 : Int32))), .unset] [])) _
            refine XS.iloadN X0.here hx rfl (hb hby d3_166) rfl ?_
            show Steps p.tables e below (s₁.setTop (mkF m 167 #[.val (.ref a0), .val (.int nn), .val (.int ((h0_ ^^^ ((y2 &&& (255 : Int32)) <<< ((16 : Int32) &&& 31))) ^^^ ((y1 &&& (255 : Int32)) <<< ((8 : Int32) &&& 31)))), .val (.int (0 : Int32)), .val (.int (nn - (0 : Int32))), .unset] [(.int ((h0_ ^^^ ((y2 &&& (255 : Int32)) <<< ((16 : Int32) &&& 31))) ^^^ ((y1 &&& (255 : Int32)) <<< ((8 : Int32) &&& 31))))])) _
            refine XS.aloadN X0.here hx rfl (hb hby d3_167) rfl rfl ?_
            show Steps p.tables e below (s₁.setTop (mkF m 168 #[.val (.ref a0), .val (.int nn), .val (.int ((h0_ ^^^ ((y2 &&& (255 : Int32)) <<< ((16 : Int32) &&& 31))) ^^^ ((y1 &&& (255 : Int32)) <<< ((8 : Int32) &&& 31)))), .val (.int (0 : Int32)), .val (.int (nn - (0 : Int32))), .unset] [(.ref a0), (.int ((h0_ ^^^ ((y2 &&& (255 : Int32)) <<< ((16 : Int32) &&& 31))) ^^^ ((y1 &&& (255 : Int32)) <<< ((8 : Int32) &&& 31))))])) _
            refine XS.iloadN X0.here hx rfl (hb hby d3_168) rfl ?_
            obtain ⟨cl5, Ar5, -, SS5, MM5, HH5, -⟩ := id V_a0
            have hin5 := inb_of SS5 (own_in (i := (0 : Int32)) (k := 0) (by decide) (by decide) (own_g0 (by decide : (0 : Int32).toInt = 0) hn hc121))
            have hat5 : cl5.slots[((0 : Int32)).toNatClampNeg]? = some (.int y0) := HH5.at hin5 (yat0 (own_g0 (by decide : (0 : Int32).toInt = 0) hn hc121))
            show Steps p.tables e below (s₁.setTop (mkF m 169 #[.val (.ref a0), .val (.int nn), .val (.int ((h0_ ^^^ ((y2 &&& (255 : Int32)) <<< ((16 : Int32) &&& 31))) ^^^ ((y1 &&& (255 : Int32)) <<< ((8 : Int32) &&& 31)))), .val (.int (0 : Int32)), .val (.int (nn - (0 : Int32))), .unset] [(.int (0 : Int32)), (.ref a0), (.int ((h0_ ^^^ ((y2 &&& (255 : Int32)) <<< ((16 : Int32) &&& 31))) ^^^ ((y1 &&& (255 : Int32)) <<< ((8 : Int32) &&& 31))))])) _
            refine X0.baloadBytes hx (j := (0 : Int32)) (v := (.int y0)) (by rw [e0]; exact Ar5.1) (State.isArrayOf_alike hZ.alike Ar5.2.1) Ar5.2.2 hin5 hat5 (g := (mkF m 169 #[.val (.ref a0), .val (.int nn), .val (.int ((h0_ ^^^ ((y2 &&& (255 : Int32)) <<< ((16 : Int32) &&& 31))) ^^^ ((y1 &&& (255 : Int32)) <<< ((8 : Int32) &&& 31)))), .val (.int (0 : Int32)), .val (.int (nn - (0 : Int32))), .unset] [(.int (0 : Int32)), (.ref a0), (.int ((h0_ ^^^ ((y2 &&& (255 : Int32)) <<< ((16 : Int32) &&& 31))) ^^^ ((y1 &&& (255 : Int32)) <<< ((8 : Int32) &&& 31))))])) rfl rfl (hb hby d3_169) _ ?_
            show Steps p.tables e below (s₁.setTop (mkF m 170 #[.val (.ref a0), .val (.int nn), .val (.int ((h0_ ^^^ ((y2 &&& (255 : Int32)) <<< ((16 : Int32) &&& 31))) ^^^ ((y1 &&& (255 : Int32)) <<< ((8 : Int32) &&& 31)))), .val (.int (0 : Int32)), .val (.int (nn - (0 : Int32))), .unset] [(.int y0), (.int ((h0_ ^^^ ((y2 &&& (255 : Int32)) <<< ((16 : Int32) &&& 31))) ^^^ ((y1 &&& (255 : Int32)) <<< ((8 : Int32) &&& 31))))])) _
            refine XS.sipush X0.here hx rfl (hb hby d3_170) ?_
            show Steps p.tables e below (s₁.setTop (mkF m 173 #[.val (.ref a0), .val (.int nn), .val (.int ((h0_ ^^^ ((y2 &&& (255 : Int32)) <<< ((16 : Int32) &&& 31))) ^^^ ((y1 &&& (255 : Int32)) <<< ((8 : Int32) &&& 31)))), .val (.int (0 : Int32)), .val (.int (nn - (0 : Int32))), .unset] [(.int (255 : Int32)), (.int y0), (.int ((h0_ ^^^ ((y2 &&& (255 : Int32)) <<< ((16 : Int32) &&& 31))) ^^^ ((y1 &&& (255 : Int32)) <<< ((8 : Int32) &&& 31))))])) _
            refine XS.iand X0.here hx rfl (hb hby d3_173) rfl ?_
            show Steps p.tables e below (s₁.setTop (mkF m 174 #[.val (.ref a0), .val (.int nn), .val (.int ((h0_ ^^^ ((y2 &&& (255 : Int32)) <<< ((16 : Int32) &&& 31))) ^^^ ((y1 &&& (255 : Int32)) <<< ((8 : Int32) &&& 31)))), .val (.int (0 : Int32)), .val (.int (nn - (0 : Int32))), .unset] [(.int (y0 &&& (255 : Int32))), (.int ((h0_ ^^^ ((y2 &&& (255 : Int32)) <<< ((16 : Int32) &&& 31))) ^^^ ((y1 &&& (255 : Int32)) <<< ((8 : Int32) &&& 31))))])) _
            refine XS.ixor X0.here hx rfl (hb hby d3_174) rfl ?_
            show Steps p.tables e below (s₁.setTop (mkF m 175 #[.val (.ref a0), .val (.int nn), .val (.int ((h0_ ^^^ ((y2 &&& (255 : Int32)) <<< ((16 : Int32) &&& 31))) ^^^ ((y1 &&& (255 : Int32)) <<< ((8 : Int32) &&& 31)))), .val (.int (0 : Int32)), .val (.int (nn - (0 : Int32))), .unset] [(.int (((h0_ ^^^ ((y2 &&& (255 : Int32)) <<< ((16 : Int32) &&& 31))) ^^^ ((y1 &&& (255 : Int32)) <<< ((8 : Int32) &&& 31))) ^^^ (y0 &&& (255 : Int32))))])) _
            refine XS.istoreN X0.here hx rfl (hb hby d3_175) rfl (l' := #[.val (.ref a0), .val (.int nn), .val (.int (((h0_ ^^^ ((y2 &&& (255 : Int32)) <<< ((16 : Int32) &&& 31))) ^^^ ((y1 &&& (255 : Int32)) <<< ((8 : Int32) &&& 31))) ^^^ (y0 &&& (255 : Int32)))), .val (.int (0 : Int32)), .val (.int (nn - (0 : Int32))), .unset]) rfl ?_
            show Steps p.tables e below (s₁.setTop (mkF m 176 #[.val (.ref a0), .val (.int nn), .val (.int (((h0_ ^^^ ((y2 &&& (255 : Int32)) <<< ((16 : Int32) &&& 31))) ^^^ ((y1 &&& (255 : Int32)) <<< ((8 : Int32) &&& 31))) ^^^ (y0 &&& (255 : Int32)))), .val (.int (0 : Int32)), .val (.int (nn - (0 : Int32))), .unset] [])) _
            refine XS.iloadN X0.here hx rfl (hb hby d3_176) rfl ?_
            show Steps p.tables e below (s₁.setTop (mkF m 177 #[.val (.ref a0), .val (.int nn), .val (.int (((h0_ ^^^ ((y2 &&& (255 : Int32)) <<< ((16 : Int32) &&& 31))) ^^^ ((y1 &&& (255 : Int32)) <<< ((8 : Int32) &&& 31))) ^^^ (y0 &&& (255 : Int32)))), .val (.int (0 : Int32)), .val (.int (nn - (0 : Int32))), .unset] [(.int (((h0_ ^^^ ((y2 &&& (255 : Int32)) <<< ((16 : Int32) &&& 31))) ^^^ ((y1 &&& (255 : Int32)) <<< ((8 : Int32) &&& 31))) ^^^ (y0 &&& (255 : Int32))))])) _
            refine X0.ldcInt hx hown (mvT hZ (hw _ (List.mem_of_getElem? (i := 13) rfl))) (g := (mkF m 177 #[.val (.ref a0), .val (.int nn), .val (.int (((h0_ ^^^ ((y2 &&& (255 : Int32)) <<< ((16 : Int32) &&& 31))) ^^^ ((y1 &&& (255 : Int32)) <<< ((8 : Int32) &&& 31))) ^^^ (y0 &&& (255 : Int32)))), .val (.int (0 : Int32)), .val (.int (nn - (0 : Int32))), .unset] [(.int (((h0_ ^^^ ((y2 &&& (255 : Int32)) <<< ((16 : Int32) &&& 31))) ^^^ ((y1 &&& (255 : Int32)) <<< ((8 : Int32) &&& 31))) ^^^ (y0 &&& (255 : Int32))))])) rfl (hb hby d3_177) _ ?_
            show Steps p.tables e below (s₁.setTop (mkF m 179 #[.val (.ref a0), .val (.int nn), .val (.int (((h0_ ^^^ ((y2 &&& (255 : Int32)) <<< ((16 : Int32) &&& 31))) ^^^ ((y1 &&& (255 : Int32)) <<< ((8 : Int32) &&& 31))) ^^^ (y0 &&& (255 : Int32)))), .val (.int (0 : Int32)), .val (.int (nn - (0 : Int32))), .unset] [(.int (1540483477 : Int32)), (.int (((h0_ ^^^ ((y2 &&& (255 : Int32)) <<< ((16 : Int32) &&& 31))) ^^^ ((y1 &&& (255 : Int32)) <<< ((8 : Int32) &&& 31))) ^^^ (y0 &&& (255 : Int32))))])) _
            refine XS.imul X0.here hx rfl (hb hby d3_179) rfl ?_
            show Steps p.tables e below (s₁.setTop (mkF m 180 #[.val (.ref a0), .val (.int nn), .val (.int (((h0_ ^^^ ((y2 &&& (255 : Int32)) <<< ((16 : Int32) &&& 31))) ^^^ ((y1 &&& (255 : Int32)) <<< ((8 : Int32) &&& 31))) ^^^ (y0 &&& (255 : Int32)))), .val (.int (0 : Int32)), .val (.int (nn - (0 : Int32))), .unset] [(.int ((((h0_ ^^^ ((y2 &&& (255 : Int32)) <<< ((16 : Int32) &&& 31))) ^^^ ((y1 &&& (255 : Int32)) <<< ((8 : Int32) &&& 31))) ^^^ (y0 &&& (255 : Int32))) * (1540483477 : Int32)))])) _
            refine XS.istoreN X0.here hx rfl (hb hby d3_180) rfl (l' := #[.val (.ref a0), .val (.int nn), .val (.int ((((h0_ ^^^ ((y2 &&& (255 : Int32)) <<< ((16 : Int32) &&& 31))) ^^^ ((y1 &&& (255 : Int32)) <<< ((8 : Int32) &&& 31))) ^^^ (y0 &&& (255 : Int32))) * (1540483477 : Int32))), .val (.int (0 : Int32)), .val (.int (nn - (0 : Int32))), .unset]) rfl ?_
            try simp only [if_pos hc121, if_pos hc127, if_neg hc148] at k
            exact k
        · show Steps p.tables e below (s₁.setTop (mkF m 127 #[.val (.ref a0), .val (.int nn), .val (.int h0_), .val (.int (0 : Int32)), .val (.int (nn - (0 : Int32))), .unset] [(.int (nn - (0 : Int32))), (.int (3 : Int32))])) _
          refine XS.icmpYes X0.here hx rfl (pc0 := 127) (pc' := 145) rfl (hb hby d3_127) rfl (feq hc127).2 (by decide) (by decide) ?_
          show Steps p.tables e below (s₁.setTop (mkF m 145 #[.val (.ref a0), .val (.int nn), .val (.int h0_), .val (.int (0 : Int32)), .val (.int (nn - (0 : Int32))), .unset] [])) _
          refine XS.iload X0.here hx rfl (hb hby d3_145) rfl ?_
          show Steps p.tables e below (s₁.setTop (mkF m 147 #[.val (.ref a0), .val (.int nn), .val (.int h0_), .val (.int (0 : Int32)), .val (.int (nn - (0 : Int32))), .unset] [(.int (nn - (0 : Int32)))])) _
          refine XS.iconst X0.here hx rfl (hb hby d3_147) ?_
          by_cases hc148 : (nn - (0 : Int32)) < (2 : Int32)
          · show Steps p.tables e below (s₁.setTop (mkF m 148 #[.val (.ref a0), .val (.int nn), .val (.int h0_), .val (.int (0 : Int32)), .val (.int (nn - (0 : Int32))), .unset] [(.int (2 : Int32)), (.int (nn - (0 : Int32)))])) _
            refine XS.icmpYes X0.here hx rfl (pc0 := 148) (pc' := 166) rfl (hb hby d3_148) rfl (tlt hc148).1 (by decide) (by decide) ?_
            show Steps p.tables e below (s₁.setTop (mkF m 166 #[.val (.ref a0), .val (.int nn), .val (.int h0_), .val (.int (0 : Int32)), .val (.int (nn - (0 : Int32))), .unset] [])) _
            refine XS.iloadN X0.here hx rfl (hb hby d3_166) rfl ?_
            show Steps p.tables e below (s₁.setTop (mkF m 167 #[.val (.ref a0), .val (.int nn), .val (.int h0_), .val (.int (0 : Int32)), .val (.int (nn - (0 : Int32))), .unset] [(.int h0_)])) _
            refine XS.aloadN X0.here hx rfl (hb hby d3_167) rfl rfl ?_
            show Steps p.tables e below (s₁.setTop (mkF m 168 #[.val (.ref a0), .val (.int nn), .val (.int h0_), .val (.int (0 : Int32)), .val (.int (nn - (0 : Int32))), .unset] [(.ref a0), (.int h0_)])) _
            refine XS.iloadN X0.here hx rfl (hb hby d3_168) rfl ?_
            obtain ⟨cl6, Ar6, -, SS6, MM6, HH6, -⟩ := id V_a0
            have hin6 := inb_of SS6 (own_in (i := (0 : Int32)) (k := 0) (by decide) (by decide) (own_g0 (by decide : (0 : Int32).toInt = 0) hn hc121))
            have hat6 : cl6.slots[((0 : Int32)).toNatClampNeg]? = some (.int y0) := HH6.at hin6 (yat0 (own_g0 (by decide : (0 : Int32).toInt = 0) hn hc121))
            show Steps p.tables e below (s₁.setTop (mkF m 169 #[.val (.ref a0), .val (.int nn), .val (.int h0_), .val (.int (0 : Int32)), .val (.int (nn - (0 : Int32))), .unset] [(.int (0 : Int32)), (.ref a0), (.int h0_)])) _
            refine X0.baloadBytes hx (j := (0 : Int32)) (v := (.int y0)) (by rw [e0]; exact Ar6.1) (State.isArrayOf_alike hZ.alike Ar6.2.1) Ar6.2.2 hin6 hat6 (g := (mkF m 169 #[.val (.ref a0), .val (.int nn), .val (.int h0_), .val (.int (0 : Int32)), .val (.int (nn - (0 : Int32))), .unset] [(.int (0 : Int32)), (.ref a0), (.int h0_)])) rfl rfl (hb hby d3_169) _ ?_
            show Steps p.tables e below (s₁.setTop (mkF m 170 #[.val (.ref a0), .val (.int nn), .val (.int h0_), .val (.int (0 : Int32)), .val (.int (nn - (0 : Int32))), .unset] [(.int y0), (.int h0_)])) _
            refine XS.sipush X0.here hx rfl (hb hby d3_170) ?_
            show Steps p.tables e below (s₁.setTop (mkF m 173 #[.val (.ref a0), .val (.int nn), .val (.int h0_), .val (.int (0 : Int32)), .val (.int (nn - (0 : Int32))), .unset] [(.int (255 : Int32)), (.int y0), (.int h0_)])) _
            refine XS.iand X0.here hx rfl (hb hby d3_173) rfl ?_
            show Steps p.tables e below (s₁.setTop (mkF m 174 #[.val (.ref a0), .val (.int nn), .val (.int h0_), .val (.int (0 : Int32)), .val (.int (nn - (0 : Int32))), .unset] [(.int (y0 &&& (255 : Int32))), (.int h0_)])) _
            refine XS.ixor X0.here hx rfl (hb hby d3_174) rfl ?_
            show Steps p.tables e below (s₁.setTop (mkF m 175 #[.val (.ref a0), .val (.int nn), .val (.int h0_), .val (.int (0 : Int32)), .val (.int (nn - (0 : Int32))), .unset] [(.int (h0_ ^^^ (y0 &&& (255 : Int32))))])) _
            refine XS.istoreN X0.here hx rfl (hb hby d3_175) rfl (l' := #[.val (.ref a0), .val (.int nn), .val (.int (h0_ ^^^ (y0 &&& (255 : Int32)))), .val (.int (0 : Int32)), .val (.int (nn - (0 : Int32))), .unset]) rfl ?_
            show Steps p.tables e below (s₁.setTop (mkF m 176 #[.val (.ref a0), .val (.int nn), .val (.int (h0_ ^^^ (y0 &&& (255 : Int32)))), .val (.int (0 : Int32)), .val (.int (nn - (0 : Int32))), .unset] [])) _
            refine XS.iloadN X0.here hx rfl (hb hby d3_176) rfl ?_
            show Steps p.tables e below (s₁.setTop (mkF m 177 #[.val (.ref a0), .val (.int nn), .val (.int (h0_ ^^^ (y0 &&& (255 : Int32)))), .val (.int (0 : Int32)), .val (.int (nn - (0 : Int32))), .unset] [(.int (h0_ ^^^ (y0 &&& (255 : Int32))))])) _
            refine X0.ldcInt hx hown (mvT hZ (hw _ (List.mem_of_getElem? (i := 13) rfl))) (g := (mkF m 177 #[.val (.ref a0), .val (.int nn), .val (.int (h0_ ^^^ (y0 &&& (255 : Int32)))), .val (.int (0 : Int32)), .val (.int (nn - (0 : Int32))), .unset] [(.int (h0_ ^^^ (y0 &&& (255 : Int32))))])) rfl (hb hby d3_177) _ ?_
            show Steps p.tables e below (s₁.setTop (mkF m 179 #[.val (.ref a0), .val (.int nn), .val (.int (h0_ ^^^ (y0 &&& (255 : Int32)))), .val (.int (0 : Int32)), .val (.int (nn - (0 : Int32))), .unset] [(.int (1540483477 : Int32)), (.int (h0_ ^^^ (y0 &&& (255 : Int32))))])) _
            refine XS.imul X0.here hx rfl (hb hby d3_179) rfl ?_
            show Steps p.tables e below (s₁.setTop (mkF m 180 #[.val (.ref a0), .val (.int nn), .val (.int (h0_ ^^^ (y0 &&& (255 : Int32)))), .val (.int (0 : Int32)), .val (.int (nn - (0 : Int32))), .unset] [(.int ((h0_ ^^^ (y0 &&& (255 : Int32))) * (1540483477 : Int32)))])) _
            refine XS.istoreN X0.here hx rfl (hb hby d3_180) rfl (l' := #[.val (.ref a0), .val (.int nn), .val (.int ((h0_ ^^^ (y0 &&& (255 : Int32))) * (1540483477 : Int32))), .val (.int (0 : Int32)), .val (.int (nn - (0 : Int32))), .unset]) rfl ?_
            try simp only [if_pos hc121, if_neg hc127, if_pos hc148] at k
            exact k
          · show Steps p.tables e below (s₁.setTop (mkF m 148 #[.val (.ref a0), .val (.int nn), .val (.int h0_), .val (.int (0 : Int32)), .val (.int (nn - (0 : Int32))), .unset] [(.int (2 : Int32)), (.int (nn - (0 : Int32)))])) _
            refine XS.icmpNo X0.here hx rfl (hb hby d3_148) rfl (flt hc148).1 ?_
            show Steps p.tables e below (s₁.setTop (mkF m 151 #[.val (.ref a0), .val (.int nn), .val (.int h0_), .val (.int (0 : Int32)), .val (.int (nn - (0 : Int32))), .unset] [])) _
            refine XS.iloadN X0.here hx rfl (hb hby d3_151) rfl ?_
            show Steps p.tables e below (s₁.setTop (mkF m 152 #[.val (.ref a0), .val (.int nn), .val (.int h0_), .val (.int (0 : Int32)), .val (.int (nn - (0 : Int32))), .unset] [(.int h0_)])) _
            refine XS.aloadN X0.here hx rfl (hb hby d3_152) rfl rfl ?_
            show Steps p.tables e below (s₁.setTop (mkF m 153 #[.val (.ref a0), .val (.int nn), .val (.int h0_), .val (.int (0 : Int32)), .val (.int (nn - (0 : Int32))), .unset] [(.ref a0), (.int h0_)])) _
            refine XS.iloadN X0.here hx rfl (hb hby d3_153) rfl ?_
            show Steps p.tables e below (s₁.setTop (mkF m 154 #[.val (.ref a0), .val (.int nn), .val (.int h0_), .val (.int (0 : Int32)), .val (.int (nn - (0 : Int32))), .unset] [(.int (0 : Int32)), (.ref a0), (.int h0_)])) _
            refine XS.iconst X0.here hx rfl (hb hby d3_154) ?_
            show Steps p.tables e below (s₁.setTop (mkF m 155 #[.val (.ref a0), .val (.int nn), .val (.int h0_), .val (.int (0 : Int32)), .val (.int (nn - (0 : Int32))), .unset] [(.int (1 : Int32)), (.int (0 : Int32)), (.ref a0), (.int h0_)])) _
            refine XS.iadd X0.here hx rfl (hb hby d3_155) rfl ?_
            obtain ⟨cl7, Ar7, -, SS7, MM7, HH7, -⟩ := id V_a0
            have hin7 := inb_of SS7 (own_in (i := ((0 : Int32) + (1 : Int32))) (k := 1) (by decide) (by decide) (own_g1 (by decide : (0 : Int32).toInt = 0) hn hc148))
            have hat7 : cl7.slots[(((0 : Int32) + (1 : Int32))).toNatClampNeg]? = some (.int y1) := HH7.at hin7 (yat1 (own_g1 (by decide : (0 : Int32).toInt = 0) hn hc148))
            show Steps p.tables e below (s₁.setTop (mkF m 156 #[.val (.ref a0), .val (.int nn), .val (.int h0_), .val (.int (0 : Int32)), .val (.int (nn - (0 : Int32))), .unset] [(.int ((0 : Int32) + (1 : Int32))), (.ref a0), (.int h0_)])) _
            refine X0.baloadBytes hx (j := ((0 : Int32) + (1 : Int32))) (v := (.int y1)) (by rw [e0]; exact Ar7.1) (State.isArrayOf_alike hZ.alike Ar7.2.1) Ar7.2.2 hin7 hat7 (g := (mkF m 156 #[.val (.ref a0), .val (.int nn), .val (.int h0_), .val (.int (0 : Int32)), .val (.int (nn - (0 : Int32))), .unset] [(.int ((0 : Int32) + (1 : Int32))), (.ref a0), (.int h0_)])) rfl rfl (hb hby d3_156) _ ?_
            show Steps p.tables e below (s₁.setTop (mkF m 157 #[.val (.ref a0), .val (.int nn), .val (.int h0_), .val (.int (0 : Int32)), .val (.int (nn - (0 : Int32))), .unset] [(.int y1), (.int h0_)])) _
            refine XS.sipush X0.here hx rfl (hb hby d3_157) ?_
            show Steps p.tables e below (s₁.setTop (mkF m 160 #[.val (.ref a0), .val (.int nn), .val (.int h0_), .val (.int (0 : Int32)), .val (.int (nn - (0 : Int32))), .unset] [(.int (255 : Int32)), (.int y1), (.int h0_)])) _
            refine XS.iand X0.here hx rfl (hb hby d3_160) rfl ?_
            show Steps p.tables e below (s₁.setTop (mkF m 161 #[.val (.ref a0), .val (.int nn), .val (.int h0_), .val (.int (0 : Int32)), .val (.int (nn - (0 : Int32))), .unset] [(.int (y1 &&& (255 : Int32))), (.int h0_)])) _
            refine XS.bipush X0.here hx rfl (hb hby d3_161) ?_
            show Steps p.tables e below (s₁.setTop (mkF m 163 #[.val (.ref a0), .val (.int nn), .val (.int h0_), .val (.int (0 : Int32)), .val (.int (nn - (0 : Int32))), .unset] [(.int (8 : Int32)), (.int (y1 &&& (255 : Int32))), (.int h0_)])) _
            refine XS.ishl X0.here hx rfl (hb hby d3_163) rfl ?_
            show Steps p.tables e below (s₁.setTop (mkF m 164 #[.val (.ref a0), .val (.int nn), .val (.int h0_), .val (.int (0 : Int32)), .val (.int (nn - (0 : Int32))), .unset] [(.int ((y1 &&& (255 : Int32)) <<< ((8 : Int32) &&& 31))), (.int h0_)])) _
            refine XS.ixor X0.here hx rfl (hb hby d3_164) rfl ?_
            show Steps p.tables e below (s₁.setTop (mkF m 165 #[.val (.ref a0), .val (.int nn), .val (.int h0_), .val (.int (0 : Int32)), .val (.int (nn - (0 : Int32))), .unset] [(.int (h0_ ^^^ ((y1 &&& (255 : Int32)) <<< ((8 : Int32) &&& 31))))])) _
            refine XS.istoreN X0.here hx rfl (hb hby d3_165) rfl (l' := #[.val (.ref a0), .val (.int nn), .val (.int (h0_ ^^^ ((y1 &&& (255 : Int32)) <<< ((8 : Int32) &&& 31)))), .val (.int (0 : Int32)), .val (.int (nn - (0 : Int32))), .unset]) rfl ?_
            show Steps p.tables e below (s₁.setTop (mkF m 166 #[.val (.ref a0), .val (.int nn), .val (.int (h0_ ^^^ ((y1 &&& (255 : Int32)) <<< ((8 : Int32) &&& 31)))), .val (.int (0 : Int32)), .val (.int (nn - (0 : Int32))), .unset] [])) _
            refine XS.iloadN X0.here hx rfl (hb hby d3_166) rfl ?_
            show Steps p.tables e below (s₁.setTop (mkF m 167 #[.val (.ref a0), .val (.int nn), .val (.int (h0_ ^^^ ((y1 &&& (255 : Int32)) <<< ((8 : Int32) &&& 31)))), .val (.int (0 : Int32)), .val (.int (nn - (0 : Int32))), .unset] [(.int (h0_ ^^^ ((y1 &&& (255 : Int32)) <<< ((8 : Int32) &&& 31))))])) _
            refine XS.aloadN X0.here hx rfl (hb hby d3_167) rfl rfl ?_
            show Steps p.tables e below (s₁.setTop (mkF m 168 #[.val (.ref a0), .val (.int nn), .val (.int (h0_ ^^^ ((y1 &&& (255 : Int32)) <<< ((8 : Int32) &&& 31)))), .val (.int (0 : Int32)), .val (.int (nn - (0 : Int32))), .unset] [(.ref a0), (.int (h0_ ^^^ ((y1 &&& (255 : Int32)) <<< ((8 : Int32) &&& 31))))])) _
            refine XS.iloadN X0.here hx rfl (hb hby d3_168) rfl ?_
            obtain ⟨cl8, Ar8, -, SS8, MM8, HH8, -⟩ := id V_a0
            have hin8 := inb_of SS8 (own_in (i := (0 : Int32)) (k := 0) (by decide) (by decide) (own_g0 (by decide : (0 : Int32).toInt = 0) hn hc121))
            have hat8 : cl8.slots[((0 : Int32)).toNatClampNeg]? = some (.int y0) := HH8.at hin8 (yat0 (own_g0 (by decide : (0 : Int32).toInt = 0) hn hc121))
            show Steps p.tables e below (s₁.setTop (mkF m 169 #[.val (.ref a0), .val (.int nn), .val (.int (h0_ ^^^ ((y1 &&& (255 : Int32)) <<< ((8 : Int32) &&& 31)))), .val (.int (0 : Int32)), .val (.int (nn - (0 : Int32))), .unset] [(.int (0 : Int32)), (.ref a0), (.int (h0_ ^^^ ((y1 &&& (255 : Int32)) <<< ((8 : Int32) &&& 31))))])) _
            refine X0.baloadBytes hx (j := (0 : Int32)) (v := (.int y0)) (by rw [e0]; exact Ar8.1) (State.isArrayOf_alike hZ.alike Ar8.2.1) Ar8.2.2 hin8 hat8 (g := (mkF m 169 #[.val (.ref a0), .val (.int nn), .val (.int (h0_ ^^^ ((y1 &&& (255 : Int32)) <<< ((8 : Int32) &&& 31)))), .val (.int (0 : Int32)), .val (.int (nn - (0 : Int32))), .unset] [(.int (0 : Int32)), (.ref a0), (.int (h0_ ^^^ ((y1 &&& (255 : Int32)) <<< ((8 : Int32) &&& 31))))])) rfl rfl (hb hby d3_169) _ ?_
            show Steps p.tables e below (s₁.setTop (mkF m 170 #[.val (.ref a0), .val (.int nn), .val (.int (h0_ ^^^ ((y1 &&& (255 : Int32)) <<< ((8 : Int32) &&& 31)))), .val (.int (0 : Int32)), .val (.int (nn - (0 : Int32))), .unset] [(.int y0), (.int (h0_ ^^^ ((y1 &&& (255 : Int32)) <<< ((8 : Int32) &&& 31))))])) _
            refine XS.sipush X0.here hx rfl (hb hby d3_170) ?_
            show Steps p.tables e below (s₁.setTop (mkF m 173 #[.val (.ref a0), .val (.int nn), .val (.int (h0_ ^^^ ((y1 &&& (255 : Int32)) <<< ((8 : Int32) &&& 31)))), .val (.int (0 : Int32)), .val (.int (nn - (0 : Int32))), .unset] [(.int (255 : Int32)), (.int y0), (.int (h0_ ^^^ ((y1 &&& (255 : Int32)) <<< ((8 : Int32) &&& 31))))])) _
            refine XS.iand X0.here hx rfl (hb hby d3_173) rfl ?_
            show Steps p.tables e below (s₁.setTop (mkF m 174 #[.val (.ref a0), .val (.int nn), .val (.int (h0_ ^^^ ((y1 &&& (255 : Int32)) <<< ((8 : Int32) &&& 31)))), .val (.int (0 : Int32)), .val (.int (nn - (0 : Int32))), .unset] [(.int (y0 &&& (255 : Int32))), (.int (h0_ ^^^ ((y1 &&& (255 : Int32)) <<< ((8 : Int32) &&& 31))))])) _
            refine XS.ixor X0.here hx rfl (hb hby d3_174) rfl ?_
            show Steps p.tables e below (s₁.setTop (mkF m 175 #[.val (.ref a0), .val (.int nn), .val (.int (h0_ ^^^ ((y1 &&& (255 : Int32)) <<< ((8 : Int32) &&& 31)))), .val (.int (0 : Int32)), .val (.int (nn - (0 : Int32))), .unset] [(.int ((h0_ ^^^ ((y1 &&& (255 : Int32)) <<< ((8 : Int32) &&& 31))) ^^^ (y0 &&& (255 : Int32))))])) _
            refine XS.istoreN X0.here hx rfl (hb hby d3_175) rfl (l' := #[.val (.ref a0), .val (.int nn), .val (.int ((h0_ ^^^ ((y1 &&& (255 : Int32)) <<< ((8 : Int32) &&& 31))) ^^^ (y0 &&& (255 : Int32)))), .val (.int (0 : Int32)), .val (.int (nn - (0 : Int32))), .unset]) rfl ?_
            show Steps p.tables e below (s₁.setTop (mkF m 176 #[.val (.ref a0), .val (.int nn), .val (.int ((h0_ ^^^ ((y1 &&& (255 : Int32)) <<< ((8 : Int32) &&& 31))) ^^^ (y0 &&& (255 : Int32)))), .val (.int (0 : Int32)), .val (.int (nn - (0 : Int32))), .unset] [])) _
            refine XS.iloadN X0.here hx rfl (hb hby d3_176) rfl ?_
            show Steps p.tables e below (s₁.setTop (mkF m 177 #[.val (.ref a0), .val (.int nn), .val (.int ((h0_ ^^^ ((y1 &&& (255 : Int32)) <<< ((8 : Int32) &&& 31))) ^^^ (y0 &&& (255 : Int32)))), .val (.int (0 : Int32)), .val (.int (nn - (0 : Int32))), .unset] [(.int ((h0_ ^^^ ((y1 &&& (255 : Int32)) <<< ((8 : Int32) &&& 31))) ^^^ (y0 &&& (255 : Int32))))])) _
            refine X0.ldcInt hx hown (mvT hZ (hw _ (List.mem_of_getElem? (i := 13) rfl))) (g := (mkF m 177 #[.val (.ref a0), .val (.int nn), .val (.int ((h0_ ^^^ ((y1 &&& (255 : Int32)) <<< ((8 : Int32) &&& 31))) ^^^ (y0 &&& (255 : Int32)))), .val (.int (0 : Int32)), .val (.int (nn - (0 : Int32))), .unset] [(.int ((h0_ ^^^ ((y1 &&& (255 : Int32)) <<< ((8 : Int32) &&& 31))) ^^^ (y0 &&& (255 : Int32))))])) rfl (hb hby d3_177) _ ?_
            show Steps p.tables e below (s₁.setTop (mkF m 179 #[.val (.ref a0), .val (.int nn), .val (.int ((h0_ ^^^ ((y1 &&& (255 : Int32)) <<< ((8 : Int32) &&& 31))) ^^^ (y0 &&& (255 : Int32)))), .val (.int (0 : Int32)), .val (.int (nn - (0 : Int32))), .unset] [(.int (1540483477 : Int32)), (.int ((h0_ ^^^ ((y1 &&& (255 : Int32)) <<< ((8 : Int32) &&& 31))) ^^^ (y0 &&& (255 : Int32))))])) _
            refine XS.imul X0.here hx rfl (hb hby d3_179) rfl ?_
            show Steps p.tables e below (s₁.setTop (mkF m 180 #[.val (.ref a0), .val (.int nn), .val (.int ((h0_ ^^^ ((y1 &&& (255 : Int32)) <<< ((8 : Int32) &&& 31))) ^^^ (y0 &&& (255 : Int32)))), .val (.int (0 : Int32)), .val (.int (nn - (0 : Int32))), .unset] [(.int (((h0_ ^^^ ((y1 &&& (255 : Int32)) <<< ((8 : Int32) &&& 31))) ^^^ (y0 &&& (255 : Int32))) * (1540483477 : Int32)))])) _
            refine XS.istoreN X0.here hx rfl (hb hby d3_180) rfl (l' := #[.val (.ref a0), .val (.int nn), .val (.int (((h0_ ^^^ ((y1 &&& (255 : Int32)) <<< ((8 : Int32) &&& 31))) ^^^ (y0 &&& (255 : Int32))) * (1540483477 : Int32))), .val (.int (0 : Int32)), .val (.int (nn - (0 : Int32))), .unset]) rfl ?_
            try simp only [if_pos hc121, if_neg hc127, if_neg hc148] at k
            exact k
      · show Steps p.tables e below (s₁.setTop (mkF m 121 #[.val (.ref a0), .val (.int nn), .val (.int h0_), .val (.int (0 : Int32)), .val (.int (nn - (0 : Int32))), .unset] [(.int (nn - (0 : Int32)))])) _
        refine XS.ifYes X0.here hx rfl (pc0 := 121) (pc' := 181) rfl (hb hby d3_121) rfl ((if0 _ _).trans (flt hc121).2.2.2) (by decide) (by decide) ?_
        try simp only [if_neg hc121] at k
        exact k
    show Steps p.tables e below (s₁.setTop (mkF m 181 #[.val (.ref a0), .val (.int nn), .val (.int (if (0 : Int32) < (nn - (0 : Int32)) then (if (3 : Int32) = (nn - (0 : Int32)) then (if (nn - (0 : Int32)) < (2 : Int32) then (((h0_ ^^^ ((y2 &&& (255 : Int32)) <<< ((16 : Int32) &&& 31))) ^^^ (y0 &&& (255 : Int32))) * (1540483477 : Int32)) else ((((h0_ ^^^ ((y2 &&& (255 : Int32)) <<< ((16 : Int32) &&& 31))) ^^^ ((y1 &&& (255 : Int32)) <<< ((8 : Int32) &&& 31))) ^^^ (y0 &&& (255 : Int32))) * (1540483477 : Int32))) else (if (nn - (0 : Int32)) < (2 : Int32) then ((h0_ ^^^ (y0 &&& (255 : Int32))) * (1540483477 : Int32)) else (((h0_ ^^^ ((y1 &&& (255 : Int32)) <<< ((8 : Int32) &&& 31))) ^^^ (y0 &&& (255 : Int32))) * (1540483477 : Int32)))) else h0_)), .val (.int (0 : Int32)), .val (.int (nn - (0 : Int32))), .unset] [])) _
    rw [← h_ht_]
    show Steps p.tables e below (s₁.setTop (mkF m 181 #[.val (.ref a0), .val (.int nn), .val (.int ht_), .val (.int (0 : Int32)), .val (.int (nn - (0 : Int32))), .unset] [])) _
    refine XS.iloadN X0.here hx rfl (hb hby d3_181) rfl ?_
    show Steps p.tables e below (s₁.setTop (mkF m 182 #[.val (.ref a0), .val (.int nn), .val (.int ht_), .val (.int (0 : Int32)), .val (.int (nn - (0 : Int32))), .unset] [(.int ht_)])) _
    refine XS.iloadN X0.here hx rfl (hb hby d3_182) rfl ?_
    show Steps p.tables e below (s₁.setTop (mkF m 183 #[.val (.ref a0), .val (.int nn), .val (.int ht_), .val (.int (0 : Int32)), .val (.int (nn - (0 : Int32))), .unset] [(.int ht_), (.int ht_)])) _
    refine XS.bipush X0.here hx rfl (hb hby d3_183) ?_
    show Steps p.tables e below (s₁.setTop (mkF m 185 #[.val (.ref a0), .val (.int nn), .val (.int ht_), .val (.int (0 : Int32)), .val (.int (nn - (0 : Int32))), .unset] [(.int (13 : Int32)), (.int ht_), (.int ht_)])) _
    refine XS.iushr X0.here hx rfl (hb hby d3_185) rfl ?_
    show Steps p.tables e below (s₁.setTop (mkF m 186 #[.val (.ref a0), .val (.int nn), .val (.int ht_), .val (.int (0 : Int32)), .val (.int (nn - (0 : Int32))), .unset] [(.int ((ht_.toUInt32 >>> ((13 : Int32) &&& 31).toUInt32).toInt32)), (.int ht_)])) _
    refine XS.ixor X0.here hx rfl (hb hby d3_186) rfl ?_
    show Steps p.tables e below (s₁.setTop (mkF m 187 #[.val (.ref a0), .val (.int nn), .val (.int ht_), .val (.int (0 : Int32)), .val (.int (nn - (0 : Int32))), .unset] [(.int (ht_ ^^^ ((ht_.toUInt32 >>> ((13 : Int32) &&& 31).toUInt32).toInt32)))])) _
    rw [← h_ha_]
    show Steps p.tables e below (s₁.setTop (mkF m 187 #[.val (.ref a0), .val (.int nn), .val (.int ht_), .val (.int (0 : Int32)), .val (.int (nn - (0 : Int32))), .unset] [(.int ha_)])) _
    refine XS.istoreN X0.here hx rfl (hb hby d3_187) rfl (l' := #[.val (.ref a0), .val (.int nn), .val (.int ha_), .val (.int (0 : Int32)), .val (.int (nn - (0 : Int32))), .unset]) rfl ?_
    show Steps p.tables e below (s₁.setTop (mkF m 188 #[.val (.ref a0), .val (.int nn), .val (.int ha_), .val (.int (0 : Int32)), .val (.int (nn - (0 : Int32))), .unset] [])) _
    refine XS.iloadN X0.here hx rfl (hb hby d3_188) rfl ?_
    show Steps p.tables e below (s₁.setTop (mkF m 189 #[.val (.ref a0), .val (.int nn), .val (.int ha_), .val (.int (0 : Int32)), .val (.int (nn - (0 : Int32))), .unset] [(.int ha_)])) _
    refine X0.ldcInt hx hown (mvT hZ (hw _ (List.mem_of_getElem? (i := 13) rfl))) (g := (mkF m 189 #[.val (.ref a0), .val (.int nn), .val (.int ha_), .val (.int (0 : Int32)), .val (.int (nn - (0 : Int32))), .unset] [(.int ha_)])) rfl (hb hby d3_189) _ ?_
    show Steps p.tables e below (s₁.setTop (mkF m 191 #[.val (.ref a0), .val (.int nn), .val (.int ha_), .val (.int (0 : Int32)), .val (.int (nn - (0 : Int32))), .unset] [(.int (1540483477 : Int32)), (.int ha_)])) _
    refine XS.imul X0.here hx rfl (hb hby d3_191) rfl ?_
    show Steps p.tables e below (s₁.setTop (mkF m 192 #[.val (.ref a0), .val (.int nn), .val (.int ha_), .val (.int (0 : Int32)), .val (.int (nn - (0 : Int32))), .unset] [(.int (ha_ * (1540483477 : Int32)))])) _
    rw [← h_hb_]
    show Steps p.tables e below (s₁.setTop (mkF m 192 #[.val (.ref a0), .val (.int nn), .val (.int ha_), .val (.int (0 : Int32)), .val (.int (nn - (0 : Int32))), .unset] [(.int hb_)])) _
    refine XS.istoreN X0.here hx rfl (hb hby d3_192) rfl (l' := #[.val (.ref a0), .val (.int nn), .val (.int hb_), .val (.int (0 : Int32)), .val (.int (nn - (0 : Int32))), .unset]) rfl ?_
    show Steps p.tables e below (s₁.setTop (mkF m 193 #[.val (.ref a0), .val (.int nn), .val (.int hb_), .val (.int (0 : Int32)), .val (.int (nn - (0 : Int32))), .unset] [])) _
    refine XS.iloadN X0.here hx rfl (hb hby d3_193) rfl ?_
    show Steps p.tables e below (s₁.setTop (mkF m 194 #[.val (.ref a0), .val (.int nn), .val (.int hb_), .val (.int (0 : Int32)), .val (.int (nn - (0 : Int32))), .unset] [(.int hb_)])) _
    refine XS.iloadN X0.here hx rfl (hb hby d3_194) rfl ?_
    show Steps p.tables e below (s₁.setTop (mkF m 195 #[.val (.ref a0), .val (.int nn), .val (.int hb_), .val (.int (0 : Int32)), .val (.int (nn - (0 : Int32))), .unset] [(.int hb_), (.int hb_)])) _
    refine XS.bipush X0.here hx rfl (hb hby d3_195) ?_
    show Steps p.tables e below (s₁.setTop (mkF m 197 #[.val (.ref a0), .val (.int nn), .val (.int hb_), .val (.int (0 : Int32)), .val (.int (nn - (0 : Int32))), .unset] [(.int (15 : Int32)), (.int hb_), (.int hb_)])) _
    refine XS.iushr X0.here hx rfl (hb hby d3_197) rfl ?_
    show Steps p.tables e below (s₁.setTop (mkF m 198 #[.val (.ref a0), .val (.int nn), .val (.int hb_), .val (.int (0 : Int32)), .val (.int (nn - (0 : Int32))), .unset] [(.int ((hb_.toUInt32 >>> ((15 : Int32) &&& 31).toUInt32).toInt32)), (.int hb_)])) _
    refine XS.ixor X0.here hx rfl (hb hby d3_198) rfl ?_
    show Steps p.tables e below (s₁.setTop (mkF m 199 #[.val (.ref a0), .val (.int nn), .val (.int hb_), .val (.int (0 : Int32)), .val (.int (nn - (0 : Int32))), .unset] [(.int (hb_ ^^^ ((hb_.toUInt32 >>> ((15 : Int32) &&& 31).toUInt32).toInt32)))])) _
    rw [← h_rr_]
    show Steps p.tables e below (s₁.setTop (mkF m 199 #[.val (.ref a0), .val (.int nn), .val (.int hb_), .val (.int (0 : Int32)), .val (.int (nn - (0 : Int32))), .unset] [(.int rr_)])) _
    refine XS.istoreN X0.here hx rfl (hb hby d3_199) rfl (l' := #[.val (.ref a0), .val (.int nn), .val (.int rr_), .val (.int (0 : Int32)), .val (.int (nn - (0 : Int32))), .unset]) rfl ?_
    show Steps p.tables e below (s₁.setTop (mkF m 200 #[.val (.ref a0), .val (.int nn), .val (.int rr_), .val (.int (0 : Int32)), .val (.int (nn - (0 : Int32))), .unset] [])) _
    refine XS.iloadN X0.here hx rfl (hb hby d3_200) rfl ?_
    show Steps p.tables e below (s₁.setTop (mkF m 201 #[.val (.ref a0), .val (.int nn), .val (.int rr_), .val (.int (0 : Int32)), .val (.int (nn - (0 : Int32))), .unset] [(.int rr_)])) _
    exact retI X0 hx Bd.returns (hb hby d3_201) hr
  · show Qrm3_0 Z a0 kk nn vs dv y0 y1 y2 h0 n0 _ s₁.heap _
    rw [e0]
    exact ⟨by rw [h_rr_, h_hb_, h_ha_, h_ht_, h_h0_]; rfl, N0, rfl⟩
theorem d3_22 : decode prog_92_method_2_code 22 = .ok (.aload_n 0, 1) := by decide +kernel
theorem d3_23 : decode prog_92_method_2_code 23 = .ok (.iload 4, 2) := by decide +kernel
theorem d3_25 : decode prog_92_method_2_code 25 = .ok (.baload, 1) := by decide +kernel
theorem d3_26 : decode prog_92_method_2_code 26 = .ok (.sipush 255, 3) := by decide +kernel
theorem d3_29 : decode prog_92_method_2_code 29 = .ok (.iand, 1) := by decide +kernel
theorem d3_30 : decode prog_92_method_2_code 30 = .ok (.aload_n 0, 1) := by decide +kernel
theorem d3_31 : decode prog_92_method_2_code 31 = .ok (.iload 4, 2) := by decide +kernel
theorem d3_33 : decode prog_92_method_2_code 33 = .ok (.iconst 1, 1) := by decide +kernel
theorem d3_34 : decode prog_92_method_2_code 34 = .ok (.iadd, 1) := by decide +kernel
theorem d3_35 : decode prog_92_method_2_code 35 = .ok (.baload, 1) := by decide +kernel
theorem d3_36 : decode prog_92_method_2_code 36 = .ok (.sipush 255, 3) := by decide +kernel
theorem d3_39 : decode prog_92_method_2_code 39 = .ok (.iand, 1) := by decide +kernel
theorem d3_40 : decode prog_92_method_2_code 40 = .ok (.bipush 8, 2) := by decide +kernel
theorem d3_42 : decode prog_92_method_2_code 42 = .ok (.ishl, 1) := by decide +kernel
theorem d3_43 : decode prog_92_method_2_code 43 = .ok (.ior, 1) := by decide +kernel
theorem d3_44 : decode prog_92_method_2_code 44 = .ok (.aload_n 0, 1) := by decide +kernel
theorem d3_45 : decode prog_92_method_2_code 45 = .ok (.iload 4, 2) := by decide +kernel
theorem d3_47 : decode prog_92_method_2_code 47 = .ok (.iconst 2, 1) := by decide +kernel
theorem d3_48 : decode prog_92_method_2_code 48 = .ok (.iadd, 1) := by decide +kernel
theorem d3_49 : decode prog_92_method_2_code 49 = .ok (.baload, 1) := by decide +kernel
theorem d3_50 : decode prog_92_method_2_code 50 = .ok (.sipush 255, 3) := by decide +kernel
theorem d3_53 : decode prog_92_method_2_code 53 = .ok (.iand, 1) := by decide +kernel
theorem d3_54 : decode prog_92_method_2_code 54 = .ok (.bipush 16, 2) := by decide +kernel
theorem d3_56 : decode prog_92_method_2_code 56 = .ok (.ishl, 1) := by decide +kernel
theorem d3_57 : decode prog_92_method_2_code 57 = .ok (.ior, 1) := by decide +kernel
theorem d3_58 : decode prog_92_method_2_code 58 = .ok (.aload_n 0, 1) := by decide +kernel
theorem d3_59 : decode prog_92_method_2_code 59 = .ok (.iload 4, 2) := by decide +kernel
theorem d3_61 : decode prog_92_method_2_code 61 = .ok (.iconst 3, 1) := by decide +kernel
theorem d3_62 : decode prog_92_method_2_code 62 = .ok (.iadd, 1) := by decide +kernel
theorem d3_63 : decode prog_92_method_2_code 63 = .ok (.baload, 1) := by decide +kernel
theorem d3_64 : decode prog_92_method_2_code 64 = .ok (.sipush 255, 3) := by decide +kernel
theorem d3_67 : decode prog_92_method_2_code 67 = .ok (.iand, 1) := by decide +kernel
theorem d3_68 : decode prog_92_method_2_code 68 = .ok (.bipush 24, 2) := by decide +kernel
theorem d3_70 : decode prog_92_method_2_code 70 = .ok (.ishl, 1) := by decide +kernel
theorem d3_71 : decode prog_92_method_2_code 71 = .ok (.ior, 1) := by decide +kernel
theorem d3_72 : decode prog_92_method_2_code 72 = .ok (.istore 5, 2) := by decide +kernel
theorem d3_74 : decode prog_92_method_2_code 74 = .ok (.iload 5, 2) := by decide +kernel
theorem d3_76 : decode prog_92_method_2_code 76 = .ok (.ldc 10, 2) := by decide +kernel
theorem d3_78 : decode prog_92_method_2_code 78 = .ok (.imul, 1) := by decide +kernel
theorem d3_79 : decode prog_92_method_2_code 79 = .ok (.istore 5, 2) := by decide +kernel
theorem d3_81 : decode prog_92_method_2_code 81 = .ok (.iload 5, 2) := by decide +kernel
theorem d3_83 : decode prog_92_method_2_code 83 = .ok (.iload 5, 2) := by decide +kernel
theorem d3_85 : decode prog_92_method_2_code 85 = .ok (.bipush 24, 2) := by decide +kernel
theorem d3_87 : decode prog_92_method_2_code 87 = .ok (.iushr, 1) := by decide +kernel
theorem d3_88 : decode prog_92_method_2_code 88 = .ok (.ixor, 1) := by decide +kernel
theorem d3_89 : decode prog_92_method_2_code 89 = .ok (.istore 5, 2) := by decide +kernel
theorem d3_91 : decode prog_92_method_2_code 91 = .ok (.iload 5, 2) := by decide +kernel
theorem d3_93 : decode prog_92_method_2_code 93 = .ok (.ldc 10, 2) := by decide +kernel
theorem d3_95 : decode prog_92_method_2_code 95 = .ok (.imul, 1) := by decide +kernel
theorem d3_96 : decode prog_92_method_2_code 96 = .ok (.istore 5, 2) := by decide +kernel
theorem d3_98 : decode prog_92_method_2_code 98 = .ok (.iload_n 2, 1) := by decide +kernel
theorem d3_99 : decode prog_92_method_2_code 99 = .ok (.ldc 10, 2) := by decide +kernel
theorem d3_101 : decode prog_92_method_2_code 101 = .ok (.imul, 1) := by decide +kernel
theorem d3_102 : decode prog_92_method_2_code 102 = .ok (.istore_n 2, 1) := by decide +kernel
theorem d3_103 : decode prog_92_method_2_code 103 = .ok (.iload_n 2, 1) := by decide +kernel
theorem d3_104 : decode prog_92_method_2_code 104 = .ok (.iload 5, 2) := by decide +kernel
theorem d3_106 : decode prog_92_method_2_code 106 = .ok (.ixor, 1) := by decide +kernel
theorem d3_107 : decode prog_92_method_2_code 107 = .ok (.istore_n 2, 1) := by decide +kernel
theorem d3_108 : decode prog_92_method_2_code 108 = .ok (.iinc 4 4, 3) := by decide +kernel
theorem d3_111 : decode prog_92_method_2_code 111 = .ok (.goto (-95), 3) := by decide +kernel
theorem ef_rm3_1 (m : MethodId) (a0 : Addr) : entryFrame m #[(.ref a0)] 6 = mkF m 0 #[.val (.ref a0), .unset, .unset, .unset, .unset, .unset] [] := by first | (simp [entryFrame, mkF, argsToLocals, Value.category]; done) | rfl
def Qrm3_1 (Z : State) (a0 : Addr) (kk : ClassId) (nn : Int32) (vs : List Value) (dv : Value) (y0 : Int32) (y1 : Int32) (y2 : Int32) (y3 : Int32) (y4 : Int32) (y5 : Int32) (y6 : Int32) (h0 : Heap) (n0 : Nat) (v : Option Value) (h : Heap) (L : List Loc) : Prop := v = some (.int (own_h1 nn y0 y1 y2 y3 y4 y5 y6)) ∧ Fr n0 L ∧ h = h0
set_option maxRecDepth 65536 in
set_option maxHeartbeats 40000000 in
theorem rm3_1 (l : Launch) (Z : State) (A0 : Array Value) (hw : ∀ d ∈ tables_1, d.before A0 Z = true) (ws : List Jvm.Cond) (a0 : Addr) (kk : ClassId) (nn : Int32) (vs : List Value) (dv : Value) (y0 : Int32) (y1 : Int32) (y2 : Int32) (y3 : Int32) (y4 : Int32) (y5 : Int32) (y6 : Int32) (h0 : Heap) (n0 : Nat) (Z0 : n0 ≤ h0.size) (V_a0 : Arv Z h0 a0 kk .byte nn vs dv) (hn : 4 ≤ nn.toInt ∧ nn.toInt ≤ 7) (yat0 : vs.getD 0 dv = .int y0) (yat1 : vs.getD 1 dv = .int y1) (yat2 : vs.getD 2 dv = .int y2) (yat3 : vs.getD 3 dv = .int y3) (yat4 : 4 < nn.toInt → vs.getD 4 dv = .int y4) (yat5 : 5 < nn.toInt → vs.getD 5 dv = .int y5) (yat6 : 6 < nn.toInt → vs.getD 6 dv = .int y6) :
    MetFree l (⟨"com/example/parley/parley/client/Murmur2", "hash", "([B)I"⟩ : MethodName) (head1 (Jvm.Cond.code (⟨"com/example/parley/parley/client/Murmur2", "hash", "([B)I"⟩ : MethodName) prog_92_method_2_code 6 (some .int) :: ws) ({ frames := 0, cells := 0, slots := 0, locals := 0 } : Room)) (fun a U => a = #[(.ref a0)] ∧ Z.Warmed39 U.vm ∧ U.heap = h0) (fun _ _ _ _ _ => True) (fun _ U o U' => ∃ v L, o = .returned v ∧ Qrm3_1 Z a0 kk nn vs dv y0 y1 y2 y3 y4 y5 y6 h0 n0 v U'.heap L ∧ FrameEnd U o U' L ({ frames := 0, cells := 0, slots := 0, locals := 0 } : Room).cells ({ frames := 0, cells := 0, slots := 0, locals := 0 } : Room).slots) := by
  refine MetFree.of_bodySF (plainFor_of_name pn_3) hisR ?_
  intro p e s m args below meth c s₁ Bd hml0 hP hK
  obtain ⟨rfl, hZ, hh⟩ := hP
  have hx := Bd.exec
  have hby := Bd.bytes
  have hml : c.maxLocals = 6 := hml0
  have hown : s.vm.findClass "com/example/parley/parley/client/Murmur2" = some m.cls := findClass_of_methodNamed Bd.named
  have hnm := (name_of_methodNamed Bd.named Bd.method).1
  have X0 : Stand p l e ({ frames := 0, cells := 0, slots := 0, locals := 0 } : Room) s m #[(.ref a0)] below meth c s₁ [] 0 0 := Stand.of_body Bd
  have e0 : s₁.heap = h0 := by rw [← hh, Bd.state]; rfl
  have N0 := Fr.nil n0
  have K0 : Keep h0 h0 [] := Keep.refl _ _
  have pre0 : ∀ t, Steps p.tables e below (s₁.setTop (mkF m 0 #[.val (.ref a0), .unset, .unset, .unset, .unset, .unset] [])) t → Steps p.tables e below (s₁.setTop (entryFrame m #[(.ref a0)] 6)) t := fun t k => castTop (ef_rm3_1 m a0) k
  obtain ⟨cl1, Ar1, -, SS1, MM1, -, -⟩ := id V_a0
  obtain ⟨h0_, h_h0_⟩ : ∃ z : Int32, z = ((-1756908916 : Int32) ^^^ nn) := ⟨_, rfl⟩
  obtain ⟨wh, h_wh⟩ : ∃ z : Int32, z = (nn &&& (-4 : Int32)) := ⟨_, rfl⟩
  rcases (own_wh1 hn h_wh) with rfl
  obtain ⟨cl2, Ar2, -, SS2, MM2, HH2, -⟩ := id V_a0
  have hin2 := inb_of SS2 (own_in (i := (0 : Int32)) (k := 0) (by decide) (by decide) (by omega))
  have hat2 : cl2.slots[((0 : Int32)).toNatClampNeg]? = some (.int y0) := HH2.at hin2 yat0
  obtain ⟨cl3, Ar3, -, SS3, MM3, HH3, -⟩ := id V_a0
  have hin3 := inb_of SS3 (own_in (i := ((0 : Int32) + (1 : Int32))) (k := 1) (by decide) (by decide) (by omega))
  have hat3 : cl3.slots[(((0 : Int32) + (1 : Int32))).toNatClampNeg]? = some (.int y1) := HH3.at hin3 yat1
  obtain ⟨cl4, Ar4, -, SS4, MM4, HH4, -⟩ := id V_a0
  have hin4 := inb_of SS4 (own_in (i := ((0 : Int32) + (2 : Int32))) (k := 2) (by decide) (by decide) (by omega))
  have hat4 : cl4.slots[(((0 : Int32) + (2 : Int32))).toNatClampNeg]? = some (.int y2) := HH4.at hin4 yat2
  obtain ⟨cl5, Ar5, -, SS5, MM5, HH5, -⟩ := id V_a0
  have hin5 := inb_of SS5 (own_in (i := ((0 : Int32) + (3 : Int32))) (k := 3) (by decide) (by decide) (by omega))
  have hat5 : cl5.slots[(((0 : Int32) + (3 : Int32))).toNatClampNeg]? = some (.int y3) := HH5.at hin5 yat3
  obtain ⟨k1_, h_k1_⟩ : ∃ z : Int32, z = ((((y0 &&& (255 : Int32)) ||| ((y1 &&& (255 : Int32)) <<< ((8 : Int32) &&& 31))) ||| ((y2 &&& (255 : Int32)) <<< ((16 : Int32) &&& 31))) ||| ((y3 &&& (255 : Int32)) <<< ((24 : Int32) &&& 31))) := ⟨_, rfl⟩
  obtain ⟨h1_, h_h1_⟩ : ∃ z : Int32, z = ((h0_ * (1540483477 : Int32)) ^^^ (((k1_ * (1540483477 : Int32)) ^^^ (((k1_ * (1540483477 : Int32)).toUInt32 >>> ((24 : Int32) &&& 31).toUInt32).toInt32)) * (1540483477 : Int32))) := ⟨_, rfl⟩
  obtain ⟨ht_, h_ht_⟩ : ∃ z : Int32, z = (if (0 : Int32) < (nn - (4 : Int32)) then (if (3 : Int32) = (nn - (4 : Int32)) then (if (nn - (4 : Int32)) < (2 : Int32) then (((h1_ ^^^ ((y6 &&& (255 : Int32)) <<< ((16 : Int32) &&& 31))) ^^^ (y4 &&& (255 : Int32))) * (1540483477 : Int32)) else ((((h1_ ^^^ ((y6 &&& (255 : Int32)) <<< ((16 : Int32) &&& 31))) ^^^ ((y5 &&& (255 : Int32)) <<< ((8 : Int32) &&& 31))) ^^^ (y4 &&& (255 : Int32))) * (1540483477 : Int32))) else (if (nn - (4 : Int32)) < (2 : Int32) then ((h1_ ^^^ (y4 &&& (255 : Int32))) * (1540483477 : Int32)) else (((h1_ ^^^ ((y5 &&& (255 : Int32)) <<< ((8 : Int32) &&& 31))) ^^^ (y4 &&& (255 : Int32))) * (1540483477 : Int32)))) else h1_) := ⟨_, rfl⟩
  obtain ⟨ha_, h_ha_⟩ : ∃ z : Int32, z = (ht_ ^^^ ((ht_.toUInt32 >>> ((13 : Int32) &&& 31).toUInt32).toInt32)) := ⟨_, rfl⟩
  obtain ⟨hb_, h_hb_⟩ : ∃ z : Int32, z = (ha_ * (1540483477 : Int32)) := ⟨_, rfl⟩
  obtain ⟨rr_, h_rr_⟩ : ∃ z : Int32, z = (hb_ ^^^ ((hb_.toUInt32 >>> ((15 : Int32) &&& 31).toUInt32).toInt32)) := ⟨_, rfl⟩
  obtain ⟨fs, hr, hrun, hended, hW, hsame⟩ := X0.leave (v := some (.int rr_)) (fun h => by rw [Bd.returns] at h; cases h)
  refine ⟨_, _, pre0 _ ?_, hrun, hended, _, _, rfl, ?_, ⟨_, rfl⟩, hW, hsame.mono (by decide) (by decide)⟩
  · show Steps p.tables e below (s₁.setTop (mkF m 0 #[.val (.ref a0), .unset, .unset, .unset, .unset, .unset] [])) _
    refine XS.aloadN X0.here hx rfl (hb hby d3_0) rfl rfl ?_
    show Steps p.tables e below (s₁.setTop (mkF m 1 #[.val (.ref a0), .unset, .unset, .unset, .unset, .unset] [(.ref a0)])) _
    refine X0.arraylength hx (by rw [e0]; exact Ar1.1) (State.isArrayOf_alike hZ.alike Ar1.2.1) (g := (mkF m 1 #[.val (.ref a0), .unset, .unset, .unset, .unset, .unset] [(.ref a0)])) rfl rfl (hb hby d3_1) _ ?_
    rw [len_of SS1 MM1]
    show Steps p.tables e below (s₁.setTop (mkF m 2 #[.val (.ref a0), .unset, .unset, .unset, .unset, .unset] [(.int nn)])) _
    refine XS.istoreN X0.here hx rfl (hb hby d3_2) rfl (l' := #[.val (.ref a0), .val (.int nn), .unset, .unset, .unset, .unset]) rfl ?_
    show Steps p.tables e below (s₁.setTop (mkF m 3 #[.val (.ref a0), .val (.int nn), .unset, .unset, .unset, .unset] [])) _
    refine X0.ldcInt hx hown (mvT hZ (hw _ (List.mem_of_getElem? (i := 12) rfl))) (g := (mkF m 3 #[.val (.ref a0), .val (.int nn), .unset, .unset, .unset, .unset] [])) rfl (hb hby d3_3) _ ?_
    show Steps p.tables e below (s₁.setTop (mkF m 5 #[.val (.ref a0), .val (.int nn), .unset, .unset, .unset, .unset] [(.int (-1756908916 : Int32))])) _
    refine XS.iloadN X0.here hx rfl (hb hby d3_5) rfl ?_
    show Steps p.tables e below (s₁.setTop (mkF m 6 #[.val (.ref a0), .val (.int nn), .unset, .unset, .unset, .unset] [(.int nn), (.int (-1756908916 : Int32))])) _
    refine XS.ixor X0.here hx rfl (hb hby d3_6) rfl ?_
    show Steps p.tables e below (s₁.setTop (mkF m 7 #[.val (.ref a0), .val (.int nn), .unset, .unset, .unset, .unset] [(.int ((-1756908916 : Int32) ^^^ nn))])) _
    rw [← h_h0_]
    show Steps p.tables e below (s₁.setTop (mkF m 7 #[.val (.ref a0), .val (.int nn), .unset, .unset, .unset, .unset] [(.int h0_)])) _
    refine XS.istoreN X0.here hx rfl (hb hby d3_7) rfl (l' := #[.val (.ref a0), .val (.int nn), .val (.int h0_), .unset, .unset, .unset]) rfl ?_
    show Steps p.tables e below (s₁.setTop (mkF m 8 #[.val (.ref a0), .val (.int nn), .val (.int h0_), .unset, .unset, .unset] [])) _
    refine XS.iloadN X0.here hx rfl (hb hby d3_8) rfl ?_
    show Steps p.tables e below (s₁.setTop (mkF m 9 #[.val (.ref a0), .val (.int nn), .val (.int h0_), .unset, .unset, .unset] [(.int nn)])) _
    refine XS.bipush X0.here hx rfl (hb hby d3_9) ?_
    show Steps p.tables e below (s₁.setTop (mkF m 11 #[.val (.ref a0), .val (.int nn), .val (.int h0_), .unset, .unset, .unset] [(.int (-4 : Int32)), (.int nn)])) _
    refine XS.iand X0.here hx rfl (hb hby d3_11) rfl ?_
    show Steps p.tables e below (s₁.setTop (mkF m 12 #[.val (.ref a0), .val (.int nn), .val (.int h0_), .unset, .unset, .unset] [(.int (nn &&& (-4 : Int32)))])) _
    rw [← h_wh]
    show Steps p.tables e below (s₁.setTop (mkF m 12 #[.val (.ref a0), .val (.int nn), .val (.int h0_), .unset, .unset, .unset] [(.int (4 : Int32))])) _
    refine XS.istoreN X0.here hx rfl (hb hby d3_12) rfl (l' := #[.val (.ref a0), .val (.int nn), .val (.int h0_), .val (.int (4 : Int32)), .unset, .unset]) rfl ?_
    show Steps p.tables e below (s₁.setTop (mkF m 13 #[.val (.ref a0), .val (.int nn), .val (.int h0_), .val (.int (4 : Int32)), .unset, .unset] [])) _
    refine XS.iconst X0.here hx rfl (hb hby d3_13) ?_
    show Steps p.tables e below (s₁.setTop (mkF m 14 #[.val (.ref a0), .val (.int nn), .val (.int h0_), .val (.int (4 : Int32)), .unset, .unset] [(.int (0 : Int32))])) _
    refine XS.istore X0.here hx rfl (hb hby d3_14) rfl (l' := #[.val (.ref a0), .val (.int nn), .val (.int h0_), .val (.int (4 : Int32)), .val (.int (0 : Int32)), .unset]) rfl ?_
    show Steps p.tables e below (s₁.setTop (mkF m 16 #[.val (.ref a0), .val (.int nn), .val (.int h0_), .val (.int (4 : Int32)), .val (.int (0 : Int32)), .unset] [])) _
    refine XS.iload X0.here hx rfl (hb hby d3_16) rfl ?_
    show Steps p.tables e below (s₁.setTop (mkF m 18 #[.val (.ref a0), .val (.int nn), .val (.int h0_), .val (.int (4 : Int32)), .val (.int (0 : Int32)), .unset] [(.int (0 : Int32))])) _
    refine XS.iloadN X0.here hx rfl (hb hby d3_18) rfl ?_
    show Steps p.tables e below (s₁.setTop (mkF m 19 #[.val (.ref a0), .val (.int nn), .val (.int h0_), .val (.int (4 : Int32)), .val (.int (0 : Int32)), .unset] [(.int (4 : Int32)), (.int (0 : Int32))])) _
    refine XS.icmpNo X0.here hx rfl (hb hby d3_19) rfl (tlt (by decide : (0 : Int32) < (4 : Int32))).2.1 ?_
    show Steps p.tables e below (s₁.setTop (mkF m 22 #[.val (.ref a0), .val (.int nn), .val (.int h0_), .val (.int (4 : Int32)), .val (.int (0 : Int32)), .unset] [])) _
    refine XS.aloadN X0.here hx rfl (hb hby d3_22) rfl rfl ?_
    show Steps p.tables e below (s₁.setTop (mkF m 23 #[.val (.ref a0), .val (.int nn), .val (.int h0_), .val (.int (4 : Int32)), .val (.int (0 : Int32)), .unset] [(.ref a0)])) _
    refine XS.iload X0.here hx rfl (hb hby d3_23) rfl ?_
    show Steps p.tables e below (s₁.setTop (mkF m 25 #[.val (.ref a0), .val (.int nn), .val (.int h0_), .val (.int (4 : Int32)), .val (.int (0 : Int32)), .unset] [(.int (0 : Int32)), (.ref a0)])) _
    refine X0.baloadBytes hx (j := (0 : Int32)) (v := (.int y0)) (by rw [e0]; exact Ar2.1) (State.isArrayOf_alike hZ.alike Ar2.2.1) Ar2.2.2 hin2 hat2 (g := (mkF m 25 #[.val (.ref a0), .val (.int nn), .val (.int h0_), .val (.int (4 : Int32)), .val (.int (0 : Int32)), .unset] [(.int (0 : Int32)), (.ref a0)])) rfl rfl (hb hby d3_25) _ ?_
    show Steps p.tables e below (s₁.setTop (mkF m 26 #[.val (.ref a0), .val (.int nn), .val (.int h0_), .val (.int (4 : Int32)), .val (.int (0 : Int32)), .unset] [(.int y0)])) _
    refine XS.sipush X0.here hx rfl (hb hby d3_26) ?_
    show Steps p.tables e below (s₁.setTop (mkF m 29 #[.val (.ref a0), .val (.int nn), .val (.int h0_), .val (.int (4 : Int32)), .val (.int (0 : Int32)), .unset] [(.int (255 : Int32)), (.int y0)])) _
    refine XS.iand X0.here hx rfl (hb hby d3_29) rfl ?_
    show Steps p.tables e below (s₁.setTop (mkF m 30 #[.val (.ref a0), .val (.int nn), .val (.int h0_), .val (.int (4 : Int32)), .val (.int (0 : Int32)), .unset] [(.int (y0 &&& (255 : Int32)))])) _
    refine XS.aloadN X0.here hx rfl (hb hby d3_30) rfl rfl ?_
    show Steps p.tables e below (s₁.setTop (mkF m 31 #[.val (.ref a0), .val (.int nn), .val (.int h0_), .val (.int (4 : Int32)), .val (.int (0 : Int32)), .unset] [(.ref a0), (.int (y0 &&& (255 : Int32)))])) _
    refine XS.iload X0.here hx rfl (hb hby d3_31) rfl ?_
    show Steps p.tables e below (s₁.setTop (mkF m 33 #[.val (.ref a0), .val (.int nn), .val (.int h0_), .val (.int (4 : Int32)), .val (.int (0 : Int32)), .unset] [(.int (0 : Int32)), (.ref a0), (.int (y0 &&& (255 : Int32)))])) _
    refine XS.iconst X0.here hx rfl (hb hby d3_33) ?_
    show Steps p.tables e below (s₁.setTop (mkF m 34 #[.val (.ref a0), .val (.int nn), .val (.int h0_), .val (.int (4 : Int32)), .val (.int (0 : Int32)), .unset] [(.int (1 : Int32)), (.int (0 : Int32)), (.ref a0), (.int (y0 &&& (255 : Int32)))])) _
    refine XS.iadd X0.here hx rfl (hb hby d3_34) rfl ?_
    show Steps p.tables e below (s₁.setTop (mkF m 35 #[.val (.ref a0), .val (.int nn), .val (.int h0_), .val (.int (4 : Int32)), .val (.int (0 : Int32)), .unset] [(.int ((0 : Int32) + (1 : Int32))), (.ref a0), (.int (y0 &&& (255 : Int32)))])) _
    refine X0.baloadBytes hx (j := ((0 : Int32) + (1 : Int32))) (v := (.int y1)) (by rw [e0]; exact Ar3.1) (State.isArrayOf_alike hZ.alike Ar3.2.1) Ar3.2.2 hin3 hat3 (g := (mkF m 35 #[.val (.ref a0), .val (.int nn), .val (.int h0_), .val (.int (4 : Int32)), .val (.int (0 : Int32)), .unset] [(.int ((0 : Int32) + (1 : Int32))), (.ref a0), (.int (y0 &&& (255 : Int32)))])) rfl rfl (hb hby d3_35) _ ?_
    show Steps p.tables e below (s₁.setTop (mkF m 36 #[.val (.ref a0), .val (.int nn), .val (.int h0_), .val (.int (4 : Int32)), .val (.int (0 : Int32)), .unset] [(.int y1), (.int (y0 &&& (255 : Int32)))])) _
    refine XS.sipush X0.here hx rfl (hb hby d3_36) ?_
    show Steps p.tables e below (s₁.setTop (mkF m 39 #[.val (.ref a0), .val (.int nn), .val (.int h0_), .val (.int (4 : Int32)), .val (.int (0 : Int32)), .unset] [(.int (255 : Int32)), (.int y1), (.int (y0 &&& (255 : Int32)))])) _
    refine XS.iand X0.here hx rfl (hb hby d3_39) rfl ?_
    show Steps p.tables e below (s₁.setTop (mkF m 40 #[.val (.ref a0), .val (.int nn), .val (.int h0_), .val (.int (4 : Int32)), .val (.int (0 : Int32)), .unset] [(.int (y1 &&& (255 : Int32))), (.int (y0 &&& (255 : Int32)))])) _
    refine XS.bipush X0.here hx rfl (hb hby d3_40) ?_
    show Steps p.tables e below (s₁.setTop (mkF m 42 #[.val (.ref a0), .val (.int nn), .val (.int h0_), .val (.int (4 : Int32)), .val (.int (0 : Int32)), .unset] [(.int (8 : Int32)), (.int (y1 &&& (255 : Int32))), (.int (y0 &&& (255 : Int32)))])) _
    refine XS.ishl X0.here hx rfl (hb hby d3_42) rfl ?_
    show Steps p.tables e below (s₁.setTop (mkF m 43 #[.val (.ref a0), .val (.int nn), .val (.int h0_), .val (.int (4 : Int32)), .val (.int (0 : Int32)), .unset] [(.int ((y1 &&& (255 : Int32)) <<< ((8 : Int32) &&& 31))), (.int (y0 &&& (255 : Int32)))])) _
    refine XS.ior X0.here hx rfl (hb hby d3_43) rfl ?_
    show Steps p.tables e below (s₁.setTop (mkF m 44 #[.val (.ref a0), .val (.int nn), .val (.int h0_), .val (.int (4 : Int32)), .val (.int (0 : Int32)), .unset] [(.int ((y0 &&& (255 : Int32)) ||| ((y1 &&& (255 : Int32)) <<< ((8 : Int32) &&& 31))))])) _
    refine XS.aloadN X0.here hx rfl (hb hby d3_44) rfl rfl ?_
    show Steps p.tables e below (s₁.setTop (mkF m 45 #[.val (.ref a0), .val (.int nn), .val (.int h0_), .val (.int (4 : Int32)), .val (.int (0 : Int32)), .unset] [(.ref a0), (.int ((y0 &&& (255 : Int32)) ||| ((y1 &&& (255 : Int32)) <<< ((8 : Int32) &&& 31))))])) _
    refine XS.iload X0.here hx rfl (hb hby d3_45) rfl ?_
    show Steps p.tables e below (s₁.setTop (mkF m 47 #[.val (.ref a0), .val (.int nn), .val (.int h0_), .val (.int (4 : Int32)), .val (.int (0 : Int32)), .unset] [(.int (0 : Int32)), (.ref a0), (.int ((y0 &&& (255 : Int32)) ||| ((y1 &&& (255 : Int32)) <<< ((8 : Int32) &&& 31))))])) _
    refine XS.iconst X0.here hx rfl (hb hby d3_47) ?_
    show Steps p.tables e below (s₁.setTop (mkF m 48 #[.val (.ref a0), .val (.int nn), .val (.int h0_), .val (.int (4 : Int32)), .val (.int (0 : Int32)), .unset] [(.int (2 : Int32)), (.int (0 : Int32)), (.ref a0), (.int ((y0 &&& (255 : Int32)) ||| ((y1 &&& (255 : Int32)) <<< ((8 : Int32) &&& 31))))])) _
    refine XS.iadd X0.here hx rfl (hb hby d3_48) rfl ?_
    show Steps p.tables e below (s₁.setTop (mkF m 49 #[.val (.ref a0), .val (.int nn), .val (.int h0_), .val (.int (4 : Int32)), .val (.int (0 : Int32)), .unset] [(.int ((0 : Int32) + (2 : Int32))), (.ref a0), (.int ((y0 &&& (255 : Int32)) ||| ((y1 &&& (255 : Int32)) <<< ((8 : Int32) &&& 31))))])) _
    refine X0.baloadBytes hx (j := ((0 : Int32) + (2 : Int32))) (v := (.int y2)) (by rw [e0]; exact Ar4.1) (State.isArrayOf_alike hZ.alike Ar4.2.1) Ar4.2.2 hin4 hat4 (g := (mkF m 49 #[.val (.ref a0), .val (.int nn), .val (.int h0_), .val (.int (4 : Int32)), .val (.int (0 : Int32)), .unset] [(.int ((0 : Int32) + (2 : Int32))), (.ref a0), (.int ((y0 &&& (255 : Int32)) ||| ((y1 &&& (255 : Int32)) <<< ((8 : Int32) &&& 31))))])) rfl rfl (hb hby d3_49) _ ?_
    show Steps p.tables e below (s₁.setTop (mkF m 50 #[.val (.ref a0), .val (.int nn), .val (.int h0_), .val (.int (4 : Int32)), .val (.int (0 : Int32)), .unset] [(.int y2), (.int ((y0 &&& (255 : Int32)) ||| ((y1 &&& (255 : Int32)) <<< ((8 : Int32) &&& 31))))])) _
    refine XS.sipush X0.here hx rfl (hb hby d3_50) ?_
    show Steps p.tables e below (s₁.setTop (mkF m 53 #[.val (.ref a0), .val (.int nn), .val (.int h0_), .val (.int (4 : Int32)), .val (.int (0 : Int32)), .unset] [(.int (255 : Int32)), (.int y2), (.int ((y0 &&& (255 : Int32)) ||| ((y1 &&& (255 : Int32)) <<< ((8 : Int32) &&& 31))))])) _
    refine XS.iand X0.here hx rfl (hb hby d3_53) rfl ?_
    show Steps p.tables e below (s₁.setTop (mkF m 54 #[.val (.ref a0), .val (.int nn), .val (.int h0_), .val (.int (4 : Int32)), .val (.int (0 : Int32)), .unset] [(.int (y2 &&& (255 : Int32))), (.int ((y0 &&& (255 : Int32)) ||| ((y1 &&& (255 : Int32)) <<< ((8 : Int32) &&& 31))))])) _
    refine XS.bipush X0.here hx rfl (hb hby d3_54) ?_
    show Steps p.tables e below (s₁.setTop (mkF m 56 #[.val (.ref a0), .val (.int nn), .val (.int h0_), .val (.int (4 : Int32)), .val (.int (0 : Int32)), .unset] [(.int (16 : Int32)), (.int (y2 &&& (255 : Int32))), (.int ((y0 &&& (255 : Int32)) ||| ((y1 &&& (255 : Int32)) <<< ((8 : Int32) &&& 31))))])) _
    refine XS.ishl X0.here hx rfl (hb hby d3_56) rfl ?_
    show Steps p.tables e below (s₁.setTop (mkF m 57 #[.val (.ref a0), .val (.int nn), .val (.int h0_), .val (.int (4 : Int32)), .val (.int (0 : Int32)), .unset] [(.int ((y2 &&& (255 : Int32)) <<< ((16 : Int32) &&& 31))), (.int ((y0 &&& (255 : Int32)) ||| ((y1 &&& (255 : Int32)) <<< ((8 : Int32) &&& 31))))])) _
    refine XS.ior X0.here hx rfl (hb hby d3_57) rfl ?_
    show Steps p.tables e below (s₁.setTop (mkF m 58 #[.val (.ref a0), .val (.int nn), .val (.int h0_), .val (.int (4 : Int32)), .val (.int (0 : Int32)), .unset] [(.int (((y0 &&& (255 : Int32)) ||| ((y1 &&& (255 : Int32)) <<< ((8 : Int32) &&& 31))) ||| ((y2 &&& (255 : Int32)) <<< ((16 : Int32) &&& 31))))])) _
    refine XS.aloadN X0.here hx rfl (hb hby d3_58) rfl rfl ?_
    show Steps p.tables e below (s₁.setTop (mkF m 59 #[.val (.ref a0), .val (.int nn), .val (.int h0_), .val (.int (4 : Int32)), .val (.int (0 : Int32)), .unset] [(.ref a0), (.int (((y0 &&& (255 : Int32)) ||| ((y1 &&& (255 : Int32)) <<< ((8 : Int32) &&& 31))) ||| ((y2 &&& (255 : Int32)) <<< ((16 : Int32) &&& 31))))])) _
    refine XS.iload X0.here hx rfl (hb hby d3_59) rfl ?_
    show Steps p.tables e below (s₁.setTop (mkF m 61 #[.val (.ref a0), .val (.int nn), .val (.int h0_), .val (.int (4 : Int32)), .val (.int (0 : Int32)), .unset] [(.int (0 : Int32)), (.ref a0), (.int (((y0 &&& (255 : Int32)) ||| ((y1 &&& (255 : Int32)) <<< ((8 : Int32) &&& 31))) ||| ((y2 &&& (255 : Int32)) <<< ((16 : Int32) &&& 31))))])) _
    refine XS.iconst X0.here hx rfl (hb hby d3_61) ?_
    show Steps p.tables e below (s₁.setTop (mkF m 62 #[.val (.ref a0), .val (.int nn), .val (.int h0_), .val (.int (4 : Int32)), .val (.int (0 : Int32)), .unset] [(.int (3 : Int32)), (.int (0 : Int32)), (.ref a0), (.int (((y0 &&& (255 : Int32)) ||| ((y1 &&& (255 : Int32)) <<< ((8 : Int32) &&& 31))) ||| ((y2 &&& (255 : Int32)) <<< ((16 : Int32) &&& 31))))])) _
    refine XS.iadd X0.here hx rfl (hb hby d3_62) rfl ?_
    show Steps p.tables e below (s₁.setTop (mkF m 63 #[.val (.ref a0), .val (.int nn), .val (.int h0_), .val (.int (4 : Int32)), .val (.int (0 : Int32)), .unset] [(.int ((0 : Int32) + (3 : Int32))), (.ref a0), (.int (((y0 &&& (255 : Int32)) ||| ((y1 &&& (255 : Int32)) <<< ((8 : Int32) &&& 31))) ||| ((y2 &&& (255 : Int32)) <<< ((16 : Int32) &&& 31))))])) _
    refine X0.baloadBytes hx (j := ((0 : Int32) + (3 : Int32))) (v := (.int y3)) (by rw [e0]; exact Ar5.1) (State.isArrayOf_alike hZ.alike Ar5.2.1) Ar5.2.2 hin5 hat5 (g := (mkF m 63 #[.val (.ref a0), .val (.int nn), .val (.int h0_), .val (.int (4 : Int32)), .val (.int (0 : Int32)), .unset] [(.int ((0 : Int32) + (3 : Int32))), (.ref a0), (.int (((y0 &&& (255 : Int32)) ||| ((y1 &&& (255 : Int32)) <<< ((8 : Int32) &&& 31))) ||| ((y2 &&& (255 : Int32)) <<< ((16 : Int32) &&& 31))))])) rfl rfl (hb hby d3_63) _ ?_
    show Steps p.tables e below (s₁.setTop (mkF m 64 #[.val (.ref a0), .val (.int nn), .val (.int h0_), .val (.int (4 : Int32)), .val (.int (0 : Int32)), .unset] [(.int y3), (.int (((y0 &&& (255 : Int32)) ||| ((y1 &&& (255 : Int32)) <<< ((8 : Int32) &&& 31))) ||| ((y2 &&& (255 : Int32)) <<< ((16 : Int32) &&& 31))))])) _
    refine XS.sipush X0.here hx rfl (hb hby d3_64) ?_
    show Steps p.tables e below (s₁.setTop (mkF m 67 #[.val (.ref a0), .val (.int nn), .val (.int h0_), .val (.int (4 : Int32)), .val (.int (0 : Int32)), .unset] [(.int (255 : Int32)), (.int y3), (.int (((y0 &&& (255 : Int32)) ||| ((y1 &&& (255 : Int32)) <<< ((8 : Int32) &&& 31))) ||| ((y2 &&& (255 : Int32)) <<< ((16 : Int32) &&& 31))))])) _
    refine XS.iand X0.here hx rfl (hb hby d3_67) rfl ?_
    show Steps p.tables e below (s₁.setTop (mkF m 68 #[.val (.ref a0), .val (.int nn), .val (.int h0_), .val (.int (4 : Int32)), .val (.int (0 : Int32)), .unset] [(.int (y3 &&& (255 : Int32))), (.int (((y0 &&& (255 : Int32)) ||| ((y1 &&& (255 : Int32)) <<< ((8 : Int32) &&& 31))) ||| ((y2 &&& (255 : Int32)) <<< ((16 : Int32) &&& 31))))])) _
    refine XS.bipush X0.here hx rfl (hb hby d3_68) ?_
    show Steps p.tables e below (s₁.setTop (mkF m 70 #[.val (.ref a0), .val (.int nn), .val (.int h0_), .val (.int (4 : Int32)), .val (.int (0 : Int32)), .unset] [(.int (24 : Int32)), (.int (y3 &&& (255 : Int32))), (.int (((y0 &&& (255 : Int32)) ||| ((y1 &&& (255 : Int32)) <<< ((8 : Int32) &&& 31))) ||| ((y2 &&& (255 : Int32)) <<< ((16 : Int32) &&& 31))))])) _
    refine XS.ishl X0.here hx rfl (hb hby d3_70) rfl ?_
    show Steps p.tables e below (s₁.setTop (mkF m 71 #[.val (.ref a0), .val (.int nn), .val (.int h0_), .val (.int (4 : Int32)), .val (.int (0 : Int32)), .unset] [(.int ((y3 &&& (255 : Int32)) <<< ((24 : Int32) &&& 31))), (.int (((y0 &&& (255 : Int32)) ||| ((y1 &&& (255 : Int32)) <<< ((8 : Int32) &&& 31))) ||| ((y2 &&& (255 : Int32)) <<< ((16 : Int32) &&& 31))))])) _
    refine XS.ior X0.here hx rfl (hb hby d3_71) rfl ?_
    show Steps p.tables e below (s₁.setTop (mkF m 72 #[.val (.ref a0), .val (.int nn), .val (.int h0_), .val (.int (4 : Int32)), .val (.int (0 : Int32)), .unset] [(.int ((((y0 &&& (255 : Int32)) ||| ((y1 &&& (255 : Int32)) <<< ((8 : Int32) &&& 31))) ||| ((y2 &&& (255 : Int32)) <<< ((16 : Int32) &&& 31))) ||| ((y3 &&& (255 : Int32)) <<< ((24 : Int32) &&& 31))))])) _
    rw [← h_k1_]
    show Steps p.tables e below (s₁.setTop (mkF m 72 #[.val (.ref a0), .val (.int nn), .val (.int h0_), .val (.int (4 : Int32)), .val (.int (0 : Int32)), .unset] [(.int k1_)])) _
    refine XS.istore X0.here hx rfl (hb hby d3_72) rfl (l' := #[.val (.ref a0), .val (.int nn), .val (.int h0_), .val (.int (4 : Int32)), .val (.int (0 : Int32)), .val (.int k1_)]) rfl ?_
    show Steps p.tables e below (s₁.setTop (mkF m 74 #[.val (.ref a0), .val (.int nn), .val (.int h0_), .val (.int (4 : Int32)), .val (.int (0 : Int32)), .val (.int k1_)] [])) _
    refine XS.iload X0.here hx rfl (hb hby d3_74) rfl ?_
    show Steps p.tables e below (s₁.setTop (mkF m 76 #[.val (.ref a0), .val (.int nn), .val (.int h0_), .val (.int (4 : Int32)), .val (.int (0 : Int32)), .val (.int k1_)] [(.int k1_)])) _
    refine X0.ldcInt hx hown (mvT hZ (hw _ (List.mem_of_getElem? (i := 13) rfl))) (g := (mkF m 76 #[.val (.ref a0), .val (.int nn), .val (.int h0_), .val (.int (4 : Int32)), .val (.int (0 : Int32)), .val (.int k1_)] [(.int k1_)])) rfl (hb hby d3_76) _ ?_
    show Steps p.tables e below (s₁.setTop (mkF m 78 #[.val (.ref a0), .val (.int nn), .val (.int h0_), .val (.int (4 : Int32)), .val (.int (0 : Int32)), .val (.int k1_)] [(.int (1540483477 : Int32)), (.int k1_)])) _
    refine XS.imul X0.here hx rfl (hb hby d3_78) rfl ?_
    show Steps p.tables e below (s₁.setTop (mkF m 79 #[.val (.ref a0), .val (.int nn), .val (.int h0_), .val (.int (4 : Int32)), .val (.int (0 : Int32)), .val (.int k1_)] [(.int (k1_ * (1540483477 : Int32)))])) _
    refine XS.istore X0.here hx rfl (hb hby d3_79) rfl (l' := #[.val (.ref a0), .val (.int nn), .val (.int h0_), .val (.int (4 : Int32)), .val (.int (0 : Int32)), .val (.int (k1_ * (1540483477 : Int32)))]) rfl ?_
    show Steps p.tables e below (s₁.setTop (mkF m 81 #[.val (.ref a0), .val (.int nn), .val (.int h0_), .val (.int (4 : Int32)), .val (.int (0 : Int32)), .val (.int (k1_ * (1540483477 : Int32)))] [])) _
    refine XS.iload X0.here hx rfl (hb hby d3_81) rfl ?_
    show Steps p.tables e below (s₁.setTop (mkF m 83 #[.val (.ref a0), .val (.int nn), .val (.int h0_), .val (.int (4 : Int32)), .val (.int (0 : Int32)), .val (.int (k1_ * (1540483477 : Int32)))] [(.int (k1_ * (1540483477 : Int32)))])) _
    refine XS.iload X0.here hx rfl (hb hby d3_83) rfl ?_
    show Steps p.tables e below (s₁.setTop (mkF m 85 #[.val (.ref a0), .val (.int nn), .val (.int h0_), .val (.int (4 : Int32)), .val (.int (0 : Int32)), .val (.int (k1_ * (1540483477 : Int32)))] [(.int (k1_ * (1540483477 : Int32))), (.int (k1_ * (1540483477 : Int32)))])) _
    refine XS.bipush X0.here hx rfl (hb hby d3_85) ?_
    show Steps p.tables e below (s₁.setTop (mkF m 87 #[.val (.ref a0), .val (.int nn), .val (.int h0_), .val (.int (4 : Int32)), .val (.int (0 : Int32)), .val (.int (k1_ * (1540483477 : Int32)))] [(.int (24 : Int32)), (.int (k1_ * (1540483477 : Int32))), (.int (k1_ * (1540483477 : Int32)))])) _
    refine XS.iushr X0.here hx rfl (hb hby d3_87) rfl ?_
    show Steps p.tables e below (s₁.setTop (mkF m 88 #[.val (.ref a0), .val (.int nn), .val (.int h0_), .val (.int (4 : Int32)), .val (.int (0 : Int32)), .val (.int (k1_ * (1540483477 : Int32)))] [(.int (((k1_ * (1540483477 : Int32)).toUInt32 >>> ((24 : Int32) &&& 31).toUInt32).toInt32)), (.int (k1_ * (1540483477 : Int32)))])) _
    refine XS.ixor X0.here hx rfl (hb hby d3_88) rfl ?_
    show Steps p.tables e below (s₁.setTop (mkF m 89 #[.val (.ref a0), .val (.int nn), .val (.int h0_), .val (.int (4 : Int32)), .val (.int (0 : Int32)), .val (.int (k1_ * (1540483477 : Int32)))] [(.int ((k1_ * (1540483477 : Int32)) ^^^ (((k1_ * (1540483477 : Int32)).toUInt32 >>> ((24 : Int32) &&& 31).toUInt32).toInt32)))])) _
    refine XS.istore X0.here hx rfl (hb hby d3_89) rfl (l' := #[.val (.ref a0), .val (.int nn), .val (.int h0_), .val (.int (4 : Int32)), .val (.int (0 : Int32)), .val (.int ((k1_ * (1540483477 : Int32)) ^^^ (((k1_ * (1540483477 : Int32)).toUInt32 >>> ((24 : Int32) &&& 31).toUInt32).toInt32)))]) rfl ?_
    show Steps p.tables e below (s₁.setTop (mkF m 91 #[.val (.ref a0), .val (.int nn), .val (.int h0_), .val (.int (4 : Int32)), .val (.int (0 : Int32)), .val (.int ((k1_ * (1540483477 : Int32)) ^^^ (((k1_ * (1540483477 : Int32)).toUInt32 >>> ((24 : Int32) &&& 31).toUInt32).toInt32)))] [])) _
    refine XS.iload X0.here hx rfl (hb hby d3_91) rfl ?_
    show Steps p.tables e below (s₁.setTop (mkF m 93 #[.val (.ref a0), .val (.int nn), .val (.int h0_), .val (.int (4 : Int32)), .val (.int (0 : Int32)), .val (.int ((k1_ * (1540483477 : Int32)) ^^^ (((k1_ * (1540483477 : Int32)).toUInt32 >>> ((24 : Int32) &&& 31).toUInt32).toInt32)))] [(.int ((k1_ * (1540483477 : Int32)) ^^^ (((k1_ * (1540483477 : Int32)).toUInt32 >>> ((24 : Int32) &&& 31).toUInt32).toInt32)))])) _
    refine X0.ldcInt hx hown (mvT hZ (hw _ (List.mem_of_getElem? (i := 13) rfl))) (g := (mkF m 93 #[.val (.ref a0), .val (.int nn), .val (.int h0_), .val (.int (4 : Int32)), .val (.int (0 : Int32)), .val (.int ((k1_ * (1540483477 : Int32)) ^^^ (((k1_ * (1540483477 : Int32)).toUInt32 >>> ((24 : Int32) &&& 31).toUInt32).toInt32)))] [(.int ((k1_ * (1540483477 : Int32)) ^^^ (((k1_ * (1540483477 : Int32)).toUInt32 >>> ((24 : Int32) &&& 31).toUInt32).toInt32)))])) rfl (hb hby d3_93) _ ?_
    show Steps p.tables e below (s₁.setTop (mkF m 95 #[.val (.ref a0), .val (.int nn), .val (.int h0_), .val (.int (4 : Int32)), .val (.int (0 : Int32)), .val (.int ((k1_ * (1540483477 : Int32)) ^^^ (((k1_ * (1540483477 : Int32)).toUInt32 >>> ((24 : Int32) &&& 31).toUInt32).toInt32)))] [(.int (1540483477 : Int32)), (.int ((k1_ * (1540483477 : Int32)) ^^^ (((k1_ * (1540483477 : Int32)).toUInt32 >>> ((24 : Int32) &&& 31).toUInt32).toInt32)))])) _
    refine XS.imul X0.here hx rfl (hb hby d3_95) rfl ?_
    show Steps p.tables e below (s₁.setTop (mkF m 96 #[.val (.ref a0), .val (.int nn), .val (.int h0_), .val (.int (4 : Int32)), .val (.int (0 : Int32)), .val (.int ((k1_ * (1540483477 : Int32)) ^^^ (((k1_ * (1540483477 : Int32)).toUInt32 >>> ((24 : Int32) &&& 31).toUInt32).toInt32)))] [(.int (((k1_ * (1540483477 : Int32)) ^^^ (((k1_ * (1540483477 : Int32)).toUInt32 >>> ((24 : Int32) &&& 31).toUInt32).toInt32)) * (1540483477 : Int32)))])) _
    refine XS.istore X0.here hx rfl (hb hby d3_96) rfl (l' := #[.val (.ref a0), .val (.int nn), .val (.int h0_), .val (.int (4 : Int32)), .val (.int (0 : Int32)), .val (.int (((k1_ * (1540483477 : Int32)) ^^^ (((k1_ * (1540483477 : Int32)).toUInt32 >>> ((24 : Int32) &&& 31).toUInt32).toInt32)) * (1540483477 : Int32)))]) rfl ?_
    show Steps p.tables e below (s₁.setTop (mkF m 98 #[.val (.ref a0), .val (.int nn), .val (.int h0_), .val (.int (4 : Int32)), .val (.int (0 : Int32)), .val (.int (((k1_ * (1540483477 : Int32)) ^^^ (((k1_ * (1540483477 : Int32)).toUInt32 >>> ((24 : Int32) &&& 31).toUInt32).toInt32)) * (1540483477 : Int32)))] [])) _
    refine XS.iloadN X0.here hx rfl (hb hby d3_98) rfl ?_
    show Steps p.tables e below (s₁.setTop (mkF m 99 #[.val (.ref a0), .val (.int nn), .val (.int h0_), .val (.int (4 : Int32)), .val (.int (0 : Int32)), .val (.int (((k1_ * (1540483477 : Int32)) ^^^ (((k1_ * (1540483477 : Int32)).toUInt32 >>> ((24 : Int32) &&& 31).toUInt32).toInt32)) * (1540483477 : Int32)))] [(.int h0_)])) _
    refine X0.ldcInt hx hown (mvT hZ (hw _ (List.mem_of_getElem? (i := 13) rfl))) (g := (mkF m 99 #[.val (.ref a0), .val (.int nn), .val (.int h0_), .val (.int (4 : Int32)), .val (.int (0 : Int32)), .val (.int (((k1_ * (1540483477 : Int32)) ^^^ (((k1_ * (1540483477 : Int32)).toUInt32 >>> ((24 : Int32) &&& 31).toUInt32).toInt32)) * (1540483477 : Int32)))] [(.int h0_)])) rfl (hb hby d3_99) _ ?_
    show Steps p.tables e below (s₁.setTop (mkF m 101 #[.val (.ref a0), .val (.int nn), .val (.int h0_), .val (.int (4 : Int32)), .val (.int (0 : Int32)), .val (.int (((k1_ * (1540483477 : Int32)) ^^^ (((k1_ * (1540483477 : Int32)).toUInt32 >>> ((24 : Int32) &&& 31).toUInt32).toInt32)) * (1540483477 : Int32)))] [(.int (1540483477 : Int32)), (.int h0_)])) _
    refine XS.imul X0.here hx rfl (hb hby d3_101) rfl ?_
    show Steps p.tables e below (s₁.setTop (mkF m 102 #[.val (.ref a0), .val (.int nn), .val (.int h0_), .val (.int (4 : Int32)), .val (.int (0 : Int32)), .val (.int (((k1_ * (1540483477 : Int32)) ^^^ (((k1_ * (1540483477 : Int32)).toUInt32 >>> ((24 : Int32) &&& 31).toUInt32).toInt32)) * (1540483477 : Int32)))] [(.int (h0_ * (1540483477 : Int32)))])) _
    refine XS.istoreN X0.here hx rfl (hb hby d3_102) rfl (l' := #[.val (.ref a0), .val (.int nn), .val (.int (h0_ * (1540483477 : Int32))), .val (.int (4 : Int32)), .val (.int (0 : Int32)), .val (.int (((k1_ * (1540483477 : Int32)) ^^^ (((k1_ * (1540483477 : Int32)).toUInt32 >>> ((24 : Int32) &&& 31).toUInt32).toInt32)) * (1540483477 : Int32)))]) rfl ?_
    show Steps p.tables e below (s₁.setTop (mkF m 103 #[.val (.ref a0), .val (.int nn), .val (.int (h0_ * (1540483477 : Int32))), .val (.int (4 : Int32)), .val (.int (0 : Int32)), .val (.int (((k1_ * (1540483477 : Int32)) ^^^ (((k1_ * (1540483477 : Int32)).toUInt32 >>> ((24 : Int32) &&& 31).toUInt32).toInt32)) * (1540483477 : Int32)))] [])) _
    refine XS.iloadN X0.here hx rfl (hb hby d3_103) rfl ?_
    show Steps p.tables e below (s₁.setTop (mkF m 104 #[.val (.ref a0), .val (.int nn), .val (.int (h0_ * (1540483477 : Int32))), .val (.int (4 : Int32)), .val (.int (0 : Int32)), .val (.int (((k1_ * (1540483477 : Int32)) ^^^ (((k1_ * (1540483477 : Int32)).toUInt32 >>> ((24 : Int32) &&& 31).toUInt32).toInt32)) * (1540483477 : Int32)))] [(.int (h0_ * (1540483477 : Int32)))])) _
    refine XS.iload X0.here hx rfl (hb hby d3_104) rfl ?_
    show Steps p.tables e below (s₁.setTop (mkF m 106 #[.val (.ref a0), .val (.int nn), .val (.int (h0_ * (1540483477 : Int32))), .val (.int (4 : Int32)), .val (.int (0 : Int32)), .val (.int (((k1_ * (1540483477 : Int32)) ^^^ (((k1_ * (1540483477 : Int32)).toUInt32 >>> ((24 : Int32) &&& 31).toUInt32).toInt32)) * (1540483477 : Int32)))] [(.int (((k1_ * (1540483477 : Int32)) ^^^ (((k1_ * (1540483477 : Int32)).toUInt32 >>> ((24 : Int32) &&& 31).toUInt32).toInt32)) * (1540483477 : Int32))), (.int (h0_ * (1540483477 : Int32)))])) _
    refine XS.ixor X0.here hx rfl (hb hby d3_106) rfl ?_
    show Steps p.tables e below (s₁.setTop (mkF m 107 #[.val (.ref a0), .val (.int nn), .val (.int (h0_ * (1540483477 : Int32))), .val (.int (4 : Int32)), .val (.int (0 : Int32)), .val (.int (((k1_ * (1540483477 : Int32)) ^^^ (((k1_ * (1540483477 : Int32)).toUInt32 >>> ((24 : Int32) &&& 31).toUInt32).toInt32)) * (1540483477 : Int32)))] [(.int ((h0_ * (1540483477 : Int32)) ^^^ (((k1_ * (1540483477 : Int32)) ^^^ (((k1_ * (1540483477 : Int32)).toUInt32 >>> ((24 : Int32) &&& 31).toUInt32).toInt32)) * (1540483477 : Int32))))])) _
    rw [← h_h1_]
    show Steps p.tables e below (s₁.setTop (mkF m 107 #[.val (.ref a0), .val (.int nn), .val (.int (h0_ * (1540483477 : Int32))), .val (.int (4 : Int32)), .val (.int (0 : Int32)), .val (.int (((k1_ * (1540483477 : Int32)) ^^^ (((k1_ * (1540483477 : Int32)).toUInt32 >>> ((24 : Int32) &&& 31).toUInt32).toInt32)) * (1540483477 : Int32)))] [(.int h1_)])) _
    refine XS.istoreN X0.here hx rfl (hb hby d3_107) rfl (l' := #[.val (.ref a0), .val (.int nn), .val (.int h1_), .val (.int (4 : Int32)), .val (.int (0 : Int32)), .val (.int (((k1_ * (1540483477 : Int32)) ^^^ (((k1_ * (1540483477 : Int32)).toUInt32 >>> ((24 : Int32) &&& 31).toUInt32).toInt32)) * (1540483477 : Int32)))]) rfl ?_
    show Steps p.tables e below (s₁.setTop (mkF m 108 #[.val (.ref a0), .val (.int nn), .val (.int h1_), .val (.int (4 : Int32)), .val (.int (0 : Int32)), .val (.int (((k1_ * (1540483477 : Int32)) ^^^ (((k1_ * (1540483477 : Int32)).toUInt32 >>> ((24 : Int32) &&& 31).toUInt32).toInt32)) * (1540483477 : Int32)))] [])) _
    refine XS.iinc X0.here hx rfl (hb hby d3_108) rfl (l' := #[.val (.ref a0), .val (.int nn), .val (.int h1_), .val (.int (4 : Int32)), .val (.int ((0 : Int32) + (4 : Int32))), .val (.int (((k1_ * (1540483477 : Int32)) ^^^ (((k1_ * (1540483477 : Int32)).toUInt32 >>> ((24 : Int32) &&& 31).toUInt32).toInt32)) * (1540483477 : Int32)))]) rfl ?_
    show Steps p.tables e below (s₁.setTop (mkF m 111 #[.val (.ref a0), .val (.int nn), .val (.int h1_), .val (.int (4 : Int32)), .val (.int ((0 : Int32) + (4 : Int32))), .val (.int (((k1_ * (1540483477 : Int32)) ^^^ (((k1_ * (1540483477 : Int32)).toUInt32 >>> ((24 : Int32) &&& 31).toUInt32).toInt32)) * (1540483477 : Int32)))] [])) _
    refine XS.goto X0.here hx rfl (pc0 := 111) (pc' := 16) rfl (hb hby d3_111) (by decide) (by decide) ?_
    show Steps p.tables e below (s₁.setTop (mkF m 16 #[.val (.ref a0), .val (.int nn), .val (.int h1_), .val (.int (4 : Int32)), .val (.int ((0 : Int32) + (4 : Int32))), .val (.int (((k1_ * (1540483477 : Int32)) ^^^ (((k1_ * (1540483477 : Int32)).toUInt32 >>> ((24 : Int32) &&& 31).toUInt32).toInt32)) * (1540483477 : Int32)))] [])) _
    refine XS.iload X0.here hx rfl (hb hby d3_16) rfl ?_
    show Steps p.tables e below (s₁.setTop (mkF m 18 #[.val (.ref a0), .val (.int nn), .val (.int h1_), .val (.int (4 : Int32)), .val (.int ((0 : Int32) + (4 : Int32))), .val (.int (((k1_ * (1540483477 : Int32)) ^^^ (((k1_ * (1540483477 : Int32)).toUInt32 >>> ((24 : Int32) &&& 31).toUInt32).toInt32)) * (1540483477 : Int32)))] [(.int ((0 : Int32) + (4 : Int32)))])) _
    refine XS.iloadN X0.here hx rfl (hb hby d3_18) rfl ?_
    show Steps p.tables e below (s₁.setTop (mkF m 19 #[.val (.ref a0), .val (.int nn), .val (.int h1_), .val (.int (4 : Int32)), .val (.int ((0 : Int32) + (4 : Int32))), .val (.int (((k1_ * (1540483477 : Int32)) ^^^ (((k1_ * (1540483477 : Int32)).toUInt32 >>> ((24 : Int32) &&& 31).toUInt32).toInt32)) * (1540483477 : Int32)))] [(.int (4 : Int32)), (.int ((0 : Int32) + (4 : Int32)))])) _
    refine XS.icmpYes X0.here hx rfl (pc0 := 19) (pc' := 114) rfl (hb hby d3_19) rfl (flt (by decide : ¬ (((0 : Int32) + (4 : Int32)) < (4 : Int32)))).2.1 (by decide) (by decide) ?_
    show Steps p.tables e below (s₁.setTop (mkF m 114 #[.val (.ref a0), .val (.int nn), .val (.int h1_), .val (.int (4 : Int32)), .val (.int ((0 : Int32) + (4 : Int32))), .val (.int (((k1_ * (1540483477 : Int32)) ^^^ (((k1_ * (1540483477 : Int32)).toUInt32 >>> ((24 : Int32) &&& 31).toUInt32).toInt32)) * (1540483477 : Int32)))] [])) _
    refine XS.iloadN X0.here hx rfl (hb hby d3_114) rfl ?_
    show Steps p.tables e below (s₁.setTop (mkF m 115 #[.val (.ref a0), .val (.int nn), .val (.int h1_), .val (.int (4 : Int32)), .val (.int ((0 : Int32) + (4 : Int32))), .val (.int (((k1_ * (1540483477 : Int32)) ^^^ (((k1_ * (1540483477 : Int32)).toUInt32 >>> ((24 : Int32) &&& 31).toUInt32).toInt32)) * (1540483477 : Int32)))] [(.int nn)])) _
    refine XS.iloadN X0.here hx rfl (hb hby d3_115) rfl ?_
    show Steps p.tables e below (s₁.setTop (mkF m 116 #[.val (.ref a0), .val (.int nn), .val (.int h1_), .val (.int (4 : Int32)), .val (.int ((0 : Int32) + (4 : Int32))), .val (.int (((k1_ * (1540483477 : Int32)) ^^^ (((k1_ * (1540483477 : Int32)).toUInt32 >>> ((24 : Int32) &&& 31).toUInt32).toInt32)) * (1540483477 : Int32)))] [(.int (4 : Int32)), (.int nn)])) _
    refine XS.isub X0.here hx rfl (hb hby d3_116) rfl ?_
    show Steps p.tables e below (s₁.setTop (mkF m 117 #[.val (.ref a0), .val (.int nn), .val (.int h1_), .val (.int (4 : Int32)), .val (.int ((0 : Int32) + (4 : Int32))), .val (.int (((k1_ * (1540483477 : Int32)) ^^^ (((k1_ * (1540483477 : Int32)).toUInt32 >>> ((24 : Int32) &&& 31).toUInt32).toInt32)) * (1540483477 : Int32)))] [(.int (nn - (4 : Int32)))])) _
    refine XS.istore X0.here hx rfl (hb hby d3_117) rfl (l' := #[.val (.ref a0), .val (.int nn), .val (.int h1_), .val (.int (4 : Int32)), .val (.int (nn - (4 : Int32))), .val (.int (((k1_ * (1540483477 : Int32)) ^^^ (((k1_ * (1540483477 : Int32)).toUInt32 >>> ((24 : Int32) &&& 31).toUInt32).toInt32)) * (1540483477 : Int32)))]) rfl ?_
    show Steps p.tables e below (s₁.setTop (mkF m 119 #[.val (.ref a0), .val (.int nn), .val (.int h1_), .val (.int (4 : Int32)), .val (.int (nn - (4 : Int32))), .val (.int (((k1_ * (1540483477 : Int32)) ^^^ (((k1_ * (1540483477 : Int32)).toUInt32 >>> ((24 : Int32) &&& 31).toUInt32).toInt32)) * (1540483477 : Int32)))] [])) _
    refine XS.iload X0.here hx rfl (hb hby d3_119) rfl ?_
    refine own_via (s₁.setTop (mkF m 181 #[.val (.ref a0), .val (.int nn), .val (.int (if (0 : Int32) < (nn - (4 : Int32)) then (if (3 : Int32) = (nn - (4 : Int32)) then (if (nn - (4 : Int32)) < (2 : Int32) then (((h1_ ^^^ ((y6 &&& (255 : Int32)) <<< ((16 : Int32) &&& 31))) ^^^ (y4 &&& (255 : Int32))) * (1540483477 : Int32)) else ((((h1_ ^^^ ((y6 &&& (255 : Int32)) <<< ((16 : Int32) &&& 31))) ^^^ ((y5 &&& (255 : Int32)) <<< ((8 : Int32) &&& 31))) ^^^ (y4 &&& (255 : Int32))) * (1540483477 : Int32))) else (if (nn - (4 : Int32)) < (2 : Int32) then ((h1_ ^^^ (y4 &&& (255 : Int32))) * (1540483477 : Int32)) else (((h1_ ^^^ ((y5 &&& (255 : Int32)) <<< ((8 : Int32) &&& 31))) ^^^ (y4 &&& (255 : Int32))) * (1540483477 : Int32)))) else h1_)), .val (.int (4 : Int32)), .val (.int (nn - (4 : Int32))), .val (.int (((k1_ * (1540483477 : Int32)) ^^^ (((k1_ * (1540483477 : Int32)).toUInt32 >>> ((24 : Int32) &&& 31).toUInt32).toInt32)) * (1540483477 : Int32)))] [])) (fun k => ?_) ?_
    · by_cases hc121 : (0 : Int32) < (nn - (4 : Int32))
      · show Steps p.tables e below (s₁.setTop (mkF m 121 #[.val (.ref a0), .val (.int nn), .val (.int h1_), .val (.int (4 : Int32)), .val (.int (nn - (4 : Int32))), .val (.int (((k1_ * (1540483477 : Int32)) ^^^ (((k1_ * (1540483477 : Int32)).toUInt32 >>> ((24 : Int32) &&& 31).toUInt32).toInt32)) * (1540483477 : Int32)))] [(.int (nn - (4 : Int32)))])) _
        refine XS.ifNo X0.here hx rfl (hb hby d3_121) rfl ((if0 _ _).trans (tlt hc121).2.2.2) ?_
        show Steps p.tables e below (s₁.setTop (mkF m 124 #[.val (.ref a0), .val (.int nn), .val (.int h1_), .val (.int (4 : Int32)), .val (.int (nn - (4 : Int32))), .val (.int (((k1_ * (1540483477 : Int32)) ^^^ (((k1_ * (1540483477 : Int32)).toUInt32 >>> ((24 : Int32) &&& 31).toUInt32).toInt32)) * (1540483477 : Int32)))] [])) _
        refine XS.iconst X0.here hx rfl (hb hby d3_124) ?_
        show Steps p.tables e below (s₁.setTop (mkF m 125 #[.val (.ref a0), .val (.int nn), .val (.int h1_), .val (.int (4 : Int32)), .val (.int (nn - (4 : Int32))), .val (.int (((k1_ * (1540483477 : Int32)) ^^^ (((k1_ * (1540483477 : Int32)).toUInt32 >>> ((24 : Int32) &&& 31).toUInt32).toInt32)) * (1540483477 : Int32)))] [(.int (3 : Int32))])) _
        refine XS.iload X0.here hx rfl (hb hby d3_125) rfl ?_
        by_cases hc127 : (3 : Int32) = (nn - (4 : Int32))
        · show Steps p.tables e below (s₁.setTop (mkF m 127 #[.val (.ref a0), .val (.int nn), .val (.int h1_), .val (.int (4 : Int32)), .val (.int (nn - (4 : Int32))), .val (.int (((k1_ * (1540483477 : Int32)) ^^^ (((k1_ * (1540483477 : Int32)).toUInt32 >>> ((24 : Int32) &&& 31).toUInt32).toInt32)) * (1540483477 : Int32)))] [(.int (nn - (4 : Int32))), (.int (3 : Int32))])) _
          refine XS.icmpNo X0.here hx rfl (hb hby d3_127) rfl (teq hc127).2 ?_
          show Steps p.tables e below (s₁.setTop (mkF m 130 #[.val (.ref a0), .val (.int nn), .val (.int h1_), .val (.int (4 : Int32)), .val (.int (nn - (4 : Int32))), .val (.int (((k1_ * (1540483477 : Int32)) ^^^ (((k1_ * (1540483477 : Int32)).toUInt32 >>> ((24 : Int32) &&& 31).toUInt32).toInt32)) * (1540483477 : Int32)))] [])) _
          refine XS.iloadN X0.here hx rfl (hb hby d3_130) rfl ?_
          show Steps p.tables e below (s₁.setTop (mkF m 131 #[.val (.ref a0), .val (.int nn), .val (.int h1_), .val (.int (4 : Int32)), .val (.int (nn - (4 : Int32))), .val (.int (((k1_ * (1540483477 : Int32)) ^^^ (((k1_ * (1540483477 : Int32)).toUInt32 >>> ((24 : Int32) &&& 31).toUInt32).toInt32)) * (1540483477 : Int32)))] [(.int h1_)])) _
          refine XS.aloadN X0.here hx rfl (hb hby d3_131) rfl rfl ?_
          show Steps p.tables e below (s₁.setTop (mkF m 132 #[.val (.ref a0), .val (.int nn), .val (.int h1_), .val (.int (4 : Int32)), .val (.int (nn - (4 : Int32))), .val (.int (((k1_ * (1540483477 : Int32)) ^^^ (((k1_ * (1540483477 : Int32)).toUInt32 >>> ((24 : Int32) &&& 31).toUInt32).toInt32)) * (1540483477 : Int32)))] [(.ref a0), (.int h1_)])) _
          refine XS.iloadN X0.here hx rfl (hb hby d3_132) rfl ?_
          show Steps p.tables e below (s₁.setTop (mkF m 133 #[.val (.ref a0), .val (.int nn), .val (.int h1_), .val (.int (4 : Int32)), .val (.int (nn - (4 : Int32))), .val (.int (((k1_ * (1540483477 : Int32)) ^^^ (((k1_ * (1540483477 : Int32)).toUInt32 >>> ((24 : Int32) &&& 31).toUInt32).toInt32)) * (1540483477 : Int32)))] [(.int (4 : Int32)), (.ref a0), (.int h1_)])) _
          refine XS.iconst X0.here hx rfl (hb hby d3_133) ?_
          show Steps p.tables e below (s₁.setTop (mkF m 134 #[.val (.ref a0), .val (.int nn), .val (.int h1_), .val (.int (4 : Int32)), .val (.int (nn - (4 : Int32))), .val (.int (((k1_ * (1540483477 : Int32)) ^^^ (((k1_ * (1540483477 : Int32)).toUInt32 >>> ((24 : Int32) &&& 31).toUInt32).toInt32)) * (1540483477 : Int32)))] [(.int (2 : Int32)), (.int (4 : Int32)), (.ref a0), (.int h1_)])) _
          refine XS.iadd X0.here hx rfl (hb hby d3_134) rfl ?_
          obtain ⟨cl6, Ar6, -, SS6, MM6, HH6, -⟩ := id V_a0
          have hin6 := inb_of SS6 (own_in (i := ((4 : Int32) + (2 : Int32))) (k := 6) (by decide) (by decide) (own_g2 (by decide : (4 : Int32).toInt = 4) hn hc127))
          have hat6 : cl6.slots[(((4 : Int32) + (2 : Int32))).toNatClampNeg]? = some (.int y6) := HH6.at hin6 (yat6 (own_g2 (by decide : (4 : Int32).toInt = 4) hn hc127))
          show Steps p.tables e below (s₁.setTop (mkF m 135 #[.val (.ref a0), .val (.int nn), .val (.int h1_), .val (.int (4 : Int32)), .val (.int (nn - (4 : Int32))), .val (.int (((k1_ * (1540483477 : Int32)) ^^^ (((k1_ * (1540483477 : Int32)).toUInt32 >>> ((24 : Int32) &&& 31).toUInt32).toInt32)) * (1540483477 : Int32)))] [(.int ((4 : Int32) + (2 : Int32))), (.ref a0), (.int h1_)])) _
          refine X0.baloadBytes hx (j := ((4 : Int32) + (2 : Int32))) (v := (.int y6)) (by rw [e0]; exact Ar6.1) (State.isArrayOf_alike hZ.alike Ar6.2.1) Ar6.2.2 hin6 hat6 (g := (mkF m 135 #[.val (.ref a0), .val (.int nn), .val (.int h1_), .val (.int (4 : Int32)), .val (.int (nn - (4 : Int32))), .val (.int (((k1_ * (1540483477 : Int32)) ^^^ (((k1_ * (1540483477 : Int32)).toUInt32 >>> ((24 : Int32) &&& 31).toUInt32).toInt32)) * (1540483477 : Int32)))] [(.int ((4 : Int32) + (2 : Int32))), (.ref a0), (.int h1_)])) rfl rfl (hb hby d3_135) _ ?_
          show Steps p.tables e below (s₁.setTop (mkF m 136 #[.val (.ref a0), .val (.int nn), .val (.int h1_), .val (.int (4 : Int32)), .val (.int (nn - (4 : Int32))), .val (.int (((k1_ * (1540483477 : Int32)) ^^^ (((k1_ * (1540483477 : Int32)).toUInt32 >>> ((24 : Int32) &&& 31).toUInt32).toInt32)) * (1540483477 : Int32)))] [(.int y6), (.int h1_)])) _
          refine XS.sipush X0.here hx rfl (hb hby d3_136) ?_
          show Steps p.tables e below (s₁.setTop (mkF m 139 #[.val (.ref a0), .val (.int nn), .val (.int h1_), .val (.int (4 : Int32)), .val (.int (nn - (4 : Int32))), .val (.int (((k1_ * (1540483477 : Int32)) ^^^ (((k1_ * (1540483477 : Int32)).toUInt32 >>> ((24 : Int32) &&& 31).toUInt32).toInt32)) * (1540483477 : Int32)))] [(.int (255 : Int32)), (.int y6), (.int h1_)])) _
          refine XS.iand X0.here hx rfl (hb hby d3_139) rfl ?_
          show Steps p.tables e below (s₁.setTop (mkF m 140 #[.val (.ref a0), .val (.int nn), .val (.int h1_), .val (.int (4 : Int32)), .val (.int (nn - (4 : Int32))), .val (.int (((k1_ * (1540483477 : Int32)) ^^^ (((k1_ * (1540483477 : Int32)).toUInt32 >>> ((24 : Int32) &&& 31).toUInt32).toInt32)) * (1540483477 : Int32)))] [(.int (y6 &&& (255 : Int32))), (.int h1_)])) _
          refine XS.bipush X0.here hx rfl (hb hby d3_140) ?_
          show Steps p.tables e below (s₁.setTop (mkF m 142 #[.val (.ref a0), .val (.int nn), .val (.int h1_), .val (.int (4 : Int32)), .val (.int (nn - (4 : Int32))), .val (.int (((k1_ * (1540483477 : Int32)) ^^^ (((k1_ * (1540483477 : Int32)).toUInt32 >>> ((24 : Int32) &&& 31).toUInt32).toInt32)) * (1540483477 : Int32)))] [(.int (16 : Int32)), (.int (y6 &&& (255 : Int32))), (.int h1_)])) _
          refine XS.ishl X0.here hx rfl (hb hby d3_142) rfl ?_
          show Steps p.tables e below (s₁.setTop (mkF m 143 #[.val (.ref a0), .val (.int nn), .val (.int h1_), .val (.int (4 : Int32)), .val (.int (nn - (4 : Int32))), .val (.int (((k1_ * (1540483477 : Int32)) ^^^ (((k1_ * (1540483477 : Int32)).toUInt32 >>> ((24 : Int32) &&& 31).toUInt32).toInt32)) * (1540483477 : Int32)))] [(.int ((y6 &&& (255 : Int32)) <<< ((16 : Int32) &&& 31))), (.int h1_)])) _
          refine XS.ixor X0.here hx rfl (hb hby d3_143) rfl ?_
          show Steps p.tables e below (s₁.setTop (mkF m 144 #[.val (.ref a0), .val (.int nn), .val (.int h1_), .val (.int (4 : Int32)), .val (.int (nn - (4 : Int32))), .val (.int (((k1_ * (1540483477 : Int32)) ^^^ (((k1_ * (1540483477 : Int32)).toUInt32 >>> ((24 : Int32) &&& 31).toUInt32).toInt32)) * (1540483477 : Int32)))] [(.int (h1_ ^^^ ((y6 &&& (255 : Int32)) <<< ((16 : Int32) &&& 31))))])) _
          refine XS.istoreN X0.here hx rfl (hb hby d3_144) rfl (l' := #[.val (.ref a0), .val (.int nn), .val (.int (h1_ ^^^ ((y6 &&& (255 : Int32)) <<< ((16 : Int32) &&& 31)))), .val (.int (4 : Int32)), .val (.int (nn - (4 : Int32))), .val (.int (((k1_ * (1540483477 : Int32)) ^^^ (((k1_ * (1540483477 : Int32)).toUInt32 >>> ((24 : Int32) &&& 31).toUInt32).toInt32)) * (1540483477 : Int32)))]) rfl ?_
          show Steps p.tables e below (s₁.setTop (mkF m 145 #[.val (.ref a0), .val (.int nn), .val (.int (h1_ ^^^ ((y6 &&& (255 : Int32)) <<< ((16 : Int32) &&& 31)))), .val (.int (4 : Int32)), .val (.int (nn - (4 : Int32))), .val (.int (((k1_ * (1540483477 : Int32)) ^^^ (((k1_ * (1540483477 : Int32)).toUInt32 >>> ((24 : Int32) &&& 31).toUInt32).toInt32)) * (1540483477 : Int32)))] [])) _
          refine XS.iload X0.here hx rfl (hb hby d3_145) rfl ?_
          show Steps p.tables e below (s₁.setTop (mkF m 147 #[.val (.ref a0), .val (.int nn), .val (.int (h1_ ^^^ ((y6 &&& (255 : Int32)) <<< ((16 : Int32) &&& 31)))), .val (.int (4 : Int32)), .val (.int (nn - (4 : Int32))), .val (.int (((k1_ * (1540483477 : Int32)) ^^^ (((k1_ * (1540483477 : Int32)).toUInt32 >>> ((24 : Int32) &&& 31).toUInt32).toInt32)) * (1540483477 : Int32)))] [(.int (nn - (4 : Int32)))])) _
          refine XS.iconst X0.here hx rfl (hb hby d3_147) ?_
          by_cases hc148 : (nn - (4 : Int32)) < (2 : Int32)
          · show Steps p.tables e below (s₁.setTop (mkF m 148 #[.val (.ref a0), .val (.int nn), .val (.int (h1_ ^^^ ((y6 &&& (255 : Int32)) <<< ((16 : Int32) &&& 31)))), .val (.int (4 : Int32)), .val (.int (nn - (4 : Int32))), .val (.int (((k1_ * (1540483477 : Int32)) ^^^ (((k1_ * (1540483477 : Int32)).toUInt32 >>> ((24 : Int32) &&& 31).toUInt32).toInt32)) * (1540483477 : Int32)))] [(.int (2 : Int32)), (.int (nn - (4 : Int32)))])) _
            refine XS.icmpYes X0.here hx rfl (pc0 := 148) (pc' := 166) rfl (hb hby d3_148) rfl (tlt hc148).1 (by decide) (by decide) ?_
            show Steps p.tables e below (s₁.setTop (mkF m 166 #[.val (.ref a0), .val (.int nn), .val (.int (h1_ ^^^ ((y6 &&& (255 : Int32)) <<< ((16 : Int32) &&& 31)))), .val (.int (4 : Int32)), .val (.int (nn - (4 : Int32))), .val (.int (((k1_ * (1540483477 : Int32)) ^^^ (((k1_ * (1540483477 : Int32)).toUInt32 >>> ((24 : Int32) &&& 31).toUInt32).toInt32)) * (1540483477 : Int32)))] [])) _
            refine XS.iloadN X0.here hx rfl (hb hby d3_166) rfl ?_
            show Steps p.tables e below (s₁.setTop (mkF m 167 #[.val (.ref a0), .val (.int nn), .val (.int (h1_ ^^^ ((y6 &&& (255 : Int32)) <<< ((16 : Int32) &&& 31)))), .val (.int (4 : Int32)), .val (.int (nn - (4 : Int32))), .val (.int (((k1_ * (1540483477 : Int32)) ^^^ (((k1_ * (1540483477 : Int32)).toUInt32 >>> ((24 : Int32) &&& 31).toUInt32).toInt32)) * (1540483477 : Int32)))] [(.int (h1_ ^^^ ((y6 &&& (255 : Int32)) <<< ((16 : Int32) &&& 31))))])) _
            refine XS.aloadN X0.here hx rfl (hb hby d3_167) rfl rfl ?_
            show Steps p.tables e below (s₁.setTop (mkF m 168 #[.val (.ref a0), .val (.int nn), .val (.int (h1_ ^^^ ((y6 &&& (255 : Int32)) <<< ((16 : Int32) &&& 31)))), .val (.int (4 : Int32)), .val (.int (nn - (4 : Int32))), .val (.int (((k1_ * (1540483477 : Int32)) ^^^ (((k1_ * (1540483477 : Int32)).toUInt32 >>> ((24 : Int32) &&& 31).toUInt32).toInt32)) * (1540483477 : Int32)))] [(.ref a0), (.int (h1_ ^^^ ((y6 &&& (255 : Int32)) <<< ((16 : Int32) &&& 31))))])) _
            refine XS.iloadN X0.here hx rfl (hb hby d3_168) rfl ?_
            obtain ⟨cl7, Ar7, -, SS7, MM7, HH7, -⟩ := id V_a0
            have hin7 := inb_of SS7 (own_in (i := (4 : Int32)) (k := 4) (by decide) (by decide) (own_g0 (by decide : (4 : Int32).toInt = 4) hn hc121))
            have hat7 : cl7.slots[((4 : Int32)).toNatClampNeg]? = some (.int y4) := HH7.at hin7 (yat4 (own_g0 (by decide : (4 : Int32).toInt = 4) hn hc121))
            show Steps p.tables e below (s₁.setTop (mkF m 169 #[.val (.ref a0), .val (.int nn), .val (.int (h1_ ^^^ ((y6 &&& (255 : Int32)) <<< ((16 : Int32) &&& 31)))), .val (.int (4 : Int32)), .val (.int (nn - (4 : Int32))), .val (.int (((k1_ * (1540483477 : Int32)) ^^^ (((k1_ * (1540483477 : Int32)).toUInt32 >>> ((24 : Int32) &&& 31).toUInt32).toInt32)) * (1540483477 : Int32)))] [(.int (4 : Int32)), (.ref a0), (.int (h1_ ^^^ ((y6 &&& (255 : Int32)) <<< ((16 : Int32) &&& 31))))])) _
            refine X0.baloadBytes hx (j := (4 : Int32)) (v := (.int y4)) (by rw [e0]; exact Ar7.1) (State.isArrayOf_alike hZ.alike Ar7.2.1) Ar7.2.2 hin7 hat7 (g := (mkF m 169 #[.val (.ref a0), .val (.int nn), .val (.int (h1_ ^^^ ((y6 &&& (255 : Int32)) <<< ((16 : Int32) &&& 31)))), .val (.int (4 : Int32)), .val (.int (nn - (4 : Int32))), .val (.int (((k1_ * (1540483477 : Int32)) ^^^ (((k1_ * (1540483477 : Int32)).toUInt32 >>> ((24 : Int32) &&& 31).toUInt32).toInt32)) * (1540483477 : Int32)))] [(.int (4 : Int32)), (.ref a0), (.int (h1_ ^^^ ((y6 &&& (255 : Int32)) <<< ((16 : Int32) &&& 31))))])) rfl rfl (hb hby d3_169) _ ?_
            show Steps p.tables e below (s₁.setTop (mkF m 170 #[.val (.ref a0), .val (.int nn), .val (.int (h1_ ^^^ ((y6 &&& (255 : Int32)) <<< ((16 : Int32) &&& 31)))), .val (.int (4 : Int32)), .val (.int (nn - (4 : Int32))), .val (.int (((k1_ * (1540483477 : Int32)) ^^^ (((k1_ * (1540483477 : Int32)).toUInt32 >>> ((24 : Int32) &&& 31).toUInt32).toInt32)) * (1540483477 : Int32)))] [(.int y4), (.int (h1_ ^^^ ((y6 &&& (255 : Int32)) <<< ((16 : Int32) &&& 31))))])) _
            refine XS.sipush X0.here hx rfl (hb hby d3_170) ?_
            show Steps p.tables e below (s₁.setTop (mkF m 173 #[.val (.ref a0), .val (.int nn), .val (.int (h1_ ^^^ ((y6 &&& (255 : Int32)) <<< ((16 : Int32) &&& 31)))), .val (.int (4 : Int32)), .val (.int (nn - (4 : Int32))), .val (.int (((k1_ * (1540483477 : Int32)) ^^^ (((k1_ * (1540483477 : Int32)).toUInt32 >>> ((24 : Int32) &&& 31).toUInt32).toInt32)) * (1540483477 : Int32)))] [(.int (255 : Int32)), (.int y4), (.int (h1_ ^^^ ((y6 &&& (255 : Int32)) <<< ((16 : Int32) &&& 31))))])) _
            refine XS.iand X0.here hx rfl (hb hby d3_173) rfl ?_
            show Steps p.tables e below (s₁.setTop (mkF m 174 #[.val (.ref a0), .val (.int nn), .val (.int (h1_ ^^^ ((y6 &&& (255 : Int32)) <<< ((16 : Int32) &&& 31)))), .val (.int (4 : Int32)), .val (.int (nn - (4 : Int32))), .val (.int (((k1_ * (1540483477 : Int32)) ^^^ (((k1_ * (1540483477 : Int32)).toUInt32 >>> ((24 : Int32) &&& 31).toUInt32).toInt32)) * (1540483477 : Int32)))] [(.int (y4 &&& (255 : Int32))), (.int (h1_ ^^^ ((y6 &&& (255 : Int32)) <<< ((16 : Int32) &&& 31))))])) _
            refine XS.ixor X0.here hx rfl (hb hby d3_174) rfl ?_
            show Steps p.tables e below (s₁.setTop (mkF m 175 #[.val (.ref a0), .val (.int nn), .val (.int (h1_ ^^^ ((y6 &&& (255 : Int32)) <<< ((16 : Int32) &&& 31)))), .val (.int (4 : Int32)), .val (.int (nn - (4 : Int32))), .val (.int (((k1_ * (1540483477 : Int32)) ^^^ (((k1_ * (1540483477 : Int32)).toUInt32 >>> ((24 : Int32) &&& 31).toUInt32).toInt32)) * (1540483477 : Int32)))] [(.int ((h1_ ^^^ ((y6 &&& (255 : Int32)) <<< ((16 : Int32) &&& 31))) ^^^ (y4 &&& (255 : Int32))))])) _
            refine XS.istoreN X0.here hx rfl (hb hby d3_175) rfl (l' := #[.val (.ref a0), .val (.int nn), .val (.int ((h1_ ^^^ ((y6 &&& (255 : Int32)) <<< ((16 : Int32) &&& 31))) ^^^ (y4 &&& (255 : Int32)))), .val (.int (4 : Int32)), .val (.int (nn - (4 : Int32))), .val (.int (((k1_ * (1540483477 : Int32)) ^^^ (((k1_ * (1540483477 : Int32)).toUInt32 >>> ((24 : Int32) &&& 31).toUInt32).toInt32)) * (1540483477 : Int32)))]) rfl ?_
            show Steps p.tables e below (s₁.setTop (mkF m 176 #[.val (.ref a0), .val (.int nn), .val (.int ((h1_ ^^^ ((y6 &&& (255 : Int32)) <<< ((16 : Int32) &&& 31))) ^^^ (y4 &&& (255 : Int32)))), .val (.int (4 : Int32)), .val (.int (nn - (4 : Int32))), .val (.int (((k1_ * (1540483477 : Int32)) ^^^ (((k1_ * (1540483477 : Int32)).toUInt32 >>> ((24 : Int32) &&& 31).toUInt32).toInt32)) * (1540483477 : Int32)))] [])) _
            refine XS.iloadN X0.here hx rfl (hb hby d3_176) rfl ?_
            show Steps p.tables e below (s₁.setTop (mkF m 177 #[.val (.ref a0), .val (.int nn), .val (.int ((h1_ ^^^ ((y6 &&& (255 : Int32)) <<< ((16 : Int32) &&& 31))) ^^^ (y4 &&& (255 : Int32)))), .val (.int (4 : Int32)), .val (.int (nn - (4 : Int32))), .val (.int (((k1_ * (1540483477 : Int32)) ^^^ (((k1_ * (1540483477 : Int32)).toUInt32 >>> ((24 : Int32) &&& 31).toUInt32).toInt32)) * (1540483477 : Int32)))] [(.int ((h1_ ^^^ ((y6 &&& (255 : Int32)) <<< ((16 : Int32) &&& 31))) ^^^ (y4 &&& (255 : Int32))))])) _
            refine X0.ldcInt hx hown (mvT hZ (hw _ (List.mem_of_getElem? (i := 13) rfl))) (g := (mkF m 177 #[.val (.ref a0), .val (.int nn), .val (.int ((h1_ ^^^ ((y6 &&& (255 : Int32)) <<< ((16 : Int32) &&& 31))) ^^^ (y4 &&& (255 : Int32)))), .val (.int (4 : Int32)), .val (.int (nn - (4 : Int32))), .val (.int (((k1_ * (1540483477 : Int32)) ^^^ (((k1_ * (1540483477 : Int32)).toUInt32 >>> ((24 : Int32) &&& 31).toUInt32).toInt32)) * (1540483477 : Int32)))] [(.int ((h1_ ^^^ ((y6 &&& (255 : Int32)) <<< ((16 : Int32) &&& 31))) ^^^ (y4 &&& (255 : Int32))))])) rfl (hb hby d3_177) _ ?_
            show Steps p.tables e below (s₁.setTop (mkF m 179 #[.val (.ref a0), .val (.int nn), .val (.int ((h1_ ^^^ ((y6 &&& (255 : Int32)) <<< ((16 : Int32) &&& 31))) ^^^ (y4 &&& (255 : Int32)))), .val (.int (4 : Int32)), .val (.int (nn - (4 : Int32))), .val (.int (((k1_ * (1540483477 : Int32)) ^^^ (((k1_ * (1540483477 : Int32)).toUInt32 >>> ((24 : Int32) &&& 31).toUInt32).toInt32)) * (1540483477 : Int32)))] [(.int (1540483477 : Int32)), (.int ((h1_ ^^^ ((y6 &&& (255 : Int32)) <<< ((16 : Int32) &&& 31))) ^^^ (y4 &&& (255 : Int32))))])) _
            refine XS.imul X0.here hx rfl (hb hby d3_179) rfl ?_
            show Steps p.tables e below (s₁.setTop (mkF m 180 #[.val (.ref a0), .val (.int nn), .val (.int ((h1_ ^^^ ((y6 &&& (255 : Int32)) <<< ((16 : Int32) &&& 31))) ^^^ (y4 &&& (255 : Int32)))), .val (.int (4 : Int32)), .val (.int (nn - (4 : Int32))), .val (.int (((k1_ * (1540483477 : Int32)) ^^^ (((k1_ * (1540483477 : Int32)).toUInt32 >>> ((24 : Int32) &&& 31).toUInt32).toInt32)) * (1540483477 : Int32)))] [(.int (((h1_ ^^^ ((y6 &&& (255 : Int32)) <<< ((16 : Int32) &&& 31))) ^^^ (y4 &&& (255 : Int32))) * (1540483477 : Int32)))])) _
            refine XS.istoreN X0.here hx rfl (hb hby d3_180) rfl (l' := #[.val (.ref a0), .val (.int nn), .val (.int (((h1_ ^^^ ((y6 &&& (255 : Int32)) <<< ((16 : Int32) &&& 31))) ^^^ (y4 &&& (255 : Int32))) * (1540483477 : Int32))), .val (.int (4 : Int32)), .val (.int (nn - (4 : Int32))), .val (.int (((k1_ * (1540483477 : Int32)) ^^^ (((k1_ * (1540483477 : Int32)).toUInt32 >>> ((24 : Int32) &&& 31).toUInt32).toInt32)) * (1540483477 : Int32)))]) rfl ?_
            try simp only [if_pos hc121, if_pos hc127, if_pos hc148] at k
            exact k
          · show Steps p.tables e below (s₁.setTop (mkF m 148 #[.val (.ref a0), .val (.int nn), .val (.int (h1_ ^^^ ((y6 &&& (255 : Int32)) <<< ((16 : Int32) &&& 31)))), .val (.int (4 : Int32)), .val (.int (nn - (4 : Int32))), .val (.int (((k1_ * (1540483477 : Int32)) ^^^ (((k1_ * (1540483477 : Int32)).toUInt32 >>> ((24 : Int32) &&& 31).toUInt32).toInt32)) * (1540483477 : Int32)))] [(.int (2 : Int32)), (.int (nn - (4 : Int32)))])) _
            refine XS.icmpNo X0.here hx rfl (hb hby d3_148) rfl (flt hc148).1 ?_
            show Steps p.tables e below (s₁.setTop (mkF m 151 #[.val (.ref a0), .val (.int nn), .val (.int (h1_ ^^^ ((y6 &&& (255 : Int32)) <<< ((16 : Int32) &&& 31)))), .val (.int (4 : Int32)), .val (.int (nn - (4 : Int32))), .val (.int (((k1_ * (1540483477 : Int32)) ^^^ (((k1_ * (1540483477 : Int32)).toUInt32 >>> ((24 : Int32) &&& 31).toUInt32).toInt32)) * (1540483477 : Int32)))] [])) _
            refine XS.iloadN X0.here hx rfl (hb hby d3_151) rfl ?_
            show Steps p.tables e below (s₁.setTop (mkF m 152 #[.val (.ref a0), .val (.int nn), .val (.int (h1_ ^^^ ((y6 &&& (255 : Int32)) <<< ((16 : Int32) &&& 31)))), .val (.int (4 : Int32)), .val (.int (nn - (4 : Int32))), .val (.int (((k1_ * (1540483477 : Int32)) ^^^ (((k1_ * (1540483477 : Int32)).toUInt32 >>> ((24 : Int32) &&& 31).toUInt32).toInt32)) * (1540483477 : Int32)))] [(.int (h1_ ^^^ ((y6 &&& (255 : Int32)) <<< ((16 : Int32) &&& 31))))])) _
            refine XS.aloadN X0.here hx rfl (hb hby d3_152) rfl rfl ?_
            show Steps p.tables e below (s₁.setTop (mkF m 153 #[.val (.ref a0), .val (.int nn), .val (.int (h1_ ^^^ ((y6 &&& (255 : Int32)) <<< ((16 : Int32) &&& 31)))), .val (.int (4 : Int32)), .val (.int (nn - (4 : Int32))), .val (.int (((k1_ * (1540483477 : Int32)) ^^^ (((k1_ * (1540483477 : Int32)).toUInt32 >>> ((24 : Int32) &&& 31).toUInt32).toInt32)) * (1540483477 : Int32)))] [(.ref a0), (.int (h1_ ^^^ ((y6 &&& (255 : Int32)) <<< ((16 : Int32) &&& 31))))])) _
            refine XS.iloadN X0.here hx rfl (hb hby d3_153) rfl ?_
            show Steps p.tables e below (s₁.setTop (mkF m 154 #[.val (.ref a0), .val (.int nn), .val (.int (h1_ ^^^ ((y6 &&& (255 : Int32)) <<< ((16 : Int32) &&& 31)))), .val (.int (4 : Int32)), .val (.int (nn - (4 : Int32))), .val (.int (((k1_ * (1540483477 : Int32)) ^^^ (((k1_ * (1540483477 : Int32)).toUInt32 >>> ((24 : Int32) &&& 31).toUInt32).toInt32)) * (1540483477 : Int32)))] [(.int (4 : Int32)), (.ref a0), (.int (h1_ ^^^ ((y6 &&& (255 : Int32)) <<< ((16 : Int32) &&& 31))))])) _
            refine XS.iconst X0.here hx rfl (hb hby d3_154) ?_
            show Steps p.tables e below (s₁.setTop (mkF m 155 #[.val (.ref a0), .val (.int nn), .val (.int (h1_ ^^^ ((y6 &&& (255 : Int32)) <<< ((16 : Int32) &&& 31)))), .val (.int (4 : Int32)), .val (.int (nn - (4 : Int32))), .val (.int (((k1_ * (1540483477 : Int32)) ^^^ (((k1_ * (1540483477 : Int32)).toUInt32 >>> ((24 : Int32) &&& 31).toUInt32).toInt32)) * (1540483477 : Int32)))] [(.int (1 : Int32)), (.int (4 : Int32)), (.ref a0), (.int (h1_ ^^^ ((y6 &&& (255 : Int32)) <<< ((16 : Int32) &&& 31))))])) _
            refine XS.iadd X0.here hx rfl (hb hby d3_155) rfl ?_
            obtain ⟨cl8, Ar8, -, SS8, MM8, HH8, -⟩ := id V_a0
            have hin8 := inb_of SS8 (own_in (i := ((4 : Int32) + (1 : Int32))) (k := 5) (by decide) (by decide) (own_g1 (by decide : (4 : Int32).toInt = 4) hn hc148))
            have hat8 : cl8.slots[(((4 : Int32) + (1 : Int32))).toNatClampNeg]? = some (.int y5) := HH8.at hin8 (yat5 (own_g1 (by decide : (4 : Int32).toInt = 4) hn hc148))
            show Steps p.tables e below (s₁.setTop (mkF m 156 #[.val (.ref a0), .val (.int nn), .val (.int (h1_ ^^^ ((y6 &&& (255 : Int32)) <<< ((16 : Int32) &&& 31)))), .val (.int (4 : Int32)), .val (.int (nn - (4 : Int32))), .val (.int (((k1_ * (1540483477 : Int32)) ^^^ (((k1_ * (1540483477 : Int32)).toUInt32 >>> ((24 : Int32) &&& 31).toUInt32).toInt32)) * (1540483477 : Int32)))] [(.int ((4 : Int32) + (1 : Int32))), (.ref a0), (.int (h1_ ^^^ ((y6 &&& (255 : Int32)) <<< ((16 : Int32) &&& 31))))])) _
            refine X0.baloadBytes hx (j := ((4 : Int32) + (1 : Int32))) (v := (.int y5)) (by rw [e0]; exact Ar8.1) (State.isArrayOf_alike hZ.alike Ar8.2.1) Ar8.2.2 hin8 hat8 (g := (mkF m 156 #[.val (.ref a0), .val (.int nn), .val (.int (h1_ ^^^ ((y6 &&& (255 : Int32)) <<< ((16 : Int32) &&& 31)))), .val (.int (4 : Int32)), .val (.int (nn - (4 : Int32))), .val (.int (((k1_ * (1540483477 : Int32)) ^^^ (((k1_ * (1540483477 : Int32)).toUInt32 >>> ((24 : Int32) &&& 31).toUInt32).toInt32)) * (1540483477 : Int32)))] [(.int ((4 : Int32) + (1 : Int32))), (.ref a0), (.int (h1_ ^^^ ((y6 &&& (255 : Int32)) <<< ((16 : Int32) &&& 31))))])) rfl rfl (hb hby d3_156) _ ?_
            show Steps p.tables e below (s₁.setTop (mkF m 157 #[.val (.ref a0), .val (.int nn), .val (.int (h1_ ^^^ ((y6 &&& (255 : Int32)) <<< ((16 : Int32) &&& 31)))), .val (.int (4 : Int32)), .val (.int (nn - (4 : Int32))), .val (.int (((k1_ * (1540483477 : Int32)) ^^^ (((k1_ * (1540483477 : Int32)).toUInt32 >>> ((24 : Int32) &&& 31).toUInt32).toInt32)) * (1540483477 : Int32)))] [(.int y5), (.int (h1_ ^^^ ((y6 &&& (255 : Int32)) <<< ((16 : Int32) &&& 31))))])) _
            refine XS.sipush X0.here hx rfl (hb hby d3_157) ?_
            show Steps p.tables e below (s₁.setTop (mkF m 160 #[.val (.ref a0), .val (.int nn), .val (.int (h1_ ^^^ ((y6 &&& (255 : Int32)) <<< ((16 : Int32) &&& 31)))), .val (.int (4 : Int32)), .val (.int (nn - (4 : Int32))), .val (.int (((k1_ * (1540483477 : Int32)) ^^^ (((k1_ * (1540483477 : Int32)).toUInt32 >>> ((24 : Int32) &&& 31).toUInt32).toInt32)) * (1540483477 : Int32)))] [(.int (255 : Int32)), (.int y5), (.int (h1_ ^^^ ((y6 &&& (255 : Int32)) <<< ((16 : Int32) &&& 31))))])) _
            refine XS.iand X0.here hx rfl (hb hby d3_160) rfl ?_
            show Steps p.tables e below (s₁.setTop (mkF m 161 #[.val (.ref a0), .val (.int nn), .val (.int (h1_ ^^^ ((y6 &&& (255 : Int32)) <<< ((16 : Int32) &&& 31)))), .val (.int (4 : Int32)), .val (.int (nn - (4 : Int32))), .val (.int (((k1_ * (1540483477 : Int32)) ^^^ (((k1_ * (1540483477 : Int32)).toUInt32 >>> ((24 : Int32) &&& 31).toUInt32).toInt32)) * (1540483477 : Int32)))] [(.int (y5 &&& (255 : Int32))), (.int (h1_ ^^^ ((y6 &&& (255 : Int32)) <<< ((16 : Int32) &&& 31))))])) _
            refine XS.bipush X0.here hx rfl (hb hby d3_161) ?_
            show Steps p.tables e below (s₁.setTop (mkF m 163 #[.val (.ref a0), .val (.int nn), .val (.int (h1_ ^^^ ((y6 &&& (255 : Int32)) <<< ((16 : Int32) &&& 31)))), .val (.int (4 : Int32)), .val (.int (nn - (4 : Int32))), .val (.int (((k1_ * (1540483477 : Int32)) ^^^ (((k1_ * (1540483477 : Int32)).toUInt32 >>> ((24 : Int32) &&& 31).toUInt32).toInt32)) * (1540483477 : Int32)))] [(.int (8 : Int32)), (.int (y5 &&& (255 : Int32))), (.int (h1_ ^^^ ((y6 &&& (255 : Int32)) <<< ((16 : Int32) &&& 31))))])) _
            refine XS.ishl X0.here hx rfl (hb hby d3_163) rfl ?_
            show Steps p.tables e below (s₁.setTop (mkF m 164 #[.val (.ref a0), .val (.int nn), .val (.int (h1_ ^^^ ((y6 &&& (255 : Int32)) <<< ((16 : Int32) &&& 31)))), .val (.int (4 : Int32)), .val (.int (nn - (4 : Int32))), .val (.int (((k1_ * (1540483477 : Int32)) ^^^ (((k1_ * (1540483477 : Int32)).toUInt32 >>> ((24 : Int32) &&& 31).toUInt32).toInt32)) * (1540483477 : Int32)))] [(.int ((y5 &&& (255 : Int32)) <<< ((8 : Int32) &&& 31))), (.int (h1_ ^^^ ((y6 &&& (255 : Int32)) <<< ((16 : Int32) &&& 31))))])) _
            refine XS.ixor X0.here hx rfl (hb hby d3_164) rfl ?_
            show Steps p.tables e below (s₁.setTop (mkF m 165 #[.val (.ref a0), .val (.int nn), .val (.int (h1_ ^^^ ((y6 &&& (255 : Int32)) <<< ((16 : Int32) &&& 31)))), .val (.int (4 : Int32)), .val (.int (nn - (4 : Int32))), .val (.int (((k1_ * (1540483477 : Int32)) ^^^ (((k1_ * (1540483477 : Int32)).toUInt32 >>> ((24 : Int32) &&& 31).toUInt32).toInt32)) * (1540483477 : Int32)))] [(.int ((h1_ ^^^ ((y6 &&& (255 : Int32)) <<< ((16 : Int32) &&& 31))) ^^^ ((y5 &&& (255 : Int32)) <<< ((8 : Int32) &&& 31))))])) _
            refine XS.istoreN X0.here hx rfl (hb hby d3_165) rfl (l' := #[.val (.ref a0), .val (.int nn), .val (.int ((h1_ ^^^ ((y6 &&& (255 : Int32)) <<< ((16 : Int32) &&& 31))) ^^^ ((y5 &&& (255 : Int32)) <<< ((8 : Int32) &&& 31)))), .val (.int (4 : Int32)), .val (.int (nn - (4 : Int32))), .val (.int (((k1_ * (1540483477 : Int32)) ^^^ (((k1_ * (1540483477 : Int32)).toUInt32 >>> ((24 : Int32) &&& 31).toUInt32).toInt32)) * (1540483477 : Int32)))]) rfl ?_
            show Steps p.tables e below (s₁.setTop (mkF m 166 #[.val (.ref a0), .val (.int nn), .val (.int ((h1_ ^^^ ((y6 &&& (255 : Int32)) <<< ((16 : Int32) &&& 31))) ^^^ ((y5 &&& (255 : Int32)) <<< ((8 : Int32) &&& 31)))), .val (.int (4 : Int32)), .val (.int (nn - (4 : Int32))), .val (.int (((k1_ * (1540483477 : Int32)) ^^^ (((k1_ * (1540483477 : Int32)).toUInt32 >>> ((24 : Int32) &&& 31).toUInt32).toInt32)) * (1540483477 : Int32)))] [])) _
            refine XS.iloadN X0.here hx rfl (hb hby d3_166) rfl ?_
            show Steps p.tables e below (s₁.setTop (mkF m 167 #[.val (.ref a0), .val (.int nn), .val (.int ((h1_ ^^^ ((y6 &&& (255 : Int32)) <<< ((16 : Int32) &&& 31))) ^^^ ((y5 &&& (255 : Int32)) <<< ((8 : Int32) &&& 31)))), .val (.int (4 : Int32)), .val (.int (nn - (4 : Int32))), .val (.int (((k1_ * (1540483477 : Int32)) ^^^ (((k1_ * (1540483477 : Int32)).toUInt32 >>> ((24 : Int32) &&& 31).toUInt32).toInt32)) * (1540483477 : Int32)))] [(.int ((h1_ ^^^ ((y6 &&& (255 : Int32)) <<< ((16 : Int32) &&& 31))) ^^^ ((y5 &&& (255 : Int32)) <<< ((8 : Int32) &&& 31))))])) _
            refine XS.aloadN X0.here hx rfl (hb hby d3_167) rfl rfl ?_
            show Steps p.tables e below (s₁.setTop (mkF m 168 #[.val (.ref a0), .val (.int nn), .val (.int ((h1_ ^^^ ((y6 &&& (255 : Int32)) <<< ((16 : Int32) &&& 31))) ^^^ ((y5 &&& (255 : Int32)) <<< ((8 : Int32) &&& 31)))), .val (.int (4 : Int32)), .val (.int (nn - (4 : Int32))), .val (.int (((k1_ * (1540483477 : Int32)) ^^^ (((k1_ * (1540483477 : Int32)).toUInt32 >>> ((24 : Int32) &&& 31).toUInt32).toInt32)) * (1540483477 : Int32)))] [(.ref a0), (.int ((h1_ ^^^ ((y6 &&& (255 : Int32)) <<< ((16 : Int32) &&& 31))) ^^^ ((y5 &&& (255 : Int32)) <<< ((8 : Int32) &&& 31))))])) _
            refine XS.iloadN X0.here hx rfl (hb hby d3_168) rfl ?_
            obtain ⟨cl9, Ar9, -, SS9, MM9, HH9, -⟩ := id V_a0
            have hin9 := inb_of SS9 (own_in (i := (4 : Int32)) (k := 4) (by decide) (by decide) (own_g0 (by decide : (4 : Int32).toInt = 4) hn hc121))
            have hat9 : cl9.slots[((4 : Int32)).toNatClampNeg]? = some (.int y4) := HH9.at hin9 (yat4 (own_g0 (by decide : (4 : Int32).toInt = 4) hn hc121))
            show Steps p.tables e below (s₁.setTop (mkF m 169 #[.val (.ref a0), .val (.int nn), .val (.int ((h1_ ^^^ ((y6 &&& (255 : Int32)) <<< ((16 : Int32) &&& 31))) ^^^ ((y5 &&& (255 : Int32)) <<< ((8 : Int32) &&& 31)))), .val (.int (4 : Int32)), .val (.int (nn - (4 : Int32))), .val (.int (((k1_ * (1540483477 : Int32)) ^^^ (((k1_ * (1540483477 : Int32)).toUInt32 >>> ((24 : Int32) &&& 31).toUInt32).toInt32)) * (1540483477 : Int32)))] [(.int (4 : Int32)), (.ref a0), (.int ((h1_ ^^^ ((y6 &&& (255 : Int32)) <<< ((16 : Int32) &&& 31))) ^^^ ((y5 &&& (255 : Int32)) <<< ((8 : Int32) &&& 31))))])) _
            refine X0.baloadBytes hx (j := (4 : Int32)) (v := (.int y4)) (by rw [e0]; exact Ar9.1) (State.isArrayOf_alike hZ.alike Ar9.2.1) Ar9.2.2 hin9 hat9 (g := (mkF m 169 #[.val (.ref a0), .val (.int nn), .val (.int ((h1_ ^^^ ((y6 &&& (255 : Int32)) <<< ((16 : Int32) &&& 31))) ^^^ ((y5 &&& (255 : Int32)) <<< ((8 : Int32) &&& 31)))), .val (.int (4 : Int32)), .val (.int (nn - (4 : Int32))), .val (.int (((k1_ * (1540483477 : Int32)) ^^^ (((k1_ * (1540483477 : Int32)).toUInt32 >>> ((24 : Int32) &&& 31).toUInt32).toInt32)) * (1540483477 : Int32)))] [(.int (4 : Int32)), (.ref a0), (.int ((h1_ ^^^ ((y6 &&& (255 : Int32)) <<< ((16 : Int32) &&& 31))) ^^^ ((y5 &&& (255 : Int32)) <<< ((8 : Int32) &&& 31))))])) rfl rfl (hb hby d3_169) _ ?_
            show Steps p.tables e below (s₁.setTop (mkF m 170 #[.val (.ref a0), .val (.int nn), .val (.int ((h1_ ^^^ ((y6 &&& (255 : Int32)) <<< ((16 : Int32) &&& 31))) ^^^ ((y5 &&& (255 : Int32)) <<< ((8 : Int32) &&& 31)))), .val (.int (4 : Int32)), .val (.int (nn - (4 : Int32))), .val (.int (((k1_ * (1540483477 : Int32)) ^^^ (((k1_ * (1540483477 : Int32)).toUInt32 >>> ((24 : Int32) &&& 31).toUInt32).toInt32)) * (1540483477 : Int32)))] [(.int y4), (.int ((h1_ ^^^ ((y6 &&& (255 : Int32)) <<< ((16 : Int32) &&& 31))) ^^^ ((y5 &&& (255 : Int32)) <<< ((8 : Int32) &&& 31))))])) _
            refine XS.sipush X0.here hx rfl (hb hby d3_170) ?_
            show Steps p.tables e below (s₁.setTop (mkF m 173 #[.val (.ref a0), .val (.int nn), .val (.int ((h1_ ^^^ ((y6 &&& (255 : Int32)) <<< ((16 : Int32) &&& 31))) ^^^ ((y5 &&& (255 : Int32)) <<< ((8 : Int32) &&& 31)))), .val (.int (4 : Int32)), .val (.int (nn - (4 : Int32))), .val (.int (((k1_ * (1540483477 : Int32)) ^^^ (((k1_ * (1540483477 : Int32)).toUInt32 >>> ((24 : Int32) &&& 31).toUInt32).toInt32)) * (1540483477 : Int32)))] [(.int (255 : Int32)), (.int y4), (.int ((h1_ ^^^ ((y6 &&& (255 : Int32)) <<< ((16 : Int32) &&& 31))) ^^^ ((y5 &&& (255 : Int32)) <<< ((8 : Int32) &&& 31))))])) _
            refine XS.iand X0.here hx rfl (hb hby d3_173) rfl ?_
            show Steps p.tables e below (s₁.setTop (mkF m 174 #[.val (.ref a0), .val (.int nn), .val (.int ((h1_ ^^^ ((y6 &&& (255 : Int32)) <<< ((16 : Int32) &&& 31))) ^^^ ((y5 &&& (255 : Int32)) <<< ((8 : Int32) &&& 31)))), .val (.int (4 : Int32)), .val (.int (nn - (4 : Int32))), .val (.int (((k1_ * (1540483477 : Int32)) ^^^ (((k1_ * (1540483477 : Int32)).toUInt32 >>> ((24 : Int32) &&& 31).toUInt32).toInt32)) * (1540483477 : Int32)))] [(.int (y4 &&& (255 : Int32))), (.int ((h1_ ^^^ ((y6 &&& (255 : Int32)) <<< ((16 : Int32) &&& 31))) ^^^ ((y5 &&& (255 : Int32)) <<< ((8 : Int32) &&& 31))))])) _
            refine XS.ixor X0.here hx rfl (hb hby d3_174) rfl ?_
            show Steps p.tables e below (s₁.setTop (mkF m 175 #[.val (.ref a0), .val (.int nn), .val (.int ((h1_ ^^^ ((y6 &&& (255 : Int32)) <<< ((16 : Int32) &&& 31))) ^^^ ((y5 &&& (255 : Int32)) <<< ((8 : Int32) &&& 31)))), .val (.int (4 : Int32)), .val (.int (nn - (4 : Int32))), .val (.int (((k1_ * (1540483477 : Int32)) ^^^ (((k1_ * (1540483477 : Int32)).toUInt32 >>> ((24 : Int32) &&& 31).toUInt32).toInt32)) * (1540483477 : Int32)))] [(.int (((h1_ ^^^ ((y6 &&& (255 : Int32)) <<< ((16 : Int32) &&& 31))) ^^^ ((y5 &&& (255 : Int32)) <<< ((8 : Int32) &&& 31))) ^^^ (y4 &&& (255 : Int32))))])) _
            refine XS.istoreN X0.here hx rfl (hb hby d3_175) rfl (l' := #[.val (.ref a0), .val (.int nn), .val (.int (((h1_ ^^^ ((y6 &&& (255 : Int32)) <<< ((16 : Int32) &&& 31))) ^^^ ((y5 &&& (255 : Int32)) <<< ((8 : Int32) &&& 31))) ^^^ (y4 &&& (255 : Int32)))), .val (.int (4 : Int32)), .val (.int (nn - (4 : Int32))), .val (.int (((k1_ * (1540483477 : Int32)) ^^^ (((k1_ * (1540483477 : Int32)).toUInt32 >>> ((24 : Int32) &&& 31).toUInt32).toInt32)) * (1540483477 : Int32)))]) rfl ?_
            show Steps p.tables e below (s₁.setTop (mkF m 176 #[.val (.ref a0), .val (.int nn), .val (.int (((h1_ ^^^ ((y6 &&& (255 : Int32)) <<< ((16 : Int32) &&& 31))) ^^^ ((y5 &&& (255 : Int32)) <<< ((8 : Int32) &&& 31))) ^^^ (y4 &&& (255 : Int32)))), .val (.int (4 : Int32)), .val (.int (nn - (4 : Int32))), .val (.int (((k1_ * (1540483477 : Int32)) ^^^ (((k1_ * (1540483477 : Int32)).toUInt32 >>> ((24 : Int32) &&& 31).toUInt32).toInt32)) * (1540483477 : Int32)))] [])) _
            refine XS.iloadN X0.here hx rfl (hb hby d3_176) rfl ?_
            show Steps p.tables e below (s₁.setTop (mkF m 177 #[.val (.ref a0), .val (.int nn), .val (.int (((h1_ ^^^ ((y6 &&& (255 : Int32)) <<< ((16 : Int32) &&& 31))) ^^^ ((y5 &&& (255 : Int32)) <<< ((8 : Int32) &&& 31))) ^^^ (y4 &&& (255 : Int32)))), .val (.int (4 : Int32)), .val (.int (nn - (4 : Int32))), .val (.int (((k1_ * (1540483477 : Int32)) ^^^ (((k1_ * (1540483477 : Int32)).toUInt32 >>> ((24 : Int32) &&& 31).toUInt32).toInt32)) * (1540483477 : Int32)))] [(.int (((h1_ ^^^ ((y6 &&& (255 : Int32)) <<< ((16 : Int32) &&& 31))) ^^^ ((y5 &&& (255 : Int32)) <<< ((8 : Int32) &&& 31))) ^^^ (y4 &&& (255 : Int32))))])) _
            refine X0.ldcInt hx hown (mvT hZ (hw _ (List.mem_of_getElem? (i := 13) rfl))) (g := (mkF m 177 #[.val (.ref a0), .val (.int nn), .val (.int (((h1_ ^^^ ((y6 &&& (255 : Int32)) <<< ((16 : Int32) &&& 31))) ^^^ ((y5 &&& (255 : Int32)) <<< ((8 : Int32) &&& 31))) ^^^ (y4 &&& (255 : Int32)))), .val (.int (4 : Int32)), .val (.int (nn - (4 : Int32))), .val (.int (((k1_ * (1540483477 : Int32)) ^^^ (((k1_ * (1540483477 : Int32)).toUInt32 >>> ((24 : Int32) &&& 31).toUInt32).toInt32)) * (1540483477 : Int32)))] [(.int (((h1_ ^^^ ((y6 &&& (255 : Int32)) <<< ((16 : Int32) &&& 31))) ^^^ ((y5 &&& (255 : Int32)) <<< ((8 : Int32) &&& 31))) ^^^ (y4 &&& (255 : Int32))))])) rfl (hb hby d3_177) _ ?_
            show Steps p.tables e below (s₁.setTop (mkF m 179 #[.val (.ref a0), .val (.int nn), .val (.int (((h1_ ^^^ ((y6 &&& (255 : Int32)) <<< ((16 : Int32) &&& 31))) ^^^ ((y5 &&& (255 : Int32)) <<< ((8 : Int32) &&& 31))) ^^^ (y4 &&& (255 : Int32)))), .val (.int (4 : Int32)), .val (.int (nn - (4 : Int32))), .val (.int (((k1_ * (1540483477 : Int32)) ^^^ (((k1_ * (1540483477 : Int32)).toUInt32 >>> ((24 : Int32) &&& 31).toUInt32).toInt32)) * (1540483477 : Int32)))] [(.int (1540483477 : Int32)), (.int (((h1_ ^^^ ((y6 &&& (255 : Int32)) <<< ((16 : Int32) &&& 31))) ^^^ ((y5 &&& (255 : Int32)) <<< ((8 : Int32) &&& 31))) ^^^ (y4 &&& (255 : Int32))))])) _
            refine XS.imul X0.here hx rfl (hb hby d3_179) rfl ?_
            show Steps p.tables e below (s₁.setTop (mkF m 180 #[.val (.ref a0), .val (.int nn), .val (.int (((h1_ ^^^ ((y6 &&& (255 : Int32)) <<< ((16 : Int32) &&& 31))) ^^^ ((y5 &&& (255 : Int32)) <<< ((8 : Int32) &&& 31))) ^^^ (y4 &&& (255 : Int32)))), .val (.int (4 : Int32)), .val (.int (nn - (4 : Int32))), .val (.int (((k1_ * (1540483477 : Int32)) ^^^ (((k1_ * (1540483477 : Int32)).toUInt32 >>> ((24 : Int32) &&& 31).toUInt32).toInt32)) * (1540483477 : Int32)))] [(.int ((((h1_ ^^^ ((y6 &&& (255 : Int32)) <<< ((16 : Int32) &&& 31))) ^^^ ((y5 &&& (255 : Int32)) <<< ((8 : Int32) &&& 31))) ^^^ (y4 &&& (255 : Int32))) * (1540483477 : Int32)))])) _
            refine XS.istoreN X0.here hx rfl (hb hby d3_180) rfl (l' := #[.val (.ref a0), .val (.int nn), .val (.int ((((h1_ ^^^ ((y6 &&& (255 : Int32)) <<< ((16 : Int32) &&& 31))) ^^^ ((y5 &&& (255 : Int32)) <<< ((8 : Int32) &&& 31))) ^^^ (y4 &&& (255 : Int32))) * (1540483477 : Int32))), .val (.int (4 : Int32)), .val (.int (nn - (4 : Int32))), .val (.int (((k1_ * (1540483477 : Int32)) ^^^ (((k1_ * (1540483477 : Int32)).toUInt32 >>> ((24 : Int32) &&& 31).toUInt32).toInt32)) * (1540483477 : Int32)))]) rfl ?_
            try simp only [if_pos hc121, if_pos hc127, if_neg hc148] at k
            exact k
        · show Steps p.tables e below (s₁.setTop (mkF m 127 #[.val (.ref a0), .val (.int nn), .val (.int h1_), .val (.int (4 : Int32)), .val (.int (nn - (4 : Int32))), .val (.int (((k1_ * (1540483477 : Int32)) ^^^ (((k1_ * (1540483477 : Int32)).toUInt32 >>> ((24 : Int32) &&& 31).toUInt32).toInt32)) * (1540483477 : Int32)))] [(.int (nn - (4 : Int32))), (.int (3 : Int32))])) _
          refine XS.icmpYes X0.here hx rfl (pc0 := 127) (pc' := 145) rfl (hb hby d3_127) rfl (feq hc127).2 (by decide) (by decide) ?_
          show Steps p.tables e below (s₁.setTop (mkF m 145 #[.val (.ref a0), .val (.int nn), .val (.int h1_), .val (.int (4 : Int32)), .val (.int (nn - (4 : Int32))), .val (.int (((k1_ * (1540483477 : Int32)) ^^^ (((k1_ * (1540483477 : Int32)).toUInt32 >>> ((24 : Int32) &&& 31).toUInt32).toInt32)) * (1540483477 : Int32)))] [])) _
          refine XS.iload X0.here hx rfl (hb hby d3_145) rfl ?_
          show Steps p.tables e below (s₁.setTop (mkF m 147 #[.val (.ref a0), .val (.int nn), .val (.int h1_), .val (.int (4 : Int32)), .val (.int (nn - (4 : Int32))), .val (.int (((k1_ * (1540483477 : Int32)) ^^^ (((k1_ * (1540483477 : Int32)).toUInt32 >>> ((24 : Int32) &&& 31).toUInt32).toInt32)) * (1540483477 : Int32)))] [(.int (nn - (4 : Int32)))])) _
          refine XS.iconst X0.here hx rfl (hb hby d3_147) ?_
          by_cases hc148 : (nn - (4 : Int32)) < (2 : Int32)
          · show Steps p.tables e below (s₁.setTop (mkF m 148 #[.val (.ref a0), .val (.int nn), .val (.int h1_), .val (.int (4 : Int32)), .val (.int (nn - (4 : Int32))), .val (.int (((k1_ * (1540483477 : Int32)) ^^^ (((k1_ * (1540483477 : Int32)).toUInt32 >>> ((24 : Int32) &&& 31).toUInt32).toInt32)) * (1540483477 : Int32)))] [(.int (2 : Int32)), (.int (nn - (4 : Int32)))])) _
            refine XS.icmpYes X0.here hx rfl (pc0 := 148) (pc' := 166) rfl (hb hby d3_148) rfl (tlt hc148).1 (by decide) (by decide) ?_
            show Steps p.tables e below (s₁.setTop (mkF m 166 #[.val (.ref a0), .val (.int nn), .val (.int h1_), .val (.int (4 : Int32)), .val (.int (nn - (4 : Int32))), .val (.int (((k1_ * (1540483477 : Int32)) ^^^ (((k1_ * (1540483477 : Int32)).toUInt32 >>> ((24 : Int32) &&& 31).toUInt32).toInt32)) * (1540483477 : Int32)))] [])) _
            refine XS.iloadN X0.here hx rfl (hb hby d3_166) rfl ?_
            show Steps p.tables e below (s₁.setTop (mkF m 167 #[.val (.ref a0), .val (.int nn), .val (.int h1_), .val (.int (4 : Int32)), .val (.int (nn - (4 : Int32))), .val (.int (((k1_ * (1540483477 : Int32)) ^^^ (((k1_ * (1540483477 : Int32)).toUInt32 >>> ((24 : Int32) &&& 31).toUInt32).toInt32)) * (1540483477 : Int32)))] [(.int h1_)])) _
            refine XS.aloadN X0.here hx rfl (hb hby d3_167) rfl rfl ?_
            show Steps p.tables e below (s₁.setTop (mkF m 168 #[.val (.ref a0), .val (.int nn), .val (.int h1_), .val (.int (4 : Int32)), .val (.int (nn - (4 : Int32))), .val (.int (((k1_ * (1540483477 : Int32)) ^^^ (((k1_ * (1540483477 : Int32)).toUInt32 >>> ((24 : Int32) &&& 31).toUInt32).toInt32)) * (1540483477 : Int32)))] [(.ref a0), (.int h1_)])) _
            refine XS.iloadN X0.here hx rfl (hb hby d3_168) rfl ?_
            obtain ⟨cl10, Ar10, -, SS10, MM10, HH10, -⟩ := id V_a0
            have hin10 := inb_of SS10 (own_in (i := (4 : Int32)) (k := 4) (by decide) (by decide) (own_g0 (by decide : (4 : Int32).toInt = 4) hn hc121))
            have hat10 : cl10.slots[((4 : Int32)).toNatClampNeg]? = some (.int y4) := HH10.at hin10 (yat4 (own_g0 (by decide : (4 : Int32).toInt = 4) hn hc121))
            show Steps p.tables e below (s₁.setTop (mkF m 169 #[.val (.ref a0), .val (.int nn), .val (.int h1_), .val (.int (4 : Int32)), .val (.int (nn - (4 : Int32))), .val (.int (((k1_ * (1540483477 : Int32)) ^^^ (((k1_ * (1540483477 : Int32)).toUInt32 >>> ((24 : Int32) &&& 31).toUInt32).toInt32)) * (1540483477 : Int32)))] [(.int (4 : Int32)), (.ref a0), (.int h1_)])) _
            refine X0.baloadBytes hx (j := (4 : Int32)) (v := (.int y4)) (by rw [e0]; exact Ar10.1) (State.isArrayOf_alike hZ.alike Ar10.2.1) Ar10.2.2 hin10 hat10 (g := (mkF m 169 #[.val (.ref a0), .val (.int nn), .val (.int h1_), .val (.int (4 : Int32)), .val (.int (nn - (4 : Int32))), .val (.int (((k1_ * (1540483477 : Int32)) ^^^ (((k1_ * (1540483477 : Int32)).toUInt32 >>> ((24 : Int32) &&& 31).toUInt32).toInt32)) * (1540483477 : Int32)))] [(.int (4 : Int32)), (.ref a0), (.int h1_)])) rfl rfl (hb hby d3_169) _ ?_
            show Steps p.tables e below (s₁.setTop (mkF m 170 #[.val (.ref a0), .val (.int nn), .val (.int h1_), .val (.int (4 : Int32)), .val (.int (nn - (4 : Int32))), .val (.int (((k1_ * (1540483477 : Int32)) ^^^ (((k1_ * (1540483477 : Int32)).toUInt32 >>> ((24 : Int32) &&& 31).toUInt32).toInt32)) * (1540483477 : Int32)))] [(.int y4), (.int h1_)])) _
            refine XS.sipush X0.here hx rfl (hb hby d3_170) ?_
            show Steps p.tables e below (s₁.setTop (mkF m 173 #[.val (.ref a0), .val (.int nn), .val (.int h1_), .val (.int (4 : Int32)), .val (.int (nn - (4 : Int32))), .val (.int (((k1_ * (1540483477 : Int32)) ^^^ (((k1_ * (1540483477 : Int32)).toUInt32 >>> ((24 : Int32) &&& 31).toUInt32).toInt32)) * (1540483477 : Int32)))] [(.int (255 : Int32)), (.int y4), (.int h1_)])) _
            refine XS.iand X0.here hx rfl (hb hby d3_173) rfl ?_
            show Steps p.tables e below (s₁.setTop (mkF m 174 #[.val (.ref a0), .val (.int nn), .val (.int h1_), .val (.int (4 : Int32)), .val (.int (nn - (4 : Int32))), .val (.int (((k1_ * (1540483477 : Int32)) ^^^ (((k1_ * (1540483477 : Int32)).toUInt32 >>> ((24 : Int32) &&& 31).toUInt32).toInt32)) * (1540483477 : Int32)))] [(.int (y4 &&& (255 : Int32))), (.int h1_)])) _
            refine XS.ixor X0.here hx rfl (hb hby d3_174) rfl ?_
            show Steps p.tables e below (s₁.setTop (mkF m 175 #[.val (.ref a0), .val (.int nn), .val (.int h1_), .val (.int (4 : Int32)), .val (.int (nn - (4 : Int32))), .val (.int (((k1_ * (1540483477 : Int32)) ^^^ (((k1_ * (1540483477 : Int32)).toUInt32 >>> ((24 : Int32) &&& 31).toUInt32).toInt32)) * (1540483477 : Int32)))] [(.int (h1_ ^^^ (y4 &&& (255 : Int32))))])) _
            refine XS.istoreN X0.here hx rfl (hb hby d3_175) rfl (l' := #[.val (.ref a0), .val (.int nn), .val (.int (h1_ ^^^ (y4 &&& (255 : Int32)))), .val (.int (4 : Int32)), .val (.int (nn - (4 : Int32))), .val (.int (((k1_ * (1540483477 : Int32)) ^^^ (((k1_ * (1540483477 : Int32)).toUInt32 >>> ((24 : Int32) &&& 31).toUInt32).toInt32)) * (1540483477 : Int32)))]) rfl ?_
            show Steps p.tables e below (s₁.setTop (mkF m 176 #[.val (.ref a0), .val (.int nn), .val (.int (h1_ ^^^ (y4 &&& (255 : Int32)))), .val (.int (4 : Int32)), .val (.int (nn - (4 : Int32))), .val (.int (((k1_ * (1540483477 : Int32)) ^^^ (((k1_ * (1540483477 : Int32)).toUInt32 >>> ((24 : Int32) &&& 31).toUInt32).toInt32)) * (1540483477 : Int32)))] [])) _
            refine XS.iloadN X0.here hx rfl (hb hby d3_176) rfl ?_
            show Steps p.tables e below (s₁.setTop (mkF m 177 #[.val (.ref a0), .val (.int nn), .val (.int (h1_ ^^^ (y4 &&& (255 : Int32)))), .val (.int (4 : Int32)), .val (.int (nn - (4 : Int32))), .val (.int (((k1_ * (1540483477 : Int32)) ^^^ (((k1_ * (1540483477 : Int32)).toUInt32 >>> ((24 : Int32) &&& 31).toUInt32).toInt32)) * (1540483477 : Int32)))] [(.int (h1_ ^^^ (y4 &&& (255 : Int32))))])) _
            refine X0.ldcInt hx hown (mvT hZ (hw _ (List.mem_of_getElem? (i := 13) rfl))) (g := (mkF m 177 #[.val (.ref a0), .val (.int nn), .val (.int (h1_ ^^^ (y4 &&& (255 : Int32)))), .val (.int (4 : Int32)), .val (.int (nn - (4 : Int32))), .val (.int (((k1_ * (1540483477 : Int32)) ^^^ (((k1_ * (1540483477 : Int32)).toUInt32 >>> ((24 : Int32) &&& 31).toUInt32).toInt32)) * (1540483477 : Int32)))] [(.int (h1_ ^^^ (y4 &&& (255 : Int32))))])) rfl (hb hby d3_177) _ ?_
            show Steps p.tables e below (s₁.setTop (mkF m 179 #[.val (.ref a0), .val (.int nn), .val (.int (h1_ ^^^ (y4 &&& (255 : Int32)))), .val (.int (4 : Int32)), .val (.int (nn - (4 : Int32))), .val (.int (((k1_ * (1540483477 : Int32)) ^^^ (((k1_ * (1540483477 : Int32)).toUInt32 >>> ((24 : Int32) &&& 31).toUInt32).toInt32)) * (1540483477 : Int32)))] [(.int (1540483477 : Int32)), (.int (h1_ ^^^ (y4 &&& (255 : Int32))))])) _
            refine XS.imul X0.here hx rfl (hb hby d3_179) rfl ?_
            show Steps p.tables e below (s₁.setTop (mkF m 180 #[.val (.ref a0), .val (.int nn), .val (.int (h1_ ^^^ (y4 &&& (255 : Int32)))), .val (.int (4 : Int32)), .val (.int (nn - (4 : Int32))), .val (.int (((k1_ * (1540483477 : Int32)) ^^^ (((k1_ * (1540483477 : Int32)).toUInt32 >>> ((24 : Int32) &&& 31).toUInt32).toInt32)) * (1540483477 : Int32)))] [(.int ((h1_ ^^^ (y4 &&& (255 : Int32))) * (1540483477 : Int32)))])) _
            refine XS.istoreN X0.here hx rfl (hb hby d3_180) rfl (l' := #[.val (.ref a0), .val (.int nn), .val (.int ((h1_ ^^^ (y4 &&& (255 : Int32))) * (1540483477 : Int32))), .val (.int (4 : Int32)), .val (.int (nn - (4 : Int32))), .val (.int (((k1_ * (1540483477 : Int32)) ^^^ (((k1_ * (1540483477 : Int32)).toUInt32 >>> ((24 : Int32) &&& 31).toUInt32).toInt32)) * (1540483477 : Int32)))]) rfl ?_
            try simp only [if_pos hc121, if_neg hc127, if_pos hc148] at k
            exact k
          · show Steps p.tables e below (s₁.setTop (mkF m 148 #[.val (.ref a0), .val (.int nn), .val (.int h1_), .val (.int (4 : Int32)), .val (.int (nn - (4 : Int32))), .val (.int (((k1_ * (1540483477 : Int32)) ^^^ (((k1_ * (1540483477 : Int32)).toUInt32 >>> ((24 : Int32) &&& 31).toUInt32).toInt32)) * (1540483477 : Int32)))] [(.int (2 : Int32)), (.int (nn - (4 : Int32)))])) _
            refine XS.icmpNo X0.here hx rfl (hb hby d3_148) rfl (flt hc148).1 ?_
            show Steps p.tables e below (s₁.setTop (mkF m 151 #[.val (.ref a0), .val (.int nn), .val (.int h1_), .val (.int (4 : Int32)), .val (.int (nn - (4 : Int32))), .val (.int (((k1_ * (1540483477 : Int32)) ^^^ (((k1_ * (1540483477 : Int32)).toUInt32 >>> ((24 : Int32) &&& 31).toUInt32).toInt32)) * (1540483477 : Int32)))] [])) _
            refine XS.iloadN X0.here hx rfl (hb hby d3_151) rfl ?_
            show Steps p.tables e below (s₁.setTop (mkF m 152 #[.val (.ref a0), .val (.int nn), .val (.int h1_), .val (.int (4 : Int32)), .val (.int (nn - (4 : Int32))), .val (.int (((k1_ * (1540483477 : Int32)) ^^^ (((k1_ * (1540483477 : Int32)).toUInt32 >>> ((24 : Int32) &&& 31).toUInt32).toInt32)) * (1540483477 : Int32)))] [(.int h1_)])) _
            refine XS.aloadN X0.here hx rfl (hb hby d3_152) rfl rfl ?_
            show Steps p.tables e below (s₁.setTop (mkF m 153 #[.val (.ref a0), .val (.int nn), .val (.int h1_), .val (.int (4 : Int32)), .val (.int (nn - (4 : Int32))), .val (.int (((k1_ * (1540483477 : Int32)) ^^^ (((k1_ * (1540483477 : Int32)).toUInt32 >>> ((24 : Int32) &&& 31).toUInt32).toInt32)) * (1540483477 : Int32)))] [(.ref a0), (.int h1_)])) _
            refine XS.iloadN X0.here hx rfl (hb hby d3_153) rfl ?_
            show Steps p.tables e below (s₁.setTop (mkF m 154 #[.val (.ref a0), .val (.int nn), .val (.int h1_), .val (.int (4 : Int32)), .val (.int (nn - (4 : Int32))), .val (.int (((k1_ * (1540483477 : Int32)) ^^^ (((k1_ * (1540483477 : Int32)).toUInt32 >>> ((24 : Int32) &&& 31).toUInt32).toInt32)) * (1540483477 : Int32)))] [(.int (4 : Int32)), (.ref a0), (.int h1_)])) _
            refine XS.iconst X0.here hx rfl (hb hby d3_154) ?_
            show Steps p.tables e below (s₁.setTop (mkF m 155 #[.val (.ref a0), .val (.int nn), .val (.int h1_), .val (.int (4 : Int32)), .val (.int (nn - (4 : Int32))), .val (.int (((k1_ * (1540483477 : Int32)) ^^^ (((k1_ * (1540483477 : Int32)).toUInt32 >>> ((24 : Int32) &&& 31).toUInt32).toInt32)) * (1540483477 : Int32)))] [(.int (1 : Int32)), (.int (4 : Int32)), (.ref a0), (.int h1_)])) _
            refine XS.iadd X0.here hx rfl (hb hby d3_155) rfl ?_
            obtain ⟨cl11, Ar11, -, SS11, MM11, HH11, -⟩ := id V_a0
            have hin11 := inb_of SS11 (own_in (i := ((4 : Int32) + (1 : Int32))) (k := 5) (by decide) (by decide) (own_g1 (by decide : (4 : Int32).toInt = 4) hn hc148))
            have hat11 : cl11.slots[(((4 : Int32) + (1 : Int32))).toNatClampNeg]? = some (.int y5) := HH11.at hin11 (yat5 (own_g1 (by decide : (4 : Int32).toInt = 4) hn hc148))
            show Steps p.tables e below (s₁.setTop (mkF m 156 #[.val (.ref a0), .val (.int nn), .val (.int h1_), .val (.int (4 : Int32)), .val (.int (nn - (4 : Int32))), .val (.int (((k1_ * (1540483477 : Int32)) ^^^ (((k1_ * (1540483477 : Int32)).toUInt32 >>> ((24 : Int32) &&& 31).toUInt32).toInt32)) * (1540483477 : Int32)))] [(.int ((4 : Int32) + (1 : Int32))), (.ref a0), (.int h1_)])) _
            refine X0.baloadBytes hx (j := ((4 : Int32) + (1 : Int32))) (v := (.int y5)) (by rw [e0]; exact Ar11.1) (State.isArrayOf_alike hZ.alike Ar11.2.1) Ar11.2.2 hin11 hat11 (g := (mkF m 156 #[.val (.ref a0), .val (.int nn), .val (.int h1_), .val (.int (4 : Int32)), .val (.int (nn - (4 : Int32))), .val (.int (((k1_ * (1540483477 : Int32)) ^^^ (((k1_ * (1540483477 : Int32)).toUInt32 >>> ((24 : Int32) &&& 31).toUInt32).toInt32)) * (1540483477 : Int32)))] [(.int ((4 : Int32) + (1 : Int32))), (.ref a0), (.int h1_)])) rfl rfl (hb hby d3_156) _ ?_
            show Steps p.tables e below (s₁.setTop (mkF m 157 #[.val (.ref a0), .val (.int nn), .val (.int h1_), .val (.int (4 : Int32)), .val (.int (nn - (4 : Int32))), .val (.int (((k1_ * (1540483477 : Int32)) ^^^ (((k1_ * (1540483477 : Int32)).toUInt32 >>> ((24 : Int32) &&& 31).toUInt32).toInt32)) * (1540483477 : Int32)))] [(.int y5), (.int h1_)])) _
            refine XS.sipush X0.here hx rfl (hb hby d3_157) ?_
            show Steps p.tables e below (s₁.setTop (mkF m 160 #[.val (.ref a0), .val (.int nn), .val (.int h1_), .val (.int (4 : Int32)), .val (.int (nn - (4 : Int32))), .val (.int (((k1_ * (1540483477 : Int32)) ^^^ (((k1_ * (1540483477 : Int32)).toUInt32 >>> ((24 : Int32) &&& 31).toUInt32).toInt32)) * (1540483477 : Int32)))] [(.int (255 : Int32)), (.int y5), (.int h1_)])) _
            refine XS.iand X0.here hx rfl (hb hby d3_160) rfl ?_
            show Steps p.tables e below (s₁.setTop (mkF m 161 #[.val (.ref a0), .val (.int nn), .val (.int h1_), .val (.int (4 : Int32)), .val (.int (nn - (4 : Int32))), .val (.int (((k1_ * (1540483477 : Int32)) ^^^ (((k1_ * (1540483477 : Int32)).toUInt32 >>> ((24 : Int32) &&& 31).toUInt32).toInt32)) * (1540483477 : Int32)))] [(.int (y5 &&& (255 : Int32))), (.int h1_)])) _
            refine XS.bipush X0.here hx rfl (hb hby d3_161) ?_
            show Steps p.tables e below (s₁.setTop (mkF m 163 #[.val (.ref a0), .val (.int nn), .val (.int h1_), .val (.int (4 : Int32)), .val (.int (nn - (4 : Int32))), .val (.int (((k1_ * (1540483477 : Int32)) ^^^ (((k1_ * (1540483477 : Int32)).toUInt32 >>> ((24 : Int32) &&& 31).toUInt32).toInt32)) * (1540483477 : Int32)))] [(.int (8 : Int32)), (.int (y5 &&& (255 : Int32))), (.int h1_)])) _
            refine XS.ishl X0.here hx rfl (hb hby d3_163) rfl ?_
            show Steps p.tables e below (s₁.setTop (mkF m 164 #[.val (.ref a0), .val (.int nn), .val (.int h1_), .val (.int (4 : Int32)), .val (.int (nn - (4 : Int32))), .val (.int (((k1_ * (1540483477 : Int32)) ^^^ (((k1_ * (1540483477 : Int32)).toUInt32 >>> ((24 : Int32) &&& 31).toUInt32).toInt32)) * (1540483477 : Int32)))] [(.int ((y5 &&& (255 : Int32)) <<< ((8 : Int32) &&& 31))), (.int h1_)])) _
            refine XS.ixor X0.here hx rfl (hb hby d3_164) rfl ?_
            show Steps p.tables e below (s₁.setTop (mkF m 165 #[.val (.ref a0), .val (.int nn), .val (.int h1_), .val (.int (4 : Int32)), .val (.int (nn - (4 : Int32))), .val (.int (((k1_ * (1540483477 : Int32)) ^^^ (((k1_ * (1540483477 : Int32)).toUInt32 >>> ((24 : Int32) &&& 31).toUInt32).toInt32)) * (1540483477 : Int32)))] [(.int (h1_ ^^^ ((y5 &&& (255 : Int32)) <<< ((8 : Int32) &&& 31))))])) _
            refine XS.istoreN X0.here hx rfl (hb hby d3_165) rfl (l' := #[.val (.ref a0), .val (.int nn), .val (.int (h1_ ^^^ ((y5 &&& (255 : Int32)) <<< ((8 : Int32) &&& 31)))), .val (.int (4 : Int32)), .val (.int (nn - (4 : Int32))), .val (.int (((k1_ * (1540483477 : Int32)) ^^^ (((k1_ * (1540483477 : Int32)).toUInt32 >>> ((24 : Int32) &&& 31).toUInt32).toInt32)) * (1540483477 : Int32)))]) rfl ?_
            show Steps p.tables e below (s₁.setTop (mkF m 166 #[.val (.ref a0), .val (.int nn), .val (.int (h1_ ^^^ ((y5 &&& (255 : Int32)) <<< ((8 : Int32) &&& 31)))), .val (.int (4 : Int32)), .val (.int (nn - (4 : Int32))), .val (.int (((k1_ * (1540483477 : Int32)) ^^^ (((k1_ * (1540483477 : Int32)).toUInt32 >>> ((24 : Int32) &&& 31).toUInt32).toInt32)) * (1540483477 : Int32)))] [])) _
            refine XS.iloadN X0.here hx rfl (hb hby d3_166) rfl ?_
            show Steps p.tables e below (s₁.setTop (mkF m 167 #[.val (.ref a0), .val (.int nn), .val (.int (h1_ ^^^ ((y5 &&& (255 : Int32)) <<< ((8 : Int32) &&& 31)))), .val (.int (4 : Int32)), .val (.int (nn - (4 : Int32))), .val (.int (((k1_ * (1540483477 : Int32)) ^^^ (((k1_ * (1540483477 : Int32)).toUInt32 >>> ((24 : Int32) &&& 31).toUInt32).toInt32)) * (1540483477 : Int32)))] [(.int (h1_ ^^^ ((y5 &&& (255 : Int32)) <<< ((8 : Int32) &&& 31))))])) _
            refine XS.aloadN X0.here hx rfl (hb hby d3_167) rfl rfl ?_
            show Steps p.tables e below (s₁.setTop (mkF m 168 #[.val (.ref a0), .val (.int nn), .val (.int (h1_ ^^^ ((y5 &&& (255 : Int32)) <<< ((8 : Int32) &&& 31)))), .val (.int (4 : Int32)), .val (.int (nn - (4 : Int32))), .val (.int (((k1_ * (1540483477 : Int32)) ^^^ (((k1_ * (1540483477 : Int32)).toUInt32 >>> ((24 : Int32) &&& 31).toUInt32).toInt32)) * (1540483477 : Int32)))] [(.ref a0), (.int (h1_ ^^^ ((y5 &&& (255 : Int32)) <<< ((8 : Int32) &&& 31))))])) _
            refine XS.iloadN X0.here hx rfl (hb hby d3_168) rfl ?_
            obtain ⟨cl12, Ar12, -, SS12, MM12, HH12, -⟩ := id V_a0
            have hin12 := inb_of SS12 (own_in (i := (4 : Int32)) (k := 4) (by decide) (by decide) (own_g0 (by decide : (4 : Int32).toInt = 4) hn hc121))
            have hat12 : cl12.slots[((4 : Int32)).toNatClampNeg]? = some (.int y4) := HH12.at hin12 (yat4 (own_g0 (by decide : (4 : Int32).toInt = 4) hn hc121))
            show Steps p.tables e below (s₁.setTop (mkF m 169 #[.val (.ref a0), .val (.int nn), .val (.int (h1_ ^^^ ((y5 &&& (255 : Int32)) <<< ((8 : Int32) &&& 31)))), .val (.int (4 : Int32)), .val (.int (nn - (4 : Int32))), .val (.int (((k1_ * (1540483477 : Int32)) ^^^ (((k1_ * (1540483477 : Int32)).toUInt32 >>> ((24 : Int32) &&& 31).toUInt32).toInt32)) * (1540483477 : Int32)))] [(.int (4 : Int32)), (.ref a0), (.int (h1_ ^^^ ((y5 &&& (255 : Int32)) <<< ((8 : Int32) &&& 31))))])) _
            refine X0.baloadBytes hx (j := (4 : Int32)) (v := (.int y4)) (by rw [e0]; exact Ar12.1) (State.isArrayOf_alike hZ.alike Ar12.2.1) Ar12.2.2 hin12 hat12 (g := (mkF m 169 #[.val (.ref a0), .val (.int nn), .val (.int (h1_ ^^^ ((y5 &&& (255 : Int32)) <<< ((8 : Int32) &&& 31)))), .val (.int (4 : Int32)), .val (.int (nn - (4 : Int32))), .val (.int (((k1_ * (1540483477 : Int32)) ^^^ (((k1_ * (1540483477 : Int32)).toUInt32 >>> ((24 : Int32) &&& 31).toUInt32).toInt32)) * (1540483477 : Int32)))] [(.int (4 : Int32)), (.ref a0), (.int (h1_ ^^^ ((y5 &&& (255 : Int32)) <<< ((8 : Int32) &&& 31))))])) rfl rfl (hb hby d3_169) _ ?_
            show Steps p.tables e below (s₁.setTop (mkF m 170 #[.val (.ref a0), .val (.int nn), .val (.int (h1_ ^^^ ((y5 &&& (255 : Int32)) <<< ((8 : Int32) &&& 31)))), .val (.int (4 : Int32)), .val (.int (nn - (4 : Int32))), .val (.int (((k1_ * (1540483477 : Int32)) ^^^ (((k1_ * (1540483477 : Int32)).toUInt32 >>> ((24 : Int32) &&& 31).toUInt32).toInt32)) * (1540483477 : Int32)))] [(.int y4), (.int (h1_ ^^^ ((y5 &&& (255 : Int32)) <<< ((8 : Int32) &&& 31))))])) _
            refine XS.sipush X0.here hx rfl (hb hby d3_170) ?_
            show Steps p.tables e below (s₁.setTop (mkF m 173 #[.val (.ref a0), .val (.int nn), .val (.int (h1_ ^^^ ((y5 &&& (255 : Int32)) <<< ((8 : Int32) &&& 31)))), .val (.int (4 : Int32)), .val (.int (nn - (4 : Int32))), .val (.int (((k1_ * (1540483477 : Int32)) ^^^ (((k1_ * (1540483477 : Int32)).toUInt32 >>> ((24 : Int32) &&& 31).toUInt32).toInt32)) * (1540483477 : Int32)))] [(.int (255 : Int32)), (.int y4), (.int (h1_ ^^^ ((y5 &&& (255 : Int32)) <<< ((8 : Int32) &&& 31))))])) _
            refine XS.iand X0.here hx rfl (hb hby d3_173) rfl ?_
            show Steps p.tables e below (s₁.setTop (mkF m 174 #[.val (.ref a0), .val (.int nn), .val (.int (h1_ ^^^ ((y5 &&& (255 : Int32)) <<< ((8 : Int32) &&& 31)))), .val (.int (4 : Int32)), .val (.int (nn - (4 : Int32))), .val (.int (((k1_ * (1540483477 : Int32)) ^^^ (((k1_ * (1540483477 : Int32)).toUInt32 >>> ((24 : Int32) &&& 31).toUInt32).toInt32)) * (1540483477 : Int32)))] [(.int (y4 &&& (255 : Int32))), (.int (h1_ ^^^ ((y5 &&& (255 : Int32)) <<< ((8 : Int32) &&& 31))))])) _
            refine XS.ixor X0.here hx rfl (hb hby d3_174) rfl ?_
            show Steps p.tables e below (s₁.setTop (mkF m 175 #[.val (.ref a0), .val (.int nn), .val (.int (h1_ ^^^ ((y5 &&& (255 : Int32)) <<< ((8 : Int32) &&& 31)))), .val (.int (4 : Int32)), .val (.int (nn - (4 : Int32))), .val (.int (((k1_ * (1540483477 : Int32)) ^^^ (((k1_ * (1540483477 : Int32)).toUInt32 >>> ((24 : Int32) &&& 31).toUInt32).toInt32)) * (1540483477 : Int32)))] [(.int ((h1_ ^^^ ((y5 &&& (255 : Int32)) <<< ((8 : Int32) &&& 31))) ^^^ (y4 &&& (255 : Int32))))])) _
            refine XS.istoreN X0.here hx rfl (hb hby d3_175) rfl (l' := #[.val (.ref a0), .val (.int nn), .val (.int ((h1_ ^^^ ((y5 &&& (255 : Int32)) <<< ((8 : Int32) &&& 31))) ^^^ (y4 &&& (255 : Int32)))), .val (.int (4 : Int32)), .val (.int (nn - (4 : Int32))), .val (.int (((k1_ * (1540483477 : Int32)) ^^^ (((k1_ * (1540483477 : Int32)).toUInt32 >>> ((24 : Int32) &&& 31).toUInt32).toInt32)) * (1540483477 : Int32)))]) rfl ?_
            show Steps p.tables e below (s₁.setTop (mkF m 176 #[.val (.ref a0), .val (.int nn), .val (.int ((h1_ ^^^ ((y5 &&& (255 : Int32)) <<< ((8 : Int32) &&& 31))) ^^^ (y4 &&& (255 : Int32)))), .val (.int (4 : Int32)), .val (.int (nn - (4 : Int32))), .val (.int (((k1_ * (1540483477 : Int32)) ^^^ (((k1_ * (1540483477 : Int32)).toUInt32 >>> ((24 : Int32) &&& 31).toUInt32).toInt32)) * (1540483477 : Int32)))] [])) _
            refine XS.iloadN X0.here hx rfl (hb hby d3_176) rfl ?_
            show Steps p.tables e below (s₁.setTop (mkF m 177 #[.val (.ref a0), .val (.int nn), .val (.int ((h1_ ^^^ ((y5 &&& (255 : Int32)) <<< ((8 : Int32) &&& 31))) ^^^ (y4 &&& (255 : Int32)))), .val (.int (4 : Int32)), .val (.int (nn - (4 : Int32))), .val (.int (((k1_ * (1540483477 : Int32)) ^^^ (((k1_ * (1540483477 : Int32)).toUInt32 >>> ((24 : Int32) &&& 31).toUInt32).toInt32)) * (1540483477 : Int32)))] [(.int ((h1_ ^^^ ((y5 &&& (255 : Int32)) <<< ((8 : Int32) &&& 31))) ^^^ (y4 &&& (255 : Int32))))])) _
            refine X0.ldcInt hx hown (mvT hZ (hw _ (List.mem_of_getElem? (i := 13) rfl))) (g := (mkF m 177 #[.val (.ref a0), .val (.int nn), .val (.int ((h1_ ^^^ ((y5 &&& (255 : Int32)) <<< ((8 : Int32) &&& 31))) ^^^ (y4 &&& (255 : Int32)))), .val (.int (4 : Int32)), .val (.int (nn - (4 : Int32))), .val (.int (((k1_ * (1540483477 : Int32)) ^^^ (((k1_ * (1540483477 : Int32)).toUInt32 >>> ((24 : Int32) &&& 31).toUInt32).toInt32)) * (1540483477 : Int32)))] [(.int ((h1_ ^^^ ((y5 &&& (255 : Int32)) <<< ((8 : Int32) &&& 31))) ^^^ (y4 &&& (255 : Int32))))])) rfl (hb hby d3_177) _ ?_
            show Steps p.tables e below (s₁.setTop (mkF m 179 #[.val (.ref a0), .val (.int nn), .val (.int ((h1_ ^^^ ((y5 &&& (255 : Int32)) <<< ((8 : Int32) &&& 31))) ^^^ (y4 &&& (255 : Int32)))), .val (.int (4 : Int32)), .val (.int (nn - (4 : Int32))), .val (.int (((k1_ * (1540483477 : Int32)) ^^^ (((k1_ * (1540483477 : Int32)).toUInt32 >>> ((24 : Int32) &&& 31).toUInt32).toInt32)) * (1540483477 : Int32)))] [(.int (1540483477 : Int32)), (.int ((h1_ ^^^ ((y5 &&& (255 : Int32)) <<< ((8 : Int32) &&& 31))) ^^^ (y4 &&& (255 : Int32))))])) _
            refine XS.imul X0.here hx rfl (hb hby d3_179) rfl ?_
            show Steps p.tables e below (s₁.setTop (mkF m 180 #[.val (.ref a0), .val (.int nn), .val (.int ((h1_ ^^^ ((y5 &&& (255 : Int32)) <<< ((8 : Int32) &&& 31))) ^^^ (y4 &&& (255 : Int32)))), .val (.int (4 : Int32)), .val (.int (nn - (4 : Int32))), .val (.int (((k1_ * (1540483477 : Int32)) ^^^ (((k1_ * (1540483477 : Int32)).toUInt32 >>> ((24 : Int32) &&& 31).toUInt32).toInt32)) * (1540483477 : Int32)))] [(.int (((h1_ ^^^ ((y5 &&& (255 : Int32)) <<< ((8 : Int32) &&& 31))) ^^^ (y4 &&& (255 : Int32))) * (1540483477 : Int32)))])) _
            refine XS.istoreN X0.here hx rfl (hb hby d3_180) rfl (l' := #[.val (.ref a0), .val (.int nn), .val (.int (((h1_ ^^^ ((y5 &&& (255 : Int32)) <<< ((8 : Int32) &&& 31))) ^^^ (y4 &&& (255 : Int32))) * (1540483477 : Int32))), .val (.int (4 : Int32)), .val (.int (nn - (4 : Int32))), .val (.int (((k1_ * (1540483477 : Int32)) ^^^ (((k1_ * (1540483477 : Int32)).toUInt32 >>> ((24 : Int32) &&& 31).toUInt32).toInt32)) * (1540483477 : Int32)))]) rfl ?_
            try simp only [if_pos hc121, if_neg hc127, if_neg hc148] at k
            exact k
      · show Steps p.tables e below (s₁.setTop (mkF m 121 #[.val (.ref a0), .val (.int nn), .val (.int h1_), .val (.int (4 : Int32)), .val (.int (nn - (4 : Int32))), .val (.int (((k1_ * (1540483477 : Int32)) ^^^ (((k1_ * (1540483477 : Int32)).toUInt32 >>> ((24 : Int32) &&& 31).toUInt32).toInt32)) * (1540483477 : Int32)))] [(.int (nn - (4 : Int32)))])) _
        refine XS.ifYes X0.here hx rfl (pc0 := 121) (pc' := 181) rfl (hb hby d3_121) rfl ((if0 _ _).trans (flt hc121).2.2.2) (by decide) (by decide) ?_
        try simp only [if_neg hc121] at k
        exact k
    show Steps p.tables e below (s₁.setTop (mkF m 181 #[.val (.ref a0), .val (.int nn), .val (.int (if (0 : Int32) < (nn - (4 : Int32)) then (if (3 : Int32) = (nn - (4 : Int32)) then (if (nn - (4 : Int32)) < (2 : Int32) then (((h1_ ^^^ ((y6 &&& (255 : Int32)) <<< ((16 : Int32) &&& 31))) ^^^ (y4 &&& (255 : Int32))) * (1540483477 : Int32)) else ((((h1_ ^^^ ((y6 &&& (255 : Int32)) <<< ((16 : Int32) &&& 31))) ^^^ ((y5 &&& (255 : Int32)) <<< ((8 : Int32) &&& 31))) ^^^ (y4 &&& (255 : Int32))) * (1540483477 : Int32))) else (if (nn - (4 : Int32)) < (2 : Int32) then ((h1_ ^^^ (y4 &&& (255 : Int32))) * (1540483477 : Int32)) else (((h1_ ^^^ ((y5 &&& (255 : Int32)) <<< ((8 : Int32) &&& 31))) ^^^ (y4 &&& (255 : Int32))) * (1540483477 : Int32)))) else h1_)), .val (.int (4 : Int32)), .val (.int (nn - (4 : Int32))), .val (.int (((k1_ * (1540483477 : Int32)) ^^^ (((k1_ * (1540483477 : Int32)).toUInt32 >>> ((24 : Int32) &&& 31).toUInt32).toInt32)) * (1540483477 : Int32)))] [])) _
    rw [← h_ht_]
    show Steps p.tables e below (s₁.setTop (mkF m 181 #[.val (.ref a0), .val (.int nn), .val (.int ht_), .val (.int (4 : Int32)), .val (.int (nn - (4 : Int32))), .val (.int (((k1_ * (1540483477 : Int32)) ^^^ (((k1_ * (1540483477 : Int32)).toUInt32 >>> ((24 : Int32) &&& 31).toUInt32).toInt32)) * (1540483477 : Int32)))] [])) _
    refine XS.iloadN X0.here hx rfl (hb hby d3_181) rfl ?_
    show Steps p.tables e below (s₁.setTop (mkF m 182 #[.val (.ref a0), .val (.int nn), .val (.int ht_), .val (.int (4 : Int32)), .val (.int (nn - (4 : Int32))), .val (.int (((k1_ * (1540483477 : Int32)) ^^^ (((k1_ * (1540483477 : Int32)).toUInt32 >>> ((24 : Int32) &&& 31).toUInt32).toInt32)) * (1540483477 : Int32)))] [(.int ht_)])) _
    refine XS.iloadN X0.here hx rfl (hb hby d3_182) rfl ?_
    show Steps p.tables e below (s₁.setTop (mkF m 183 #[.val (.ref a0), .val (.int nn), .val (.int ht_), .val (.int (4 : Int32)), .val (.int (nn - (4 : Int32))), .val (.int (((k1_ * (1540483477 : Int32)) ^^^ (((k1_ * (1540483477 : Int32)).toUInt32 >>> ((24 : Int32) &&& 31).toUInt32).toInt32)) * (1540483477 : Int32)))] [(.int ht_), (.int ht_)])) _
    refine XS.bipush X0.here hx rfl (hb hby d3_183) ?_
    show Steps p.tables e below (s₁.setTop (mkF m 185 #[.val (.ref a0), .val (.int nn), .val (.int ht_), .val (.int (4 : Int32)), .val (.int (nn - (4 : Int32))), .val (.int (((k1_ * (1540483477 : Int32)) ^^^ (((k1_ * (1540483477 : Int32)).toUInt32 >>> ((24 : Int32) &&& 31).toUInt32).toInt32)) * (1540483477 : Int32)))] [(.int (13 : Int32)), (.int ht_), (.int ht_)])) _
    refine XS.iushr X0.here hx rfl (hb hby d3_185) rfl ?_
    show Steps p.tables e below (s₁.setTop (mkF m 186 #[.val (.ref a0), .val (.int nn), .val (.int ht_), .val (.int (4 : Int32)), .val (.int (nn - (4 : Int32))), .val (.int (((k1_ * (1540483477 : Int32)) ^^^ (((k1_ * (1540483477 : Int32)).toUInt32 >>> ((24 : Int32) &&& 31).toUInt32).toInt32)) * (1540483477 : Int32)))] [(.int ((ht_.toUInt32 >>> ((13 : Int32) &&& 31).toUInt32).toInt32)), (.int ht_)])) _
    refine XS.ixor X0.here hx rfl (hb hby d3_186) rfl ?_
    show Steps p.tables e below (s₁.setTop (mkF m 187 #[.val (.ref a0), .val (.int nn), .val (.int ht_), .val (.int (4 : Int32)), .val (.int (nn - (4 : Int32))), .val (.int (((k1_ * (1540483477 : Int32)) ^^^ (((k1_ * (1540483477 : Int32)).toUInt32 >>> ((24 : Int32) &&& 31).toUInt32).toInt32)) * (1540483477 : Int32)))] [(.int (ht_ ^^^ ((ht_.toUInt32 >>> ((13 : Int32) &&& 31).toUInt32).toInt32)))])) _
    rw [← h_ha_]
    show Steps p.tables e below (s₁.setTop (mkF m 187 #[.val (.ref a0), .val (.int nn), .val (.int ht_), .val (.int (4 : Int32)), .val (.int (nn - (4 : Int32))), .val (.int (((k1_ * (1540483477 : Int32)) ^^^ (((k1_ * (1540483477 : Int32)).toUInt32 >>> ((24 : Int32) &&& 31).toUInt32).toInt32)) * (1540483477 : Int32)))] [(.int ha_)])) _
    refine XS.istoreN X0.here hx rfl (hb hby d3_187) rfl (l' := #[.val (.ref a0), .val (.int nn), .val (.int ha_), .val (.int (4 : Int32)), .val (.int (nn - (4 : Int32))), .val (.int (((k1_ * (1540483477 : Int32)) ^^^ (((k1_ * (1540483477 : Int32)).toUInt32 >>> ((24 : Int32) &&& 31).toUInt32).toInt32)) * (1540483477 : Int32)))]) rfl ?_
    show Steps p.tables e below (s₁.setTop (mkF m 188 #[.val (.ref a0), .val (.int nn), .val (.int ha_), .val (.int (4 : Int32)), .val (.int (nn - (4 : Int32))), .val (.int (((k1_ * (1540483477 : Int32)) ^^^ (((k1_ * (1540483477 : Int32)).toUInt32 >>> ((24 : Int32) &&& 31).toUInt32).toInt32)) * (1540483477 : Int32)))] [])) _
    refine XS.iloadN X0.here hx rfl (hb hby d3_188) rfl ?_
    show Steps p.tables e below (s₁.setTop (mkF m 189 #[.val (.ref a0), .val (.int nn), .val (.int ha_), .val (.int (4 : Int32)), .val (.int (nn - (4 : Int32))), .val (.int (((k1_ * (1540483477 : Int32)) ^^^ (((k1_ * (1540483477 : Int32)).toUInt32 >>> ((24 : Int32) &&& 31).toUInt32).toInt32)) * (1540483477 : Int32)))] [(.int ha_)])) _
    refine X0.ldcInt hx hown (mvT hZ (hw _ (List.mem_of_getElem? (i := 13) rfl))) (g := (mkF m 189 #[.val (.ref a0), .val (.int nn), .val (.int ha_), .val (.int (4 : Int32)), .val (.int (nn - (4 : Int32))), .val (.int (((k1_ * (1540483477 : Int32)) ^^^ (((k1_ * (1540483477 : Int32)).toUInt32 >>> ((24 : Int32) &&& 31).toUInt32).toInt32)) * (1540483477 : Int32)))] [(.int ha_)])) rfl (hb hby d3_189) _ ?_
    show Steps p.tables e below (s₁.setTop (mkF m 191 #[.val (.ref a0), .val (.int nn), .val (.int ha_), .val (.int (4 : Int32)), .val (.int (nn - (4 : Int32))), .val (.int (((k1_ * (1540483477 : Int32)) ^^^ (((k1_ * (1540483477 : Int32)).toUInt32 >>> ((24 : Int32) &&& 31).toUInt32).toInt32)) * (1540483477 : Int32)))] [(.int (1540483477 : Int32)), (.int ha_)])) _
    refine XS.imul X0.here hx rfl (hb hby d3_191) rfl ?_
    show Steps p.tables e below (s₁.setTop (mkF m 192 #[.val (.ref a0), .val (.int nn), .val (.int ha_), .val (.int (4 : Int32)), .val (.int (nn - (4 : Int32))), .val (.int (((k1_ * (1540483477 : Int32)) ^^^ (((k1_ * (1540483477 : Int32)).toUInt32 >>> ((24 : Int32) &&& 31).toUInt32).toInt32)) * (1540483477 : Int32)))] [(.int (ha_ * (1540483477 : Int32)))])) _
    rw [← h_hb_]
    show Steps p.tables e below (s₁.setTop (mkF m 192 #[.val (.ref a0), .val (.int nn), .val (.int ha_), .val (.int (4 : Int32)), .val (.int (nn - (4 : Int32))), .val (.int (((k1_ * (1540483477 : Int32)) ^^^ (((k1_ * (1540483477 : Int32)).toUInt32 >>> ((24 : Int32) &&& 31).toUInt32).toInt32)) * (1540483477 : Int32)))] [(.int hb_)])) _
    refine XS.istoreN X0.here hx rfl (hb hby d3_192) rfl (l' := #[.val (.ref a0), .val (.int nn), .val (.int hb_), .val (.int (4 : Int32)), .val (.int (nn - (4 : Int32))), .val (.int (((k1_ * (1540483477 : Int32)) ^^^ (((k1_ * (1540483477 : Int32)).toUInt32 >>> ((24 : Int32) &&& 31).toUInt32).toInt32)) * (1540483477 : Int32)))]) rfl ?_
    show Steps p.tables e below (s₁.setTop (mkF m 193 #[.val (.ref a0), .val (.int nn), .val (.int hb_), .val (.int (4 : Int32)), .val (.int (nn - (4 : Int32))), .val (.int (((k1_ * (1540483477 : Int32)) ^^^ (((k1_ * (1540483477 : Int32)).toUInt32 >>> ((24 : Int32) &&& 31).toUInt32).toInt32)) * (1540483477 : Int32)))] [])) _
    refine XS.iloadN X0.here hx rfl (hb hby d3_193) rfl ?_
    show Steps p.tables e below (s₁.setTop (mkF m 194 #[.val (.ref a0), .val (.int nn), .val (.int hb_), .val (.int (4 : Int32)), .val (.int (nn - (4 : Int32))), .val (.int (((k1_ * (1540483477 : Int32)) ^^^ (((k1_ * (1540483477 : Int32)).toUInt32 >>> ((24 : Int32) &&& 31).toUInt32).toInt32)) * (1540483477 : Int32)))] [(.int hb_)])) _
    refine XS.iloadN X0.here hx rfl (hb hby d3_194) rfl ?_
    show Steps p.tables e below (s₁.setTop (mkF m 195 #[.val (.ref a0), .val (.int nn), .val (.int hb_), .val (.int (4 : Int32)), .val (.int (nn - (4 : Int32))), .val (.int (((k1_ * (1540483477 : Int32)) ^^^ (((k1_ * (1540483477 : Int32)).toUInt32 >>> ((24 : Int32) &&& 31).toUInt32).toInt32)) * (1540483477 : Int32)))] [(.int hb_), (.int hb_)])) _
    refine XS.bipush X0.here hx rfl (hb hby d3_195) ?_
    show Steps p.tables e below (s₁.setTop (mkF m 197 #[.val (.ref a0), .val (.int nn), .val (.int hb_), .val (.int (4 : Int32)), .val (.int (nn - (4 : Int32))), .val (.int (((k1_ * (1540483477 : Int32)) ^^^ (((k1_ * (1540483477 : Int32)).toUInt32 >>> ((24 : Int32) &&& 31).toUInt32).toInt32)) * (1540483477 : Int32)))] [(.int (15 : Int32)), (.int hb_), (.int hb_)])) _
    refine XS.iushr X0.here hx rfl (hb hby d3_197) rfl ?_
    show Steps p.tables e below (s₁.setTop (mkF m 198 #[.val (.ref a0), .val (.int nn), .val (.int hb_), .val (.int (4 : Int32)), .val (.int (nn - (4 : Int32))), .val (.int (((k1_ * (1540483477 : Int32)) ^^^ (((k1_ * (1540483477 : Int32)).toUInt32 >>> ((24 : Int32) &&& 31).toUInt32).toInt32)) * (1540483477 : Int32)))] [(.int ((hb_.toUInt32 >>> ((15 : Int32) &&& 31).toUInt32).toInt32)), (.int hb_)])) _
    refine XS.ixor X0.here hx rfl (hb hby d3_198) rfl ?_
    show Steps p.tables e below (s₁.setTop (mkF m 199 #[.val (.ref a0), .val (.int nn), .val (.int hb_), .val (.int (4 : Int32)), .val (.int (nn - (4 : Int32))), .val (.int (((k1_ * (1540483477 : Int32)) ^^^ (((k1_ * (1540483477 : Int32)).toUInt32 >>> ((24 : Int32) &&& 31).toUInt32).toInt32)) * (1540483477 : Int32)))] [(.int (hb_ ^^^ ((hb_.toUInt32 >>> ((15 : Int32) &&& 31).toUInt32).toInt32)))])) _
    rw [← h_rr_]
    show Steps p.tables e below (s₁.setTop (mkF m 199 #[.val (.ref a0), .val (.int nn), .val (.int hb_), .val (.int (4 : Int32)), .val (.int (nn - (4 : Int32))), .val (.int (((k1_ * (1540483477 : Int32)) ^^^ (((k1_ * (1540483477 : Int32)).toUInt32 >>> ((24 : Int32) &&& 31).toUInt32).toInt32)) * (1540483477 : Int32)))] [(.int rr_)])) _
    refine XS.istoreN X0.here hx rfl (hb hby d3_199) rfl (l' := #[.val (.ref a0), .val (.int nn), .val (.int rr_), .val (.int (4 : Int32)), .val (.int (nn - (4 : Int32))), .val (.int (((k1_ * (1540483477 : Int32)) ^^^ (((k1_ * (1540483477 : Int32)).toUInt32 >>> ((24 : Int32) &&& 31).toUInt32).toInt32)) * (1540483477 : Int32)))]) rfl ?_
    show Steps p.tables e below (s₁.setTop (mkF m 200 #[.val (.ref a0), .val (.int nn), .val (.int rr_), .val (.int (4 : Int32)), .val (.int (nn - (4 : Int32))), .val (.int (((k1_ * (1540483477 : Int32)) ^^^ (((k1_ * (1540483477 : Int32)).toUInt32 >>> ((24 : Int32) &&& 31).toUInt32).toInt32)) * (1540483477 : Int32)))] [])) _
    refine XS.iloadN X0.here hx rfl (hb hby d3_200) rfl ?_
    show Steps p.tables e below (s₁.setTop (mkF m 201 #[.val (.ref a0), .val (.int nn), .val (.int rr_), .val (.int (4 : Int32)), .val (.int (nn - (4 : Int32))), .val (.int (((k1_ * (1540483477 : Int32)) ^^^ (((k1_ * (1540483477 : Int32)).toUInt32 >>> ((24 : Int32) &&& 31).toUInt32).toInt32)) * (1540483477 : Int32)))] [(.int rr_)])) _
    exact retI X0 hx Bd.returns (hb hby d3_201) hr
  · show Qrm3_1 Z a0 kk nn vs dv y0 y1 y2 y3 y4 y5 y6 h0 n0 _ s₁.heap _
    rw [e0]
    exact ⟨by rw [h_rr_, h_hb_, h_ha_, h_ht_, h_h1_, h_k1_, h_h0_]; rfl, N0, rfl⟩
theorem ef_rm3_2 (m : MethodId) (a0 : Addr) : entryFrame m #[(.ref a0)] 6 = mkF m 0 #[.val (.ref a0), .unset, .unset, .unset, .unset, .unset] [] := by first | (simp [entryFrame, mkF, argsToLocals, Value.category]; done) | rfl
def Qrm3_2 (Z : State) (a0 : Addr) (kk : ClassId) (nn : Int32) (vs : List Value) (dv : Value) (y0 : Int32) (y1 : Int32) (y2 : Int32) (y3 : Int32) (y4 : Int32) (y5 : Int32) (y6 : Int32) (y7 : Int32) (y8 : Int32) (y9 : Int32) (y10 : Int32) (h0 : Heap) (n0 : Nat) (v : Option Value) (h : Heap) (L : List Loc) : Prop := v = some (.int (own_h2 nn y0 y1 y2 y3 y4 y5 y6 y7 y8 y9 y10)) ∧ Fr n0 L ∧ h = h0
set_option maxRecDepth 65536 in
set_option maxHeartbeats 40000000 in
theorem rm3_2 (l : Launch) (Z : State) (A0 : Array Value) (hw : ∀ d ∈ tables_1, d.before A0 Z = true) (ws : List Jvm.Cond) (a0 : Addr) (kk : ClassId) (nn : Int32) (vs : List Value) (dv : Value) (y0 : Int32) (y1 : Int32) (y2 : Int32) (y3 : Int32) (y4 : Int32) (y5 : Int32) (y6 : Int32) (y7 : Int32) (y8 : Int32) (y9 : Int32) (y10 : Int32) (h0 : Heap) (n0 : Nat) (Z0 : n0 ≤ h0.size) (V_a0 : Arv Z h0 a0 kk .byte nn vs dv) (hn : 8 ≤ nn.toInt ∧ nn.toInt ≤ 11) (yat0 : vs.getD 0 dv = .int y0) (yat1 : vs.getD 1 dv = .int y1) (yat2 : vs.getD 2 dv = .int y2) (yat3 : vs.getD 3 dv = .int y3) (yat4 : vs.getD 4 dv = .int y4) (yat5 : vs.getD 5 dv = .int y5) (yat6 : vs.getD 6 dv = .int y6) (yat7 : vs.getD 7 dv = .int y7) (yat8 : 8 < nn.toInt → vs.getD 8 dv = .int y8) (yat9 : 9 < nn.toInt → vs.getD 9 dv = .int y9) (yat10 : 10 < nn.toInt → vs.getD 10 dv = .int y10) :
    MetFree l (⟨"com/example/parley/parley/client/Murmur2", "hash", "([B)I"⟩ : MethodName) (head1 (Jvm.Cond.code (⟨"com/example/parley/parley/client/Murmur2", "hash", "([B)I"⟩ : MethodName) prog_92_method_2_code 6 (some .int) :: ws) ({ frames := 0, cells := 0, slots := 0, locals := 0 } : Room)) (fun a U => a = #[(.ref a0)] ∧ Z.Warmed39 U.vm ∧ U.heap = h0) (fun _ _ _ _ _ => True) (fun _ U o U' => ∃ v L, o = .returned v ∧ Qrm3_2 Z a0 kk nn vs dv y0 y1 y2 y3 y4 y5 y6 y7 y8 y9 y10 h0 n0 v U'.heap L ∧ FrameEnd U o U' L ({ frames := 0, cells := 0, slots := 0, locals := 0 } : Room).cells ({ frames := 0, cells := 0, slots := 0, locals := 0 } : Room).slots) := by
  refine MetFree.of_bodySF (plainFor_of_name pn_3) hisR ?_
  intro p e s m args below meth c s₁ Bd hml0 hP hK
  obtain ⟨rfl, hZ, hh⟩ := hP
  have hx := Bd.exec
  have hby := Bd.bytes
  have hml : c.maxLocals = 6 := hml0
  have hown : s.vm.findClass "com/example/parley/parley/client/Murmur2" = some m.cls := findClass_of_methodNamed Bd.named
  have hnm := (name_of_methodNamed Bd.named Bd.method).1
  have X0 : Stand p l e ({ frames := 0, cells := 0, slots := 0, locals := 0 } : Room) s m #[(.ref a0)] below meth c s₁ [] 0 0 := Stand.of_body Bd
  have e0 : s₁.heap = h0 := by rw [← hh, Bd.state]; rfl
  have N0 := Fr.nil n0
  have K0 : Keep h0 h0 [] := Keep.refl _ _
  have pre0 : ∀ t, Steps p.tables e below (s₁.setTop (mkF m 0 #[.val (.ref a0), .unset, .unset, .unset, .unset, .unset] [])) t → Steps p.tables e below (s₁.setTop (entryFrame m #[(.ref a0)] 6)) t := fun t k => castTop (ef_rm3_2 m a0) k
  obtain ⟨cl1, Ar1, -, SS1, MM1, -, -⟩ := id V_a0
  obtain ⟨h0_, h_h0_⟩ : ∃ z : Int32, z = ((-1756908916 : Int32) ^^^ nn) := ⟨_, rfl⟩
  obtain ⟨wh, h_wh⟩ : ∃ z : Int32, z = (nn &&& (-4 : Int32)) := ⟨_, rfl⟩
  rcases (own_wh2 hn h_wh) with rfl
  obtain ⟨cl2, Ar2, -, SS2, MM2, HH2, -⟩ := id V_a0
  have hin2 := inb_of SS2 (own_in (i := (0 : Int32)) (k := 0) (by decide) (by decide) (by omega))
  have hat2 : cl2.slots[((0 : Int32)).toNatClampNeg]? = some (.int y0) := HH2.at hin2 yat0
  obtain ⟨cl3, Ar3, -, SS3, MM3, HH3, -⟩ := id V_a0
  have hin3 := inb_of SS3 (own_in (i := ((0 : Int32) + (1 : Int32))) (k := 1) (by decide) (by decide) (by omega))
  have hat3 : cl3.slots[(((0 : Int32) + (1 : Int32))).toNatClampNeg]? = some (.int y1) := HH3.at hin3 yat1
  obtain ⟨cl4, Ar4, -, SS4, MM4, HH4, -⟩ := id V_a0
  have hin4 := inb_of SS4 (own_in (i := ((0 : Int32) + (2 : Int32))) (k := 2) (by decide) (by decide) (by omega))
  have hat4 : cl4.slots[(((0 : Int32) + (2 : Int32))).toNatClampNeg]? = some (.int y2) := HH4.at hin4 yat2
  obtain ⟨cl5, Ar5, -, SS5, MM5, HH5, -⟩ := id V_a0
  have hin5 := inb_of SS5 (own_in (i := ((0 : Int32) + (3 : Int32))) (k := 3) (by decide) (by decide) (by omega))
  have hat5 : cl5.slots[(((0 : Int32) + (3 : Int32))).toNatClampNeg]? = some (.int y3) := HH5.at hin5 yat3
  obtain ⟨k1_, h_k1_⟩ : ∃ z : Int32, z = ((((y0 &&& (255 : Int32)) ||| ((y1 &&& (255 : Int32)) <<< ((8 : Int32) &&& 31))) ||| ((y2 &&& (255 : Int32)) <<< ((16 : Int32) &&& 31))) ||| ((y3 &&& (255 : Int32)) <<< ((24 : Int32) &&& 31))) := ⟨_, rfl⟩
  obtain ⟨h1_, h_h1_⟩ : ∃ z : Int32, z = ((h0_ * (1540483477 : Int32)) ^^^ (((k1_ * (1540483477 : Int32)) ^^^ (((k1_ * (1540483477 : Int32)).toUInt32 >>> ((24 : Int32) &&& 31).toUInt32).toInt32)) * (1540483477 : Int32))) := ⟨_, rfl⟩
  obtain ⟨cl6, Ar6, -, SS6, MM6, HH6, -⟩ := id V_a0
  have hin6 := inb_of SS6 (own_in (i := ((0 : Int32) + (4 : Int32))) (k := 4) (by decide) (by decide) (by omega))
  have hat6 : cl6.slots[(((0 : Int32) + (4 : Int32))).toNatClampNeg]? = some (.int y4) := HH6.at hin6 yat4
  obtain ⟨cl7, Ar7, -, SS7, MM7, HH7, -⟩ := id V_a0
  have hin7 := inb_of SS7 (own_in (i := (((0 : Int32) + (4 : Int32)) + (1 : Int32))) (k := 5) (by decide) (by decide) (by omega))
  have hat7 : cl7.slots[((((0 : Int32) + (4 : Int32)) + (1 : Int32))).toNatClampNeg]? = some (.int y5) := HH7.at hin7 yat5
  obtain ⟨cl8, Ar8, -, SS8, MM8, HH8, -⟩ := id V_a0
  have hin8 := inb_of SS8 (own_in (i := (((0 : Int32) + (4 : Int32)) + (2 : Int32))) (k := 6) (by decide) (by decide) (by omega))
  have hat8 : cl8.slots[((((0 : Int32) + (4 : Int32)) + (2 : Int32))).toNatClampNeg]? = some (.int y6) := HH8.at hin8 yat6
  obtain ⟨cl9, Ar9, -, SS9, MM9, HH9, -⟩ := id V_a0
  have hin9 := inb_of SS9 (own_in (i := (((0 : Int32) + (4 : Int32)) + (3 : Int32))) (k := 7) (by decide) (by decide) (by omega))
  have hat9 : cl9.slots[((((0 : Int32) + (4 : Int32)) + (3 : Int32))).toNatClampNeg]? = some (.int y7) := HH9.at hin9 yat7
  obtain ⟨k2_, h_k2_⟩ : ∃ z : Int32, z = ((((y4 &&& (255 : Int32)) ||| ((y5 &&& (255 : Int32)) <<< ((8 : Int32) &&& 31))) ||| ((y6 &&& (255 : Int32)) <<< ((16 : Int32) &&& 31))) ||| ((y7 &&& (255 : Int32)) <<< ((24 : Int32) &&& 31))) := ⟨_, rfl⟩
  obtain ⟨h2_, h_h2_⟩ : ∃ z : Int32, z = ((h1_ * (1540483477 : Int32)) ^^^ (((k2_ * (1540483477 : Int32)) ^^^ (((k2_ * (1540483477 : Int32)).toUInt32 >>> ((24 : Int32) &&& 31).toUInt32).toInt32)) * (1540483477 : Int32))) := ⟨_, rfl⟩
  obtain ⟨ht_, h_ht_⟩ : ∃ z : Int32, z = (if (0 : Int32) < (nn - (8 : Int32)) then (if (3 : Int32) = (nn - (8 : Int32)) then (if (nn - (8 : Int32)) < (2 : Int32) then (((h2_ ^^^ ((y10 &&& (255 : Int32)) <<< ((16 : Int32) &&& 31))) ^^^ (y8 &&& (255 : Int32))) * (1540483477 : Int32)) else ((((h2_ ^^^ ((y10 &&& (255 : Int32)) <<< ((16 : Int32) &&& 31))) ^^^ ((y9 &&& (255 : Int32)) <<< ((8 : Int32) &&& 31))) ^^^ (y8 &&& (255 : Int32))) * (1540483477 : Int32))) else (if (nn - (8 : Int32)) < (2 : Int32) then ((h2_ ^^^ (y8 &&& (255 : Int32))) * (1540483477 : Int32)) else (((h2_ ^^^ ((y9 &&& (255 : Int32)) <<< ((8 : Int32) &&& 31))) ^^^ (y8 &&& (255 : Int32))) * (1540483477 : Int32)))) else h2_) := ⟨_, rfl⟩
  obtain ⟨ha_, h_ha_⟩ : ∃ z : Int32, z = (ht_ ^^^ ((ht_.toUInt32 >>> ((13 : Int32) &&& 31).toUInt32).toInt32)) := ⟨_, rfl⟩
  obtain ⟨hb_, h_hb_⟩ : ∃ z : Int32, z = (ha_ * (1540483477 : Int32)) := ⟨_, rfl⟩
  obtain ⟨rr_, h_rr_⟩ : ∃ z : Int32, z = (hb_ ^^^ ((hb_.toUInt32 >>> ((15 : Int32) &&& 31).toUInt32).toInt32)) := ⟨_, rfl⟩
  obtain ⟨fs, hr, hrun, hended, hW, hsame⟩ := X0.leave (v := some (.int rr_)) (fun h => by rw [Bd.returns] at h; cases h)
  refine ⟨_, _, pre0 _ ?_, hrun, hended, _, _, rfl, ?_, ⟨_, rfl⟩, hW, hsame.mono (by decide) (by decide)⟩
  · show Steps p.tables e below (s₁.setTop (mkF m 0 #[.val (.ref a0), .unset, .unset, .unset, .unset, .unset] [])) _
    refine XS.aloadN X0.here hx rfl (hb hby d3_0) rfl rfl ?_
    show Steps p.tables e below (s₁.setTop (mkF m 1 #[.val (.ref a0), .unset, .unset, .unset, .unset, .unset] [(.ref a0)])) _
    refine X0.arraylength hx (by rw [e0]; exact Ar1.1) (State.isArrayOf_alike hZ.alike Ar1.2.1) (g := (mkF m 1 #[.val (.ref a0), .unset, .unset, .unset, .unset, .unset] [(.ref a0)])) rfl rfl (hb hby d3_1) _ ?_
    rw [len_of SS1 MM1]
    show Steps p.tables e below (s₁.setTop (mkF m 2 #[.val (.ref a0), .unset, .unset, .unset, .unset, .unset] [(.int nn)])) _
    refine XS.istoreN X0.here hx rfl (hb hby d3_2) rfl (l' := #[.val (.ref a0), .val (.int nn), .unset, .unset, .unset, .unset]) rfl ?_
    show Steps p.tables e below (s₁.setTop (mkF m 3 #[.val (.ref a0), .val (.int nn), .unset, .unset, .unset, .unset] [])) _
    refine X0.ldcInt hx hown (mvT hZ (hw _ (List.mem_of_getElem? (i := 12) rfl))) (g := (mkF m 3 #[.val (.ref a0), .val (.int nn), .unset, .unset, .unset, .unset] [])) rfl (hb hby d3_3) _ ?_
    show Steps p.tables e below (s₁.setTop (mkF m 5 #[.val (.ref a0), .val (.int nn), .unset, .unset, .unset, .unset] [(.int (-1756908916 : Int32))])) _
    refine XS.iloadN X0.here hx rfl (hb hby d3_5) rfl ?_
    show Steps p.tables e below (s₁.setTop (mkF m 6 #[.val (.ref a0), .val (.int nn), .unset, .unset, .unset, .unset] [(.int nn), (.int (-1756908916 : Int32))])) _
    refine XS.ixor X0.here hx rfl (hb hby d3_6) rfl ?_
    show Steps p.tables e below (s₁.setTop (mkF m 7 #[.val (.ref a0), .val (.int nn), .unset, .unset, .unset, .unset] [(.int ((-1756908916 : Int32) ^^^ nn))])) _
    rw [← h_h0_]
    show Steps p.tables e below (s₁.setTop (mkF m 7 #[.val (.ref a0), .val (.int nn), .unset, .unset, .unset, .unset] [(.int h0_)])) _
    refine XS.istoreN X0.here hx rfl (hb hby d3_7) rfl (l' := #[.val (.ref a0), .val (.int nn), .val (.int h0_), .unset, .unset, .unset]) rfl ?_
    show Steps p.tables e below (s₁.setTop (mkF m 8 #[.val (.ref a0), .val (.int nn), .val (.int h0_), .unset, .unset, .unset] [])) _
    refine XS.iloadN X0.here hx rfl (hb hby d3_8) rfl ?_
    show Steps p.tables e below (s₁.setTop (mkF m 9 #[.val (.ref a0), .val (.int nn), .val (.int h0_), .unset, .unset, .unset] [(.int nn)])) _
    refine XS.bipush X0.here hx rfl (hb hby d3_9) ?_
    show Steps p.tables e below (s₁.setTop (mkF m 11 #[.val (.ref a0), .val (.int nn), .val (.int h0_), .unset, .unset, .unset] [(.int (-4 : Int32)), (.int nn)])) _
    refine XS.iand X0.here hx rfl (hb hby d3_11) rfl ?_
    show Steps p.tables e below (s₁.setTop (mkF m 12 #[.val (.ref a0), .val (.int nn), .val (.int h0_), .unset, .unset, .unset] [(.int (nn &&& (-4 : Int32)))])) _
    rw [← h_wh]
    show Steps p.tables e below (s₁.setTop (mkF m 12 #[.val (.ref a0), .val (.int nn), .val (.int h0_), .unset, .unset, .unset] [(.int (8 : Int32))])) _
    refine XS.istoreN X0.here hx rfl (hb hby d3_12) rfl (l' := #[.val (.ref a0), .val (.int nn), .val (.int h0_), .val (.int (8 : Int32)), .unset, .unset]) rfl ?_
    show Steps p.tables e below (s₁.setTop (mkF m 13 #[.val (.ref a0), .val (.int nn), .val (.int h0_), .val (.int (8 : Int32)), .unset, .unset] [])) _
    refine XS.iconst X0.here hx rfl (hb hby d3_13) ?_
    show Steps p.tables e below (s₁.setTop (mkF m 14 #[.val (.ref a0), .val (.int nn), .val (.int h0_), .val (.int (8 : Int32)), .unset, .unset] [(.int (0 : Int32))])) _
    refine XS.istore X0.here hx rfl (hb hby d3_14) rfl (l' := #[.val (.ref a0), .val (.int nn), .val (.int h0_), .val (.int (8 : Int32)), .val (.int (0 : Int32)), .unset]) rfl ?_
    show Steps p.tables e below (s₁.setTop (mkF m 16 #[.val (.ref a0), .val (.int nn), .val (.int h0_), .val (.int (8 : Int32)), .val (.int (0 : Int32)), .unset] [])) _
    refine XS.iload X0.here hx rfl (hb hby d3_16) rfl ?_
    show Steps p.tables e below (s₁.setTop (mkF m 18 #[.val (.ref a0), .val (.int nn), .val (.int h0_), .val (.int (8 : Int32)), .val (.int (0 : Int32)), .unset] [(.int (0 : Int32))])) _
    refine XS.iloadN X0.here hx rfl (hb hby d3_18) rfl ?_
    show Steps p.tables e below (s₁.setTop (mkF m 19 #[.val (.ref a0), .val (.int nn), .val (.int h0_), .val (.int (8 : Int32)), .val (.int (0 : Int32)), .unset] [(.int (8 : Int32)), (.int (0 : Int32))])) _
    refine XS.icmpNo X0.here hx rfl (hb hby d3_19) rfl (tlt (by decide : (0 : Int32) < (8 : Int32))).2.1 ?_
    show Steps p.tables e below (s₁.setTop (mkF m 22 #[.val (.ref a0), .val (.int nn), .val (.int h0_), .val (.int (8 : Int32)), .val (.int (0 : Int32)), .unset] [])) _
    refine XS.aloadN X0.here hx rfl (hb hby d3_22) rfl rfl ?_
    show Steps p.tables e below (s₁.setTop (mkF m 23 #[.val (.ref a0), .val (.int nn), .val (.int h0_), .val (.int (8 : Int32)), .val (.int (0 : Int32)), .unset] [(.ref a0)])) _
    refine XS.iload X0.here hx rfl (hb hby d3_23) rfl ?_
    show Steps p.tables e below (s₁.setTop (mkF m 25 #[.val (.ref a0), .val (.int nn), .val (.int h0_), .val (.int (8 : Int32)), .val (.int (0 : Int32)), .unset] [(.int (0 : Int32)), (.ref a0)])) _
    refine X0.baloadBytes hx (j := (0 : Int32)) (v := (.int y0)) (by rw [e0]; exact Ar2.1) (State.isArrayOf_alike hZ.alike Ar2.2.1) Ar2.2.2 hin2 hat2 (g := (mkF m 25 #[.val (.ref a0), .val (.int nn), .val (.int h0_), .val (.int (8 : Int32)), .val (.int (0 : Int32)), .unset] [(.int (0 : Int32)), (.ref a0)])) rfl rfl (hb hby d3_25) _ ?_
    show Steps p.tables e below (s₁.setTop (mkF m 26 #[.val (.ref a0), .val (.int nn), .val (.int h0_), .val (.int (8 : Int32)), .val (.int (0 : Int32)), .unset] [(.int y0)])) _
    refine XS.sipush X0.here hx rfl (hb hby d3_26) ?_
    show Steps p.tables e below (s₁.setTop (mkF m 29 #[.val (.ref a0), .val (.int nn), .val (.int h0_), .val (.int (8 : Int32)), .val (.int (0 : Int32)), .unset] [(.int (255 : Int32)), (.int y0)])) _
    refine XS.iand X0.here hx rfl (hb hby d3_29) rfl ?_
    show Steps p.tables e below (s₁.setTop (mkF m 30 #[.val (.ref a0), .val (.int nn), .val (.int h0_), .val (.int (8 : Int32)), .val (.int (0 : Int32)), .unset] [(.int (y0 &&& (255 : Int32)))])) _
    refine XS.aloadN X0.here hx rfl (hb hby d3_30) rfl rfl ?_
    show Steps p.tables e below (s₁.setTop (mkF m 31 #[.val (.ref a0), .val (.int nn), .val (.int h0_), .val (.int (8 : Int32)), .val (.int (0 : Int32)), .unset] [(.ref a0), (.int (y0 &&& (255 : Int32)))])) _
    refine XS.iload X0.here hx rfl (hb hby d3_31) rfl ?_
    show Steps p.tables e below (s₁.setTop (mkF m 33 #[.val (.ref a0), .val (.int nn), .val (.int h0_), .val (.int (8 : Int32)), .val (.int (0 : Int32)), .unset] [(.int (0 : Int32)), (.ref a0), (.int (y0 &&& (255 : Int32)))])) _
    refine XS.iconst X0.here hx rfl (hb hby d3_33) ?_
    show Steps p.tables e below (s₁.setTop (mkF m 34 #[.val (.ref a0), .val (.int nn), .val (.int h0_), .val (.int (8 : Int32)), .val (.int (0 : Int32)), .unset] [(.int (1 : Int32)), (.int (0 : Int32)), (.ref a0), (.int (y0 &&& (255 : Int32)))])) _
    refine XS.iadd X0.here hx rfl (hb hby d3_34) rfl ?_
    show Steps p.tables e below (s₁.setTop (mkF m 35 #[.val (.ref a0), .val (.int nn), .val (.int h0_), .val (.int (8 : Int32)), .val (.int (0 : Int32)), .unset] [(.int ((0 : Int32) + (1 : Int32))), (.ref a0), (.int (y0 &&& (255 : Int32)))])) _
    refine X0.baloadBytes hx (j := ((0 : Int32) + (1 : Int32))) (v := (.int y1)) (by rw [e0]; exact Ar3.1) (State.isArrayOf_alike hZ.alike Ar3.2.1) Ar3.2.2 hin3 hat3 (g := (mkF m 35 #[.val (.ref a0), .val (.int nn), .val (.int h0_), .val (.int (8 : Int32)), .val (.int (0 : Int32)), .unset] [(.int ((0 : Int32) + (1 : Int32))), (.ref a0), (.int (y0 &&& (255 : Int32)))])) rfl rfl (hb hby d3_35) _ ?_
    show Steps p.tables e below (s₁.setTop (mkF m 36 #[.val (.ref a0), .val (.int nn), .val (.int h0_), .val (.int (8 : Int32)), .val (.int (0 : Int32)), .unset] [(.int y1), (.int (y0 &&& (255 : Int32)))])) _
    refine XS.sipush X0.here hx rfl (hb hby d3_36) ?_
    show Steps p.tables e below (s₁.setTop (mkF m 39 #[.val (.ref a0), .val (.int nn), .val (.int h0_), .val (.int (8 : Int32)), .val (.int (0 : Int32)), .unset] [(.int (255 : Int32)), (.int y1), (.int (y0 &&& (255 : Int32)))])) _
    refine XS.iand X0.here hx rfl (hb hby d3_39) rfl ?_
    show Steps p.tables e below (s₁.setTop (mkF m 40 #[.val (.ref a0), .val (.int nn), .val (.int h0_), .val (.int (8 : Int32)), .val (.int (0 : Int32)), .unset] [(.int (y1 &&& (255 : Int32))), (.int (y0 &&& (255 : Int32)))])) _
    refine XS.bipush X0.here hx rfl (hb hby d3_40) ?_
    show Steps p.tables e below (s₁.setTop (mkF m 42 #[.val (.ref a0), .val (.int nn), .val (.int h0_), .val (.int (8 : Int32)), .val (.int (0 : Int32)), .unset] [(.int (8 : Int32)), (.int (y1 &&& (255 : Int32))), (.int (y0 &&& (255 : Int32)))])) _
    refine XS.ishl X0.here hx rfl (hb hby d3_42) rfl ?_
    show Steps p.tables e below (s₁.setTop (mkF m 43 #[.val (.ref a0), .val (.int nn), .val (.int h0_), .val (.int (8 : Int32)), .val (.int (0 : Int32)), .unset] [(.int ((y1 &&& (255 : Int32)) <<< ((8 : Int32) &&& 31))), (.int (y0 &&& (255 : Int32)))])) _
    refine XS.ior X0.here hx rfl (hb hby d3_43) rfl ?_
    show Steps p.tables e below (s₁.setTop (mkF m 44 #[.val (.ref a0), .val (.int nn), .val (.int h0_), .val (.int (8 : Int32)), .val (.int (0 : Int32)), .unset] [(.int ((y0 &&& (255 : Int32)) ||| ((y1 &&& (255 : Int32)) <<< ((8 : Int32) &&& 31))))])) _
    refine XS.aloadN X0.here hx rfl (hb hby d3_44) rfl rfl ?_
    show Steps p.tables e below (s₁.setTop (mkF m 45 #[.val (.ref a0), .val (.int nn), .val (.int h0_), .val (.int (8 : Int32)), .val (.int (0 : Int32)), .unset] [(.ref a0), (.int ((y0 &&& (255 : Int32)) ||| ((y1 &&& (255 : Int32)) <<< ((8 : Int32) &&& 31))))])) _
    refine XS.iload X0.here hx rfl (hb hby d3_45) rfl ?_
    show Steps p.tables e below (s₁.setTop (mkF m 47 #[.val (.ref a0), .val (.int nn), .val (.int h0_), .val (.int (8 : Int32)), .val (.int (0 : Int32)), .unset] [(.int (0 : Int32)), (.ref a0), (.int ((y0 &&& (255 : Int32)) ||| ((y1 &&& (255 : Int32)) <<< ((8 : Int32) &&& 31))))])) _
    refine XS.iconst X0.here hx rfl (hb hby d3_47) ?_
    show Steps p.tables e below (s₁.setTop (mkF m 48 #[.val (.ref a0), .val (.int nn), .val (.int h0_), .val (.int (8 : Int32)), .val (.int (0 : Int32)), .unset] [(.int (2 : Int32)), (.int (0 : Int32)), (.ref a0), (.int ((y0 &&& (255 : Int32)) ||| ((y1 &&& (255 : Int32)) <<< ((8 : Int32) &&& 31))))])) _
    refine XS.iadd X0.here hx rfl (hb hby d3_48) rfl ?_
    show Steps p.tables e below (s₁.setTop (mkF m 49 #[.val (.ref a0), .val (.int nn), .val (.int h0_), .val (.int (8 : Int32)), .val (.int (0 : Int32)), .unset] [(.int ((0 : Int32) + (2 : Int32))), (.ref a0), (.int ((y0 &&& (255 : Int32)) ||| ((y1 &&& (255 : Int32)) <<< ((8 : Int32) &&& 31))))])) _
    refine X0.baloadBytes hx (j := ((0 : Int32) + (2 : Int32))) (v := (.int y2)) (by rw [e0]; exact Ar4.1) (State.isArrayOf_alike hZ.alike Ar4.2.1) Ar4.2.2 hin4 hat4 (g := (mkF m 49 #[.val (.ref a0), .val (.int nn), .val (.int h0_), .val (.int (8 : Int32)), .val (.int (0 : Int32)), .unset] [(.int ((0 : Int32) + (2 : Int32))), (.ref a0), (.int ((y0 &&& (255 : Int32)) ||| ((y1 &&& (255 : Int32)) <<< ((8 : Int32) &&& 31))))])) rfl rfl (hb hby d3_49) _ ?_
    show Steps p.tables e below (s₁.setTop (mkF m 50 #[.val (.ref a0), .val (.int nn), .val (.int h0_), .val (.int (8 : Int32)), .val (.int (0 : Int32)), .unset] [(.int y2), (.int ((y0 &&& (255 : Int32)) ||| ((y1 &&& (255 : Int32)) <<< ((8 : Int32) &&& 31))))])) _
    refine XS.sipush X0.here hx rfl (hb hby d3_50) ?_
    show Steps p.tables e below (s₁.setTop (mkF m 53 #[.val (.ref a0), .val (.int nn), .val (.int h0_), .val (.int (8 : Int32)), .val (.int (0 : Int32)), .unset] [(.int (255 : Int32)), (.int y2), (.int ((y0 &&& (255 : Int32)) ||| ((y1 &&& (255 : Int32)) <<< ((8 : Int32) &&& 31))))])) _
    refine XS.iand X0.here hx rfl (hb hby d3_53) rfl ?_
    show Steps p.tables e below (s₁.setTop (mkF m 54 #[.val (.ref a0), .val (.int nn), .val (.int h0_), .val (.int (8 : Int32)), .val (.int (0 : Int32)), .unset] [(.int (y2 &&& (255 : Int32))), (.int ((y0 &&& (255 : Int32)) ||| ((y1 &&& (255 : Int32)) <<< ((8 : Int32) &&& 31))))])) _
    refine XS.bipush X0.here hx rfl (hb hby d3_54) ?_
    show Steps p.tables e below (s₁.setTop (mkF m 56 #[.val (.ref a0), .val (.int nn), .val (.int h0_), .val (.int (8 : Int32)), .val (.int (0 : Int32)), .unset] [(.int (16 : Int32)), (.int (y2 &&& (255 : Int32))), (.int ((y0 &&& (255 : Int32)) ||| ((y1 &&& (255 : Int32)) <<< ((8 : Int32) &&& 31))))])) _
    refine XS.ishl X0.here hx rfl (hb hby d3_56) rfl ?_
    show Steps p.tables e below (s₁.setTop (mkF m 57 #[.val (.ref a0), .val (.int nn), .val (.int h0_), .val (.int (8 : Int32)), .val (.int (0 : Int32)), .unset] [(.int ((y2 &&& (255 : Int32)) <<< ((16 : Int32) &&& 31))), (.int ((y0 &&& (255 : Int32)) ||| ((y1 &&& (255 : Int32)) <<< ((8 : Int32) &&& 31))))])) _
    refine XS.ior X0.here hx rfl (hb hby d3_57) rfl ?_
    show Steps p.tables e below (s₁.setTop (mkF m 58 #[.val (.ref a0), .val (.int nn), .val (.int h0_), .val (.int (8 : Int32)), .val (.int (0 : Int32)), .unset] [(.int (((y0 &&& (255 : Int32)) ||| ((y1 &&& (255 : Int32)) <<< ((8 : Int32) &&& 31))) ||| ((y2 &&& (255 : Int32)) <<< ((16 : Int32) &&& 31))))])) _
    refine XS.aloadN X0.here hx rfl (hb hby d3_58) rfl rfl ?_
    show Steps p.tables e below (s₁.setTop (mkF m 59 #[.val (.ref a0), .val (.int nn), .val (.int h0_), .val (.int (8 : Int32)), .val (.int (0 : Int32)), .unset] [(.ref a0), (.int (((y0 &&& (255 : Int32)) ||| ((y1 &&& (255 : Int32)) <<< ((8 : Int32) &&& 31))) ||| ((y2 &&& (255 : Int32)) <<< ((16 : Int32) &&& 31))))])) _
    refine XS.iload X0.here hx rfl (hb hby d3_59) rfl ?_
    show Steps p.tables e below (s₁.setTop (mkF m 61 #[.val (.ref a0), .val (.int nn), .val (.int h0_), .val (.int (8 : Int32)), .val (.int (0 : Int32)), .unset] [(.int (0 : Int32)), (.ref a0), (.int (((y0 &&& (255 : Int32)) ||| ((y1 &&& (255 : Int32)) <<< ((8 : Int32) &&& 31))) ||| ((y2 &&& (255 : Int32)) <<< ((16 : Int32) &&& 31))))])) _
    refine XS.iconst X0.here hx rfl (hb hby d3_61) ?_
    show Steps p.tables e below (s₁.setTop (mkF m 62 #[.val (.ref a0), .val (.int nn), .val (.int h0_), .val (.int (8 : Int32)), .val (.int (0 : Int32)), .unset] [(.int (3 : Int32)), (.int (0 : Int32)), (.ref a0), (.int (((y0 &&& (255 : Int32)) ||| ((y1 &&& (255 : Int32)) <<< ((8 : Int32) &&& 31))) ||| ((y2 &&& (255 : Int32)) <<< ((16 : Int32) &&& 31))))])) _
    refine XS.iadd X0.here hx rfl (hb hby d3_62) rfl ?_
    show Steps p.tables e below (s₁.setTop (mkF m 63 #[.val (.ref a0), .val (.int nn), .val (.int h0_), .val (.int (8 : Int32)), .val (.int (0 : Int32)), .unset] [(.int ((0 : Int32) + (3 : Int32))), (.ref a0), (.int (((y0 &&& (255 : Int32)) ||| ((y1 &&& (255 : Int32)) <<< ((8 : Int32) &&& 31))) ||| ((y2 &&& (255 : Int32)) <<< ((16 : Int32) &&& 31))))])) _
    refine X0.baloadBytes hx (j := ((0 : Int32) + (3 : Int32))) (v := (.int y3)) (by rw [e0]; exact Ar5.1) (State.isArrayOf_alike hZ.alike Ar5.2.1) Ar5.2.2 hin5 hat5 (g := (mkF m 63 #[.val (.ref a0), .val (.int nn), .val (.int h0_), .val (.int (8 : Int32)), .val (.int (0 : Int32)), .unset] [(.int ((0 : Int32) + (3 : Int32))), (.ref a0), (.int (((y0 &&& (255 : Int32)) ||| ((y1 &&& (255 : Int32)) <<< ((8 : Int32) &&& 31))) ||| ((y2 &&& (255 : Int32)) <<< ((16 : Int32) &&& 31))))])) rfl rfl (hb hby d3_63) _ ?_
    show Steps p.tables e below (s₁.setTop (mkF m 64 #[.val (.ref a0), .val (.int nn), .val (.int h0_), .val (.int (8 : Int32)), .val (.int (0 : Int32)), .unset] [(.int y3), (.int (((y0 &&& (255 : Int32)) ||| ((y1 &&& (255 : Int32)) <<< ((8 : Int32) &&& 31))) ||| ((y2 &&& (255 : Int32)) <<< ((16 : Int32) &&& 31))))])) _
    refine XS.sipush X0.here hx rfl (hb hby d3_64) ?_
    show Steps p.tables e below (s₁.setTop (mkF m 67 #[.val (.ref a0), .val (.int nn), .val (.int h0_), .val (.int (8 : Int32)), .val (.int (0 : Int32)), .unset] [(.int (255 : Int32)), (.int y3), (.int (((y0 &&& (255 : Int32)) ||| ((y1 &&& (255 : Int32)) <<< ((8 : Int32) &&& 31))) ||| ((y2 &&& (255 : Int32)) <<< ((16 : Int32) &&& 31))))])) _
    refine XS.iand X0.here hx rfl (hb hby d3_67) rfl ?_
    show Steps p.tables e below (s₁.setTop (mkF m 68 #[.val (.ref a0), .val (.int nn), .val (.int h0_), .val (.int (8 : Int32)), .val (.int (0 : Int32)), .unset] [(.int (y3 &&& (255 : Int32))), (.int (((y0 &&& (255 : Int32)) ||| ((y1 &&& (255 : Int32)) <<< ((8 : Int32) &&& 31))) ||| ((y2 &&& (255 : Int32)) <<< ((16 : Int32) &&& 31))))])) _
    refine XS.bipush X0.here hx rfl (hb hby d3_68) ?_
    show Steps p.tables e below (s₁.setTop (mkF m 70 #[.val (.ref a0), .val (.int nn), .val (.int h0_), .val (.int (8 : Int32)), .val (.int (0 : Int32)), .unset] [(.int (24 : Int32)), (.int (y3 &&& (255 : Int32))), (.int (((y0 &&& (255 : Int32)) ||| ((y1 &&& (255 : Int32)) <<< ((8 : Int32) &&& 31))) ||| ((y2 &&& (255 : Int32)) <<< ((16 : Int32) &&& 31))))])) _
    refine XS.ishl X0.here hx rfl (hb hby d3_70) rfl ?_
    show Steps p.tables e below (s₁.setTop (mkF m 71 #[.val (.ref a0), .val (.int nn), .val (.int h0_), .val (.int (8 : Int32)), .val (.int (0 : Int32)), .unset] [(.int ((y3 &&& (255 : Int32)) <<< ((24 : Int32) &&& 31))), (.int (((y0 &&& (255 : Int32)) ||| ((y1 &&& (255 : Int32)) <<< ((8 : Int32) &&& 31))) ||| ((y2 &&& (255 : Int32)) <<< ((16 : Int32) &&& 31))))])) _
    refine XS.ior X0.here hx rfl (hb hby d3_71) rfl ?_
    show Steps p.tables e below (s₁.setTop (mkF m 72 #[.val (.ref a0), .val (.int nn), .val (.int h0_), .val (.int (8 : Int32)), .val (.int (0 : Int32)), .unset] [(.int ((((y0 &&& (255 : Int32)) ||| ((y1 &&& (255 : Int32)) <<< ((8 : Int32) &&& 31))) ||| ((y2 &&& (255 : Int32)) <<< ((16 : Int32) &&& 31))) ||| ((y3 &&& (255 : Int32)) <<< ((24 : Int32) &&& 31))))])) _
    rw [← h_k1_]
    show Steps p.tables e below (s₁.setTop (mkF m 72 #[.val (.ref a0), .val (.int nn), .val (.int h0_), .val (.int (8 : Int32)), .val (.int (0 : Int32)), .unset] [(.int k1_)])) _
    refine XS.istore X0.here hx rfl (hb hby d3_72) rfl (l' := #[.val (.ref a0), .val (.int nn), .val (.int h0_), .val (.int (8 : Int32)), .val (.int (0 : Int32)), .val (.int k1_)]) rfl ?_
    show Steps p.tables e below (s₁.setTop (mkF m 74 #[.val (.ref a0), .val (.int nn), .val (.int h0_), .val (.int (8 : Int32)), .val (.int (0 : Int32)), .val (.int k1_)] [])) _
    refine XS.iload X0.here hx rfl (hb hby d3_74) rfl ?_
    show Steps p.tables e below (s₁.setTop (mkF m 76 #[.val (.ref a0), .val (.int nn), .val (.int h0_), .val (.int (8 : Int32)), .val (.int (0 : Int32)), .val (.int k1_)] [(.int k1_)])) _
    refine X0.ldcInt hx hown (mvT hZ (hw _ (List.mem_of_getElem? (i := 13) rfl))) (g := (mkF m 76 #[.val (.ref a0), .val (.int nn), .val (.int h0_), .val (.int (8 : Int32)), .val (.int (0 : Int32)), .val (.int k1_)] [(.int k1_)])) rfl (hb hby d3_76) _ ?_
    show Steps p.tables e below (s₁.setTop (mkF m 78 #[.val (.ref a0), .val (.int nn), .val (.int h0_), .val (.int (8 : Int32)), .val (.int (0 : Int32)), .val (.int k1_)] [(.int (1540483477 : Int32)), (.int k1_)])) _
    refine XS.imul X0.here hx rfl (hb hby d3_78) rfl ?_
    show Steps p.tables e below (s₁.setTop (mkF m 79 #[.val (.ref a0), .val (.int nn), .val (.int h0_), .val (.int (8 : Int32)), .val (.int (0 : Int32)), .val (.int k1_)] [(.int (k1_ * (1540483477 : Int32)))])) _
    refine XS.istore X0.here hx rfl (hb hby d3_79) rfl (l' := #[.val (.ref a0), .val (.int nn), .val (.int h0_), .val (.int (8 : Int32)), .val (.int (0 : Int32)), .val (.int (k1_ * (1540483477 : Int32)))]) rfl ?_
    show Steps p.tables e below (s₁.setTop (mkF m 81 #[.val (.ref a0), .val (.int nn), .val (.int h0_), .val (.int (8 : Int32)), .val (.int (0 : Int32)), .val (.int (k1_ * (1540483477 : Int32)))] [])) _
    refine XS.iload X0.here hx rfl (hb hby d3_81) rfl ?_
    show Steps p.tables e below (s₁.setTop (mkF m 83 #[.val (.ref a0), .val (.int nn), .val (.int h0_), .val (.int (8 : Int32)), .val (.int (0 : Int32)), .val (.int (k1_ * (1540483477 : Int32)))] [(.int (k1_ * (1540483477 : Int32)))])) _
    refine XS.iload X0.here hx rfl (hb hby d3_83) rfl ?_
    show Steps p.tables e below (s₁.setTop (mkF m 85 #[.val (.ref a0), .val (.int nn), .val (.int h0_), .val (.int (8 : Int32)), .val (.int (0 : Int32)), .val (.int (k1_ * (1540483477 : Int32)))] [(.int (k1_ * (1540483477 : Int32))), (.int (k1_ * (1540483477 : Int32)))])) _
    refine XS.bipush X0.here hx rfl (hb hby d3_85) ?_
    show Steps p.tables e below (s₁.setTop (mkF m 87 #[.val (.ref a0), .val (.int nn), .val (.int h0_), .val (.int (8 : Int32)), .val (.int (0 : Int32)), .val (.int (k1_ * (1540483477 : Int32)))] [(.int (24 : Int32)), (.int (k1_ * (1540483477 : Int32))), (.int (k1_ * (1540483477 : Int32)))])) _
    refine XS.iushr X0.here hx rfl (hb hby d3_87) rfl ?_
    show Steps p.tables e below (s₁.setTop (mkF m 88 #[.val (.ref a0), .val (.int nn), .val (.int h0_), .val (.int (8 : Int32)), .val (.int (0 : Int32)), .val (.int (k1_ * (1540483477 : Int32)))] [(.int (((k1_ * (1540483477 : Int32)).toUInt32 >>> ((24 : Int32) &&& 31).toUInt32).toInt32)), (.int (k1_ * (1540483477 : Int32)))])) _
    refine XS.ixor X0.here hx rfl (hb hby d3_88) rfl ?_
    show Steps p.tables e below (s₁.setTop (mkF m 89 #[.val (.ref a0), .val (.int nn), .val (.int h0_), .val (.int (8 : Int32)), .val (.int (0 : Int32)), .val (.int (k1_ * (1540483477 : Int32)))] [(.int ((k1_ * (1540483477 : Int32)) ^^^ (((k1_ * (1540483477 : Int32)).toUInt32 >>> ((24 : Int32) &&& 31).toUInt32).toInt32)))])) _
    refine XS.istore X0.here hx rfl (hb hby d3_89) rfl (l' := #[.val (.ref a0), .val (.int nn), .val (.int h0_), .val (.int (8 : Int32)), .val (.int (0 : Int32)), .val (.int ((k1_ * (1540483477 : Int32)) ^^^ (((k1_ * (1540483477 : Int32)).toUInt32 >>> ((24 : Int32) &&& 31).toUInt32).toInt32)))]) rfl ?_
    show Steps p.tables e below (s₁.setTop (mkF m 91 #[.val (.ref a0), .val (.int nn), .val (.int h0_), .val (.int (8 : Int32)), .val (.int (0 : Int32)), .val (.int ((k1_ * (1540483477 : Int32)) ^^^ (((k1_ * (1540483477 : Int32)).toUInt32 >>> ((24 : Int32) &&& 31).toUInt32).toInt32)))] [])) _
    refine XS.iload X0.here hx rfl (hb hby d3_91) rfl ?_
    show Steps p.tables e below (s₁.setTop (mkF m 93 #[.val (.ref a0), .val (.int nn), .val (.int h0_), .val (.int (8 : Int32)), .val (.int (0 : Int32)), .val (.int ((k1_ * (1540483477 : Int32)) ^^^ (((k1_ * (1540483477 : Int32)).toUInt32 >>> ((24 : Int32) &&& 31).toUInt32).toInt32)))] [(.int ((k1_ * (1540483477 : Int32)) ^^^ (((k1_ * (1540483477 : Int32)).toUInt32 >>> ((24 : Int32) &&& 31).toUInt32).toInt32)))])) _
    refine X0.ldcInt hx hown (mvT hZ (hw _ (List.mem_of_getElem? (i := 13) rfl))) (g := (mkF m 93 #[.val (.ref a0), .val (.int nn), .val (.int h0_), .val (.int (8 : Int32)), .val (.int (0 : Int32)), .val (.int ((k1_ * (1540483477 : Int32)) ^^^ (((k1_ * (1540483477 : Int32)).toUInt32 >>> ((24 : Int32) &&& 31).toUInt32).toInt32)))] [(.int ((k1_ * (1540483477 : Int32)) ^^^ (((k1_ * (1540483477 : Int32)).toUInt32 >>> ((24 : Int32) &&& 31).toUInt32).toInt32)))])) rfl (hb hby d3_93) _ ?_
    show Steps p.tables e below (s₁.setTop (mkF m 95 #[.val (.ref a0), .val (.int nn), .val (.int h0_), .val (.int (8 : Int32)), .val (.int (0 : Int32)), .val (.int ((k1_ * (1540483477 : Int32)) ^^^ (((k1_ * (1540483477 : Int32)).toUInt32 >>> ((24 : Int32) &&& 31).toUInt32).toInt32)))] [(.int (1540483477 : Int32)), (.int ((k1_ * (1540483477 : Int32)) ^^^ (((k1_ * (1540483477 : Int32)).toUInt32 >>> ((24 : Int32) &&& 31).toUInt32).toInt32)))])) _
    refine XS.imul X0.here hx rfl (hb hby d3_95) rfl ?_
    show Steps p.tables e below (s₁.setTop (mkF m 96 #[.val (.ref a0), .val (.int nn), .val (.int h0_), .val (.int (8 : Int32)), .val (.int (0 : Int32)), .val (.int ((k1_ * (1540483477 : Int32)) ^^^ (((k1_ * (1540483477 : Int32)).toUInt32 >>> ((24 : Int32) &&& 31).toUInt32).toInt32)))] [(.int (((k1_ * (1540483477 : Int32)) ^^^ (((k1_ * (1540483477 : Int32)).toUInt32 >>> ((24 : Int32) &&& 31).toUInt32).toInt32)) * (1540483477 : Int32)))])) _
    refine XS.istore X0.here hx rfl (hb hby d3_96) rfl (l' := #[.val (.ref a0), .val (.int nn), .val (.int h0_), .val (.int (8 : Int32)), .val (.int (0 : Int32)), .val (.int (((k1_ * (1540483477 : Int32)) ^^^ (((k1_ * (1540483477 : Int32)).toUInt32 >>> ((24 : Int32) &&& 31).toUInt32).toInt32)) * (1540483477 : Int32)))]) rfl ?_
    show Steps p.tables e below (s₁.setTop (mkF m 98 #[.val (.ref a0), .val (.int nn), .val (.int h0_), .val (.int (8 : Int32)), .val (.int (0 : Int32)), .val (.int (((k1_ * (1540483477 : Int32)) ^^^ (((k1_ * (1540483477 : Int32)).toUInt32 >>> ((24 : Int32) &&& 31).toUInt32).toInt32)) * (1540483477 : Int32)))] [])) _
    refine XS.iloadN X0.here hx rfl (hb hby d3_98) rfl ?_
    show Steps p.tables e below (s₁.setTop (mkF m 99 #[.val (.ref a0), .val (.int nn), .val (.int h0_), .val (.int (8 : Int32)), .val (.int (0 : Int32)), .val (.int (((k1_ * (1540483477 : Int32)) ^^^ (((k1_ * (1540483477 : Int32)).toUInt32 >>> ((24 : Int32) &&& 31).toUInt32).toInt32)) * (1540483477 : Int32)))] [(.int h0_)])) _
    refine X0.ldcInt hx hown (mvT hZ (hw _ (List.mem_of_getElem? (i := 13) rfl))) (g := (mkF m 99 #[.val (.ref a0), .val (.int nn), .val (.int h0_), .val (.int (8 : Int32)), .val (.int (0 : Int32)), .val (.int (((k1_ * (1540483477 : Int32)) ^^^ (((k1_ * (1540483477 : Int32)).toUInt32 >>> ((24 : Int32) &&& 31).toUInt32).toInt32)) * (1540483477 : Int32)))] [(.int h0_)])) rfl (hb hby d3_99) _ ?_
    show Steps p.tables e below (s₁.setTop (mkF m 101 #[.val (.ref a0), .val (.int nn), .val (.int h0_), .val (.int (8 : Int32)), .val (.int (0 : Int32)), .val (.int (((k1_ * (1540483477 : Int32)) ^^^ (((k1_ * (1540483477 : Int32)).toUInt32 >>> ((24 : Int32) &&& 31).toUInt32).toInt32)) * (1540483477 : Int32)))] [(.int (1540483477 : Int32)), (.int h0_)])) _
    refine XS.imul X0.here hx rfl (hb hby d3_101) rfl ?_
    show Steps p.tables e below (s₁.setTop (mkF m 102 #[.val (.ref a0), .val (.int nn), .val (.int h0_), .val (.int (8 : Int32)), .val (.int (0 : Int32)), .val (.int (((k1_ * (1540483477 : Int32)) ^^^ (((k1_ * (1540483477 : Int32)).toUInt32 >>> ((24 : Int32) &&& 31).toUInt32).toInt32)) * (1540483477 : Int32)))] [(.int (h0_ * (1540483477 : Int32)))])) _
    refine XS.istoreN X0.here hx rfl (hb hby d3_102) rfl (l' := #[.val (.ref a0), .val (.int nn), .val (.int (h0_ * (1540483477 : Int32))), .val (.int (8 : Int32)), .val (.int (0 : Int32)), .val (.int (((k1_ * (1540483477 : Int32)) ^^^ (((k1_ * (1540483477 : Int32)).toUInt32 >>> ((24 : Int32) &&& 31).toUInt32).toInt32)) * (1540483477 : Int32)))]) rfl ?_
    show Steps p.tables e below (s₁.setTop (mkF m 103 #[.val (.ref a0), .val (.int nn), .val (.int (h0_ * (1540483477 : Int32))), .val (.int (8 : Int32)), .val (.int (0 : Int32)), .val (.int (((k1_ * (1540483477 : Int32)) ^^^ (((k1_ * (1540483477 : Int32)).toUInt32 >>> ((24 : Int32) &&& 31).toUInt32).toInt32)) * (1540483477 : Int32)))] [])) _
    refine XS.iloadN X0.here hx rfl (hb hby d3_103) rfl ?_
    show Steps p.tables e below (s₁.setTop (mkF m 104 #[.val (.ref a0), .val (.int nn), .val (.int (h0_ * (1540483477 : Int32))), .val (.int (8 : Int32)), .val (.int (0 : Int32)), .val (.int (((k1_ * (1540483477 : Int32)) ^^^ (((k1_ * (1540483477 : Int32)).toUInt32 >>> ((24 : Int32) &&& 31).toUInt32).toInt32)) * (1540483477 : Int32)))] [(.int (h0_ * (1540483477 : Int32)))])) _
    refine XS.iload X0.here hx rfl (hb hby d3_104) rfl ?_
    show Steps p.tables e below (s₁.setTop (mkF m 106 #[.val (.ref a0), .val (.int nn), .val (.int (h0_ * (1540483477 : Int32))), .val (.int (8 : Int32)), .val (.int (0 : Int32)), .val (.int (((k1_ * (1540483477 : Int32)) ^^^ (((k1_ * (1540483477 : Int32)).toUInt32 >>> ((24 : Int32) &&& 31).toUInt32).toInt32)) * (1540483477 : Int32)))] [(.int (((k1_ * (1540483477 : Int32)) ^^^ (((k1_ * (1540483477 : Int32)).toUInt32 >>> ((24 : Int32) &&& 31).toUInt32).toInt32)) * (1540483477 : Int32))), (.int (h0_ * (1540483477 : Int32)))])) _
    refine XS.ixor X0.here hx rfl (hb hby d3_106) rfl ?_
    show Steps p.tables e below (s₁.setTop (mkF m 107 #[.val (.ref a0), .val (.int nn), .val (.int (h0_ * (1540483477 : Int32))), .val (.int (8 : Int32)), .val (.int (0 : Int32)), .val (.int (((k1_ * (1540483477 : Int32)) ^^^ (((k1_ * (1540483477 : Int32)).toUInt32 >>> ((24 : Int32) &&& 31).toUInt32).toInt32)) * (1540483477 : Int32)))] [(.int ((h0_ * (1540483477 : Int32)) ^^^ (((k1_ * (1540483477 : Int32)) ^^^ (((k1_ * (1540483477 : Int32)).toUInt32 >>> ((24 : Int32) &&& 31).toUInt32).toInt32)) * (1540483477 : Int32))))])) _
    rw [← h_h1_]
    show Steps p.tables e below (s₁.setTop (mkF m 107 #[.val (.ref a0), .val (.int nn), .val (.int (h0_ * (1540483477 : Int32))), .val (.int (8 : Int32)), .val (.int (0 : Int32)), .val (.int (((k1_ * (1540483477 : Int32)) ^^^ (((k1_ * (1540483477 : Int32)).toUInt32 >>> ((24 : Int32) &&& 31).toUInt32).toInt32)) * (1540483477 : Int32)))] [(.int h1_)])) _
    refine XS.istoreN X0.here hx rfl (hb hby d3_107) rfl (l' := #[.val (.ref a0), .val (.int nn), .val (.int h1_), .val (.int (8 : Int32)), .val (.int (0 : Int32)), .val (.int (((k1_ * (1540483477 : Int32)) ^^^ (((k1_ * (1540483477 : Int32)).toUInt32 >>> ((24 : Int32) &&& 31).toUInt32).toInt32)) * (1540483477 : Int32)))]) rfl ?_
    show Steps p.tables e below (s₁.setTop (mkF m 108 #[.val (.ref a0), .val (.int nn), .val (.int h1_), .val (.int (8 : Int32)), .val (.int (0 : Int32)), .val (.int (((k1_ * (1540483477 : Int32)) ^^^ (((k1_ * (1540483477 : Int32)).toUInt32 >>> ((24 : Int32) &&& 31).toUInt32).toInt32)) * (1540483477 : Int32)))] [])) _
    refine XS.iinc X0.here hx rfl (hb hby d3_108) rfl (l' := #[.val (.ref a0), .val (.int nn), .val (.int h1_), .val (.int (8 : Int32)), .val (.int ((0 : Int32) + (4 : Int32))), .val (.int (((k1_ * (1540483477 : Int32)) ^^^ (((k1_ * (1540483477 : Int32)).toUInt32 >>> ((24 : Int32) &&& 31).toUInt32).toInt32)) * (1540483477 : Int32)))]) rfl ?_
    show Steps p.tables e below (s₁.setTop (mkF m 111 #[.val (.ref a0), .val (.int nn), .val (.int h1_), .val (.int (8 : Int32)), .val (.int ((0 : Int32) + (4 : Int32))), .val (.int (((k1_ * (1540483477 : Int32)) ^^^ (((k1_ * (1540483477 : Int32)).toUInt32 >>> ((24 : Int32) &&& 31).toUInt32).toInt32)) * (1540483477 : Int32)))] [])) _
    refine XS.goto X0.here hx rfl (pc0 := 111) (pc' := 16) rfl (hb hby d3_111) (by decide) (by decide) ?_
    show Steps p.tables e below (s₁.setTop (mkF m 16 #[.val (.ref a0), .val (.int nn), .val (.int h1_), .val (.int (8 : Int32)), .val (.int ((0 : Int32) + (4 : Int32))), .val (.int (((k1_ * (1540483477 : Int32)) ^^^ (((k1_ * (1540483477 : Int32)).toUInt32 >>> ((24 : Int32) &&& 31).toUInt32).toInt32)) * (1540483477 : Int32)))] [])) _
    refine XS.iload X0.here hx rfl (hb hby d3_16) rfl ?_
    show Steps p.tables e below (s₁.setTop (mkF m 18 #[.val (.ref a0), .val (.int nn), .val (.int h1_), .val (.int (8 : Int32)), .val (.int ((0 : Int32) + (4 : Int32))), .val (.int (((k1_ * (1540483477 : Int32)) ^^^ (((k1_ * (1540483477 : Int32)).toUInt32 >>> ((24 : Int32) &&& 31).toUInt32).toInt32)) * (1540483477 : Int32)))] [(.int ((0 : Int32) + (4 : Int32)))])) _
    refine XS.iloadN X0.here hx rfl (hb hby d3_18) rfl ?_
    show Steps p.tables e below (s₁.setTop (mkF m 19 #[.val (.ref a0), .val (.int nn), .val (.int h1_), .val (.int (8 : Int32)), .val (.int ((0 : Int32) + (4 : Int32))), .val (.int (((k1_ * (1540483477 : Int32)) ^^^ (((k1_ * (1540483477 : Int32)).toUInt32 >>> ((24 : Int32) &&& 31).toUInt32).toInt32)) * (1540483477 : Int32)))] [(.int (8 : Int32)), (.int ((0 : Int32) + (4 : Int32)))])) _
    refine XS.icmpNo X0.here hx rfl (hb hby d3_19) rfl (tlt (by decide : ((0 : Int32) + (4 : Int32)) < (8 : Int32))).2.1 ?_
    show Steps p.tables e below (s₁.setTop (mkF m 22 #[.val (.ref a0), .val (.int nn), .val (.int h1_), .val (.int (8 : Int32)), .val (.int ((0 : Int32) + (4 : Int32))), .val (.int (((k1_ * (1540483477 : Int32)) ^^^ (((k1_ * (1540483477 : Int32)).toUInt32 >>> ((24 : Int32) &&& 31).toUInt32).toInt32)) * (1540483477 : Int32)))] [])) _
    refine XS.aloadN X0.here hx rfl (hb hby d3_22) rfl rfl ?_
    show Steps p.tables e below (s₁.setTop (mkF m 23 #[.val (.ref a0), .val (.int nn), .val (.int h1_), .val (.int (8 : Int32)), .val (.int ((0 : Int32) + (4 : Int32))), .val (.int (((k1_ * (1540483477 : Int32)) ^^^ (((k1_ * (1540483477 : Int32)).toUInt32 >>> ((24 : Int32) &&& 31).toUInt32).toInt32)) * (1540483477 : Int32)))] [(.ref a0)])) _
    refine XS.iload X0.here hx rfl (hb hby d3_23) rfl ?_
    show Steps p.tables e below (s₁.setTop (mkF m 25 #[.val (.ref a0), .val (.int nn), .val (.int h1_), .val (.int (8 : Int32)), .val (.int ((0 : Int32) + (4 : Int32))), .val (.int (((k1_ * (1540483477 : Int32)) ^^^ (((k1_ * (1540483477 : Int32)).toUInt32 >>> ((24 : Int32) &&& 31).toUInt32).toInt32)) * (1540483477 : Int32)))] [(.int ((0 : Int32) + (4 : Int32))), (.ref a0)])) _
    refine X0.baloadBytes hx (j := ((0 : Int32) + (4 : Int32))) (v := (.int y4)) (by rw [e0]; exact Ar6.1) (State.isArrayOf_alike hZ.alike Ar6.2.1) Ar6.2.2 hin6 hat6 (g := (mkF m 25 #[.val (.ref a0), .val (.int nn), .val (.int h1_), .val (.int (8 : Int32)), .val (.int ((0 : Int32) + (4 : Int32))), .val (.int (((k1_ * (1540483477 : Int32)) ^^^ (((k1_ * (1540483477 : Int32)).toUInt32 >>> ((24 : Int32) &&& 31).toUInt32).toInt32)) * (1540483477 : Int32)))] [(.int ((0 : Int32) + (4 : Int32))), (.ref a0)])) rfl rfl (hb hby d3_25) _ ?_
    show Steps p.tables e below (s₁.setTop (mkF m 26 #[.val (.ref a0), .val (.int nn), .val (.int h1_), .val (.int (8 : Int32)), .val (.int ((0 : Int32) + (4 : Int32))), .val (.int (((k1_ * (1540483477 : Int32)) ^^^ (((k1_ * (1540483477 : Int32)).toUInt32 >>> ((24 : Int32) &&& 31).toUInt32).toInt32)) * (1540483477 : Int32)))] [(.int y4)])) _
    refine XS.sipush X0.here hx rfl (hb hby d3_26) ?_
    show Steps p.tables e below (s₁.setTop (mkF m 29 #[.val (.ref a0), .val (.int nn), .val (.int h1_), .val (.int (8 : Int32)), .val (.int ((0 : Int32) + (4 : Int32))), .val (.int (((k1_ * (1540483477 : Int32)) ^^^ (((k1_ * (1540483477 : Int32)).toUInt32 >>> ((24 : Int32) &&& 31).toUInt32).toInt32)) * (1540483477 : Int32)))] [(.int (255 : Int32)), (.int y4)])) _
    refine XS.iand X0.here hx rfl (hb hby d3_29) rfl ?_
    show Steps p.tables e below (s₁.setTop (mkF m 30 #[.val (.ref a0), .val (.int nn), .val (.int h1_), .val (.int (8 : Int32)), .val (.int ((0 : Int32) + (4 : Int32))), .val (.int (((k1_ * (1540483477 : Int32)) ^^^ (((k1_ * (1540483477 : Int32)).toUInt32 >>> ((24 : Int32) &&& 31).toUInt32).toInt32)) * (1540483477 : Int32)))] [(.int (y4 &&& (255 : Int32)))])) _
    refine XS.aloadN X0.here hx rfl (hb hby d3_30) rfl rfl ?_
    show Steps p.tables e below (s₁.setTop (mkF m 31 #[.val (.ref a0), .val (.int nn), .val (.int h1_), .val (.int (8 : Int32)), .val (.int ((0 : Int32) + (4 : Int32))), .val (.int (((k1_ * (1540483477 : Int32)) ^^^ (((k1_ * (1540483477 : Int32)).toUInt32 >>> ((24 : Int32) &&& 31).toUInt32).toInt32)) * (1540483477 : Int32)))] [(.ref a0), (.int (y4 &&& (255 : Int32)))])) _
    refine XS.iload X0.here hx rfl (hb hby d3_31) rfl ?_
    show Steps p.tables e below (s₁.setTop (mkF m 33 #[.val (.ref a0), .val (.int nn), .val (.int h1_), .val (.int (8 : Int32)), .val (.int ((0 : Int32) + (4 : Int32))), .val (.int (((k1_ * (1540483477 : Int32)) ^^^ (((k1_ * (1540483477 : Int32)).toUInt32 >>> ((24 : Int32) &&& 31).toUInt32).toInt32)) * (1540483477 : Int32)))] [(.int ((0 : Int32) + (4 : Int32))), (.ref a0), (.int (y4 &&& (255 : Int32)))])) _
    refine XS.iconst X0.here hx rfl (hb hby d3_33) ?_
    show Steps p.tables e below (s₁.setTop (mkF m 34 #[.val (.ref a0), .val (.int nn), .val (.int h1_), .val (.int (8 : Int32)), .val (.int ((0 : Int32) + (4 : Int32))), .val (.int (((k1_ * (1540483477 : Int32)) ^^^ (((k1_ * (1540483477 : Int32)).toUInt32 >>> ((24 : Int32) &&& 31).toUInt32).toInt32)) * (1540483477 : Int32)))] [(.int (1 : Int32)), (.int ((0 : Int32) + (4 : Int32))), (.ref a0), (.int (y4 &&& (255 : Int32)))])) _
    refine XS.iadd X0.here hx rfl (hb hby d3_34) rfl ?_
    show Steps p.tables e below (s₁.setTop (mkF m 35 #[.val (.ref a0), .val (.int nn), .val (.int h1_), .val (.int (8 : Int32)), .val (.int ((0 : Int32) + (4 : Int32))), .val (.int (((k1_ * (1540483477 : Int32)) ^^^ (((k1_ * (1540483477 : Int32)).toUInt32 >>> ((24 : Int32) &&& 31).toUInt32).toInt32)) * (1540483477 : Int32)))] [(.int (((0 : Int32) + (4 : Int32)) + (1 : Int32))), (.ref a0), (.int (y4 &&& (255 : Int32)))])) _
    refine X0.baloadBytes hx (j := (((0 : Int32) + (4 : Int32)) + (1 : Int32))) (v := (.int y5)) (by rw [e0]; exact Ar7.1) (State.isArrayOf_alike hZ.alike Ar7.2.1) Ar7.2.2 hin7 hat7 (g := (mkF m 35 #[.val (.ref a0), .val (.int nn), .val (.int h1_), .val (.int (8 : Int32)), .val (.int ((0 : Int32) + (4 : Int32))), .val (.int (((k1_ * (1540483477 : Int32)) ^^^ (((k1_ * (1540483477 : Int32)).toUInt32 >>> ((24 : Int32) &&& 31).toUInt32).toInt32)) * (1540483477 : Int32)))] [(.int (((0 : Int32) + (4 : Int32)) + (1 : Int32))), (.ref a0), (.int (y4 &&& (255 : Int32)))])) rfl rfl (hb hby d3_35) _ ?_
    show Steps p.tables e below (s₁.setTop (mkF m 36 #[.val (.ref a0), .val (.int nn), .val (.int h1_), .val (.int (8 : Int32)), .val (.int ((0 : Int32) + (4 : Int32))), .val (.int (((k1_ * (1540483477 : Int32)) ^^^ (((k1_ * (1540483477 : Int32)).toUInt32 >>> ((24 : Int32) &&& 31).toUInt32).toInt32)) * (1540483477 : Int32)))] [(.int y5), (.int (y4 &&& (255 : Int32)))])) _
    refine XS.sipush X0.here hx rfl (hb hby d3_36) ?_
    show Steps p.tables e below (s₁.setTop (mkF m 39 #[.val (.ref a0), .val (.int nn), .val (.int h1_), .val (.int (8 : Int32)), .val (.int ((0 : Int32) + (4 : Int32))), .val (.int (((k1_ * (1540483477 : Int32)) ^^^ (((k1_ * (1540483477 : Int32)).toUInt32 >>> ((24 : Int32) &&& 31).toUInt32).toInt32)) * (1540483477 : Int32)))] [(.int (255 : Int32)), (.int y5), (.int (y4 &&& (255 : Int32)))])) _
    refine XS.iand X0.here hx rfl (hb hby d3_39) rfl ?_
    show Steps p.tables e below (s₁.setTop (mkF m 40 #[.val (.ref a0), .val (.int nn), .val (.int h1_), .val (.int (8 : Int32)), .val (.int ((0 : Int32) + (4 : Int32))), .val (.int (((k1_ * (1540483477 : Int32)) ^^^ (((k1_ * (1540483477 : Int32)).toUInt32 >>> ((24 : Int32) &&& 31).toUInt32).toInt32)) * (1540483477 : Int32)))] [(.int (y5 &&& (255 : Int32))), (.int (y4 &&& (255 : Int32)))])) _
    refine XS.bipush X0.here hx rfl (hb hby d3_40) ?_
    show Steps p.tables e below (s₁.setTop (mkF m 42 #[.val (.ref a0), .val (.int nn), .val (.int h1_), .val (.int (8 : Int32)), .val (.int ((0 : Int32) + (4 : Int32))), .val (.int (((k1_ * (1540483477 : Int32)) ^^^ (((k1_ * (1540483477 : Int32)).toUInt32 >>> ((24 : Int32) &&& 31).toUInt32).toInt32)) * (1540483477 : Int32)))] [(.int (8 : Int32)), (.int (y5 &&& (255 : Int32))), (.int (y4 &&& (255 : Int32)))])) _
    refine XS.ishl X0.here hx rfl (hb hby d3_42) rfl ?_
    show Steps p.tables e below (s₁.setTop (mkF m 43 #[.val (.ref a0), .val (.int nn), .val (.int h1_), .val (.int (8 : Int32)), .val (.int ((0 : Int32) + (4 : Int32))), .val (.int (((k1_ * (1540483477 : Int32)) ^^^ (((k1_ * (1540483477 : Int32)).toUInt32 >>> ((24 : Int32) &&& 31).toUInt32).toInt32)) * (1540483477 : Int32)))] [(.int ((y5 &&& (255 : Int32)) <<< ((8 : Int32) &&& 31))), (.int (y4 &&& (255 : Int32)))])) _
    refine XS.ior X0.here hx rfl (hb hby d3_43) rfl ?_
    show Steps p.tables e below (s₁.setTop (mkF m 44 #[.val (.ref a0), .val (.int nn), .val (.int h1_), .val (.int (8 : Int32)), .val (.int ((0 : Int32) + (4 : Int32))), .val (.int (((k1_ * (1540483477 : Int32)) ^^^ (((k1_ * (1540483477 : Int32)).toUInt32 >>> ((24 : Int32) &&& 31).toUInt32).toInt32)) * (1540483477 : Int32)))] [(.int ((y4 &&& (255 : Int32)) ||| ((y5 &&& (255 : Int32)) <<< ((8 : Int32) &&& 31))))])) _
    refine XS.aloadN X0.here hx rfl (hb hby d3_44) rfl rfl ?_
    show Steps p.tables e below (s₁.setTop (mkF m 45 #[.val (.ref a0), .val (.int nn), .val (.int h1_), .val (.int (8 : Int32)), .val (.int ((0 : Int32) + (4 : Int32))), .val (.int (((k1_ * (1540483477 : Int32)) ^^^ (((k1_ * (1540483477 : Int32)).toUInt32 >>> ((24 : Int32) &&& 31).toUInt32).toInt32)) * (1540483477 : Int32)))] [(.ref a0), (.int ((y4 &&& (255 : Int32)) ||| ((y5 &&& (255 : Int32)) <<< ((8 : Int32) &&& 31))))])) _
    refine XS.iload X0.here hx rfl (hb hby d3_45) rfl ?_
    show Steps p.tables e below (s₁.setTop (mkF m 47 #[.val (.ref a0), .val (.int nn), .val (.int h1_), .val (.int (8 : Int32)), .val (.int ((0 : Int32) + (4 : Int32))), .val (.int (((k1_ * (1540483477 : Int32)) ^^^ (((k1_ * (1540483477 : Int32)).toUInt32 >>> ((24 : Int32) &&& 31).toUInt32).toInt32)) * (1540483477 : Int32)))] [(.int ((0 : Int32) + (4 : Int32))), (.ref a0), (.int ((y4 &&& (255 : Int32)) ||| ((y5 &&& (255 : Int32)) <<< ((8 : Int32) &&& 31))))])) _
    refine XS.iconst X0.here hx rfl (hb hby d3_47) ?_
    show Steps p.tables e below (s₁.setTop (mkF m 48 #[.val (.ref a0), .val (.int nn), .val (.int h1_), .val (.int (8 : Int32)), .val (.int ((0 : Int32) + (4 : Int32))), .val (.int (((k1_ * (1540483477 : Int32)) ^^^ (((k1_ * (1540483477 : Int32)).toUInt32 >>> ((24 : Int32) &&& 31).toUInt32).toInt32)) * (1540483477 : Int32)))] [(.int (2 : Int32)), (.int ((0 : Int32) + (4 : Int32))), (.ref a0), (.int ((y4 &&& (255 : Int32)) ||| ((y5 &&& (255 : Int32)) <<< ((8 : Int32) &&& 31))))])) _
    refine XS.iadd X0.here hx rfl (hb hby d3_48) rfl ?_
    show Steps p.tables e below (s₁.setTop (mkF m 49 #[.val (.ref a0), .val (.int nn), .val (.int h1_), .val (.int (8 : Int32)), .val (.int ((0 : Int32) + (4 : Int32))), .val (.int (((k1_ * (1540483477 : Int32)) ^^^ (((k1_ * (1540483477 : Int32)).toUInt32 >>> ((24 : Int32) &&& 31).toUInt32).toInt32)) * (1540483477 : Int32)))] [(.int (((0 : Int32) + (4 : Int32)) + (2 : Int32))), (.ref a0), (.int ((y4 &&& (255 : Int32)) ||| ((y5 &&& (255 : Int32)) <<< ((8 : Int32) &&& 31))))])) _
    refine X0.baloadBytes hx (j := (((0 : Int32) + (4 : Int32)) + (2 : Int32))) (v := (.int y6)) (by rw [e0]; exact Ar8.1) (State.isArrayOf_alike hZ.alike Ar8.2.1) Ar8.2.2 hin8 hat8 (g := (mkF m 49 #[.val (.ref a0), .val (.int nn), .val (.int h1_), .val (.int (8 : Int32)), .val (.int ((0 : Int32) + (4 : Int32))), .val (.int (((k1_ * (1540483477 : Int32)) ^^^ (((k1_ * (1540483477 : Int32)).toUInt32 >>> ((24 : Int32) &&& 31).toUInt32).toInt32)) * (1540483477 : Int32)))] [(.int (((0 : Int32) + (4 : Int32)) + (2 : Int32))), (.ref a0), (.int ((y4 &&& (255 : Int32)) ||| ((y5 &&& (255 : Int32)) <<< ((8 : Int32) &&& 31))))])) rfl rfl (hb hby d3_49) _ ?_
    show Steps p.tables e below (s₁.setTop (mkF m 50 #[.val (.ref a0), .val (.int nn), .val (.int h1_), .val (.int (8 : Int32)), .val (.int ((0 : Int32) + (4 : Int32))), .val (.int (((k1_ * (1540483477 : Int32)) ^^^ (((k1_ * (1540483477 : Int32)).toUInt32 >>> ((24 : Int32) &&& 31).toUInt32).toInt32)) * (1540483477 : Int32)))] [(.int y6), (.int ((y4 &&& (255 : Int32)) ||| ((y5 &&& (255 : Int32)) <<< ((8 : Int32) &&& 31))))])) _
    refine XS.sipush X0.here hx rfl (hb hby d3_50) ?_
    show Steps p.tables e below (s₁.setTop (mkF m 53 #[.val (.ref a0), .val (.int nn), .val (.int h1_), .val (.int (8 : Int32)), .val (.int ((0 : Int32) + (4 : Int32))), .val (.int (((k1_ * (1540483477 : Int32)) ^^^ (((k1_ * (1540483477 : Int32)).toUInt32 >>> ((24 : Int32) &&& 31).toUInt32).toInt32)) * (1540483477 : Int32)))] [(.int (255 : Int32)), (.int y6), (.int ((y4 &&& (255 : Int32)) ||| ((y5 &&& (255 : Int32)) <<< ((8 : Int32) &&& 31))))])) _
    refine XS.iand X0.here hx rfl (hb hby d3_53) rfl ?_
    show Steps p.tables e below (s₁.setTop (mkF m 54 #[.val (.ref a0), .val (.int nn), .val (.int h1_), .val (.int (8 : Int32)), .val (.int ((0 : Int32) + (4 : Int32))), .val (.int (((k1_ * (1540483477 : Int32)) ^^^ (((k1_ * (1540483477 : Int32)).toUInt32 >>> ((24 : Int32) &&& 31).toUInt32).toInt32)) * (1540483477 : Int32)))] [(.int (y6 &&& (255 : Int32))), (.int ((y4 &&& (255 : Int32)) ||| ((y5 &&& (255 : Int32)) <<< ((8 : Int32) &&& 31))))])) _
    refine XS.bipush X0.here hx rfl (hb hby d3_54) ?_
    show Steps p.tables e below (s₁.setTop (mkF m 56 #[.val (.ref a0), .val (.int nn), .val (.int h1_), .val (.int (8 : Int32)), .val (.int ((0 : Int32) + (4 : Int32))), .val (.int (((k1_ * (1540483477 : Int32)) ^^^ (((k1_ * (1540483477 : Int32)).toUInt32 >>> ((24 : Int32) &&& 31).toUInt32).toInt32)) * (1540483477 : Int32)))] [(.int (16 : Int32)), (.int (y6 &&& (255 : Int32))), (.int ((y4 &&& (255 : Int32)) ||| ((y5 &&& (255 : Int32)) <<< ((8 : Int32) &&& 31))))])) _
    refine XS.ishl X0.here hx rfl (hb hby d3_56) rfl ?_
    show Steps p.tables e below (s₁.setTop (mkF m 57 #[.val (.ref a0), .val (.int nn), .val (.int h1_), .val (.int (8 : Int32)), .val (.int ((0 : Int32) + (4 : Int32))), .val (.int (((k1_ * (1540483477 : Int32)) ^^^ (((k1_ * (1540483477 : Int32)).toUInt32 >>> ((24 : Int32) &&& 31).toUInt32).toInt32)) * (1540483477 : Int32)))] [(.int ((y6 &&& (255 : Int32)) <<< ((16 : Int32) &&& 31))), (.int ((y4 &&& (255 : Int32)) ||| ((y5 &&& (255 : Int32)) <<< ((8 : Int32) &&& 31))))])) _
    refine XS.ior X0.here hx rfl (hb hby d3_57) rfl ?_
    show Steps p.tables e below (s₁.setTop (mkF m 58 #[.val (.ref a0), .val (.int nn), .val (.int h1_), .val (.int (8 : Int32)), .val (.int ((0 : Int32) + (4 : Int32))), .val (.int (((k1_ * (1540483477 : Int32)) ^^^ (((k1_ * (1540483477 : Int32)).toUInt32 >>> ((24 : Int32) &&& 31).toUInt32).toInt32)) * (1540483477 : Int32)))] [(.int (((y4 &&& (255 : Int32)) ||| ((y5 &&& (255 : Int32)) <<< ((8 : Int32) &&& 31))) ||| ((y6 &&& (255 : Int32)) <<< ((16 : Int32) &&& 31))))])) _
    refine XS.aloadN X0.here hx rfl (hb hby d3_58) rfl rfl ?_
    show Steps p.tables e below (s₁.setTop (mkF m 59 #[.val (.ref a0), .val (.int nn), .val (.int h1_), .val (.int (8 : Int32)), .val (.int ((0 : Int32) + (4 : Int32))), .val (.int (((k1_ * (1540483477 : Int32)) ^^^ (((k1_ * (1540483477 : Int32)).toUInt32 >>> ((24 : Int32) &&& 31).toUInt32).toInt32)) * (1540483477 : Int32)))] [(.ref a0), (.int (((y4 &&& (255 : Int32)) ||| ((y5 &&& (255 : Int32)) <<< ((8 : Int32) &&& 31))) ||| ((y6 &&& (255 : Int32)) <<< ((16 : Int32) &&& 31))))])) _
    refine XS.iload X0.here hx rfl (hb hby d3_59) rfl ?_
    show Steps p.tables e below (s₁.setTop (mkF m 61 #[.val (.ref a0), .val (.int nn), .val (.int h1_), .val (.int (8 : Int32)), .val (.int ((0 : Int32) + (4 : Int32))), .val (.int (((k1_ * (1540483477 : Int32)) ^^^ (((k1_ * (1540483477 : Int32)).toUInt32 >>> ((24 : Int32) &&& 31).toUInt32).toInt32)) * (1540483477 : Int32)))] [(.int ((0 : Int32) + (4 : Int32))), (.ref a0), (.int (((y4 &&& (255 : Int32)) ||| ((y5 &&& (255 : Int32)) <<< ((8 : Int32) &&& 31))) ||| ((y6 &&& (255 : Int32)) <<< ((16 : Int32) &&& 31))))])) _
    refine XS.iconst X0.here hx rfl (hb hby d3_61) ?_
    show Steps p.tables e below (s₁.setTop (mkF m 62 #[.val (.ref a0), .val (.int nn), .val (.int h1_), .val (.int (8 : Int32)), .val (.int ((0 : Int32) + (4 : Int32))), .val (.int (((k1_ * (1540483477 : Int32)) ^^^ (((k1_ * (1540483477 : Int32)).toUInt32 >>> ((24 : Int32) &&& 31).toUInt32).toInt32)) * (1540483477 : Int32)))] [(.int (3 : Int32)), (.int ((0 : Int32) + (4 : Int32))), (.ref a0), (.int (((y4 &&& (255 : Int32)) ||| ((y5 &&& (255 : Int32)) <<< ((8 : Int32) &&& 31))) ||| ((y6 &&& (255 : Int32)) <<< ((16 : Int32) &&& 31))))])) _
    refine XS.iadd X0.here hx rfl (hb hby d3_62) rfl ?_
    show Steps p.tables e below (s₁.setTop (mkF m 63 #[.val (.ref a0), .val (.int nn), .val (.int h1_), .val (.int (8 : Int32)), .val (.int ((0 : Int32) + (4 : Int32))), .val (.int (((k1_ * (1540483477 : Int32)) ^^^ (((k1_ * (1540483477 : Int32)).toUInt32 >>> ((24 : Int32) &&& 31).toUInt32).toInt32)) * (1540483477 : Int32)))] [(.int (((0 : Int32) + (4 : Int32)) + (3 : Int32))), (.ref a0), (.int (((y4 &&& (255 : Int32)) ||| ((y5 &&& (255 : Int32)) <<< ((8 : Int32) &&& 31))) ||| ((y6 &&& (255 : Int32)) <<< ((16 : Int32) &&& 31))))])) _
    refine X0.baloadBytes hx (j := (((0 : Int32) + (4 : Int32)) + (3 : Int32))) (v := (.int y7)) (by rw [e0]; exact Ar9.1) (State.isArrayOf_alike hZ.alike Ar9.2.1) Ar9.2.2 hin9 hat9 (g := (mkF m 63 #[.val (.ref a0), .val (.int nn), .val (.int h1_), .val (.int (8 : Int32)), .val (.int ((0 : Int32) + (4 : Int32))), .val (.int (((k1_ * (1540483477 : Int32)) ^^^ (((k1_ * (1540483477 : Int32)).toUInt32 >>> ((24 : Int32) &&& 31).toUInt32).toInt32)) * (1540483477 : Int32)))] [(.int (((0 : Int32) + (4 : Int32)) + (3 : Int32))), (.ref a0), (.int (((y4 &&& (255 : Int32)) ||| ((y5 &&& (255 : Int32)) <<< ((8 : Int32) &&& 31))) ||| ((y6 &&& (255 : Int32)) <<< ((16 : Int32) &&& 31))))])) rfl rfl (hb hby d3_63) _ ?_
    show Steps p.tables e below (s₁.setTop (mkF m 64 #[.val (.ref a0), .val (.int nn), .val (.int h1_), .val (.int (8 : Int32)), .val (.int ((0 : Int32) + (4 : Int32))), .val (.int (((k1_ * (1540483477 : Int32)) ^^^ (((k1_ * (1540483477 : Int32)).toUInt32 >>> ((24 : Int32) &&& 31).toUInt32).toInt32)) * (1540483477 : Int32)))] [(.int y7), (.int (((y4 &&& (255 : Int32)) ||| ((y5 &&& (255 : Int32)) <<< ((8 : Int32) &&& 31))) ||| ((y6 &&& (255 : Int32)) <<< ((16 : Int32) &&& 31))))])) _
    refine XS.sipush X0.here hx rfl (hb hby d3_64) ?_
    show Steps p.tables e below (s₁.setTop (mkF m 67 #[.val (.ref a0), .val (.int nn), .val (.int h1_), .val (.int (8 : Int32)), .val (.int ((0 : Int32) + (4 : Int32))), .val (.int (((k1_ * (1540483477 : Int32)) ^^^ (((k1_ * (1540483477 : Int32)).toUInt32 >>> ((24 : Int32) &&& 31).toUInt32).toInt32)) * (1540483477 : Int32)))] [(.int (255 : Int32)), (.int y7), (.int (((y4 &&& (255 : Int32)) ||| ((y5 &&& (255 : Int32)) <<< ((8 : Int32) &&& 31))) ||| ((y6 &&& (255 : Int32)) <<< ((16 : Int32) &&& 31))))])) _
    refine XS.iand X0.here hx rfl (hb hby d3_67) rfl ?_
    show Steps p.tables e below (s₁.setTop (mkF m 68 #[.val (.ref a0), .val (.int nn), .val (.int h1_), .val (.int (8 : Int32)), .val (.int ((0 : Int32) + (4 : Int32))), .val (.int (((k1_ * (1540483477 : Int32)) ^^^ (((k1_ * (1540483477 : Int32)).toUInt32 >>> ((24 : Int32) &&& 31).toUInt32).toInt32)) * (1540483477 : Int32)))] [(.int (y7 &&& (255 : Int32))), (.int (((y4 &&& (255 : Int32)) ||| ((y5 &&& (255 : Int32)) <<< ((8 : Int32) &&& 31))) ||| ((y6 &&& (255 : Int32)) <<< ((16 : Int32) &&& 31))))])) _
    refine XS.bipush X0.here hx rfl (hb hby d3_68) ?_
    show Steps p.tables e below (s₁.setTop (mkF m 70 #[.val (.ref a0), .val (.int nn), .val (.int h1_), .val (.int (8 : Int32)), .val (.int ((0 : Int32) + (4 : Int32))), .val (.int (((k1_ * (1540483477 : Int32)) ^^^ (((k1_ * (1540483477 : Int32)).toUInt32 >>> ((24 : Int32) &&& 31).toUInt32).toInt32)) * (1540483477 : Int32)))] [(.int (24 : Int32)), (.int (y7 &&& (255 : Int32))), (.int (((y4 &&& (255 : Int32)) ||| ((y5 &&& (255 : Int32)) <<< ((8 : Int32) &&& 31))) ||| ((y6 &&& (255 : Int32)) <<< ((16 : Int32) &&& 31))))])) _
    refine XS.ishl X0.here hx rfl (hb hby d3_70) rfl ?_
    show Steps p.tables e below (s₁.setTop (mkF m 71 #[.val (.ref a0), .val (.int nn), .val (.int h1_), .val (.int (8 : Int32)), .val (.int ((0 : Int32) + (4 : Int32))), .val (.int (((k1_ * (1540483477 : Int32)) ^^^ (((k1_ * (1540483477 : Int32)).toUInt32 >>> ((24 : Int32) &&& 31).toUInt32).toInt32)) * (1540483477 : Int32)))] [(.int ((y7 &&& (255 : Int32)) <<< ((24 : Int32) &&& 31))), (.int (((y4 &&& (255 : Int32)) ||| ((y5 &&& (255 : Int32)) <<< ((8 : Int32) &&& 31))) ||| ((y6 &&& (255 : Int32)) <<< ((16 : Int32) &&& 31))))])) _
    refine XS.ior X0.here hx rfl (hb hby d3_71) rfl ?_
    show Steps p.tables e below (s₁.setTop (mkF m 72 #[.val (.ref a0), .val (.int nn), .val (.int h1_), .val (.int (8 : Int32)), .val (.int ((0 : Int32) + (4 : Int32))), .val (.int (((k1_ * (1540483477 : Int32)) ^^^ (((k1_ * (1540483477 : Int32)).toUInt32 >>> ((24 : Int32) &&& 31).toUInt32).toInt32)) * (1540483477 : Int32)))] [(.int ((((y4 &&& (255 : Int32)) ||| ((y5 &&& (255 : Int32)) <<< ((8 : Int32) &&& 31))) ||| ((y6 &&& (255 : Int32)) <<< ((16 : Int32) &&& 31))) ||| ((y7 &&& (255 : Int32)) <<< ((24 : Int32) &&& 31))))])) _
    rw [← h_k2_]
    show Steps p.tables e below (s₁.setTop (mkF m 72 #[.val (.ref a0), .val (.int nn), .val (.int h1_), .val (.int (8 : Int32)), .val (.int ((0 : Int32) + (4 : Int32))), .val (.int (((k1_ * (1540483477 : Int32)) ^^^ (((k1_ * (1540483477 : Int32)).toUInt32 >>> ((24 : Int32) &&& 31).toUInt32).toInt32)) * (1540483477 : Int32)))] [(.int k2_)])) _
    refine XS.istore X0.here hx rfl (hb hby d3_72) rfl (l' := #[.val (.ref a0), .val (.int nn), .val (.int h1_), .val (.int (8 : Int32)), .val (.int ((0 : Int32) + (4 : Int32))), .val (.int k2_)]) rfl ?_
    show Steps p.tables e below (s₁.setTop (mkF m 74 #[.val (.ref a0), .val (.int nn), .val (.int h1_), .val (.int (8 : Int32)), .val (.int ((0 : Int32) + (4 : Int32))), .val (.int k2_)] [])) _
    refine XS.iload X0.here hx rfl (hb hby d3_74) rfl ?_
    show Steps p.tables e below (s₁.setTop (mkF m 76 #[.val (.ref a0), .val (.int nn), .val (.int h1_), .val (.int (8 : Int32)), .val (.int ((0 : Int32) + (4 : Int32))), .val (.int k2_)] [(.int k2_)])) _
    refine X0.ldcInt hx hown (mvT hZ (hw _ (List.mem_of_getElem? (i := 13) rfl))) (g := (mkF m 76 #[.val (.ref a0), .val (.int nn), .val (.int h1_), .val (.int (8 : Int32)), .val (.int ((0 : Int32) + (4 : Int32))), .val (.int k2_)] [(.int k2_)])) rfl (hb hby d3_76) _ ?_
    show Steps p.tables e below (s₁.setTop (mkF m 78 #[.val (.ref a0), .val (.int nn), .val (.int h1_), .val (.int (8 : Int32)), .val (.int ((0 : Int32) + (4 : Int32))), .val (.int k2_)] [(.int (1540483477 : Int32)), (.int k2_)])) _
    refine XS.imul X0.here hx rfl (hb hby d3_78) rfl ?_
    show Steps p.tables e below (s₁.setTop (mkF m 79 #[.val (.ref a0), .val (.int nn), .val (.int h1_), .val (.int (8 : Int32)), .val (.int ((0 : Int32) + (4 : Int32))), .val (.int k2_)] [(.int (k2_ * (1540483477 : Int32)))])) _
    refine XS.istore X0.here hx rfl (hb hby d3_79) rfl (l' := #[.val (.ref a0), .val (.int nn), .val (.int h1_), .val (.int (8 : Int32)), .val (.int ((0 : Int32) + (4 : Int32))), .val (.int (k2_ * (1540483477 : Int32)))]) rfl ?_
    show Steps p.tables e below (s₁.setTop (mkF m 81 #[.val (.ref a0), .val (.int nn), .val (.int h1_), .val (.int (8 : Int32)), .val (.int ((0 : Int32) + (4 : Int32))), .val (.int (k2_ * (1540483477 : Int32)))] [])) _
    refine XS.iload X0.here hx rfl (hb hby d3_81) rfl ?_
    show Steps p.tables e below (s₁.setTop (mkF m 83 #[.val (.ref a0), .val (.int nn), .val (.int h1_), .val (.int (8 : Int32)), .val (.int ((0 : Int32) + (4 : Int32))), .val (.int (k2_ * (1540483477 : Int32)))] [(.int (k2_ * (1540483477 : Int32)))])) _
    refine XS.iload X0.here hx rfl (hb hby d3_83) rfl ?_
    show Steps p.tables e below (s₁.setTop (mkF m 85 #[.val (.ref a0), .val (.int nn), .val (.int h1_), .val (.int (8 : Int32)), .val (.int ((0 : Int32) + (4 : Int32))), .val (.int (k2_ * (1540483477 : Int32)))] [(.int (k2_ * (1540483477 : Int32))), (.int (k2_ * (1540483477 : Int32)))])) _
    refine XS.bipush X0.here hx rfl (hb hby d3_85) ?_
    show Steps p.tables e below (s₁.setTop (mkF m 87 #[.val (.ref a0), .val (.int nn), .val (.int h1_), .val (.int (8 : Int32)), .val (.int ((0 : Int32) + (4 : Int32))), .val (.int (k2_ * (1540483477 : Int32)))] [(.int (24 : Int32)), (.int (k2_ * (1540483477 : Int32))), (.int (k2_ * (1540483477 : Int32)))])) _
    refine XS.iushr X0.here hx rfl (hb hby d3_87) rfl ?_
    show Steps p.tables e below (s₁.setTop (mkF m 88 #[.val (.ref a0), .val (.int nn), .val (.int h1_), .val (.int (8 : Int32)), .val (.int ((0 : Int32) + (4 : Int32))), .val (.int (k2_ * (1540483477 : Int32)))] [(.int (((k2_ * (1540483477 : Int32)).toUInt32 >>> ((24 : Int32) &&& 31).toUInt32).toInt32)), (.int (k2_ * (1540483477 : Int32)))])) _
    refine XS.ixor X0.here hx rfl (hb hby d3_88) rfl ?_
    show Steps p.tables e below (s₁.setTop (mkF m 89 #[.val (.ref a0), .val (.int nn), .val (.int h1_), .val (.int (8 : Int32)), .val (.int ((0 : Int32) + (4 : Int32))), .val (.int (k2_ * (1540483477 : Int32)))] [(.int ((k2_ * (1540483477 : Int32)) ^^^ (((k2_ * (1540483477 : Int32)).toUInt32 >>> ((24 : Int32) &&& 31).toUInt32).toInt32)))])) _
    refine XS.istore X0.here hx rfl (hb hby d3_89) rfl (l' := #[.val (.ref a0), .val (.int nn), .val (.int h1_), .val (.int (8 : Int32)), .val (.int ((0 : Int32) + (4 : Int32))), .val (.int ((k2_ * (1540483477 : Int32)) ^^^ (((k2_ * (1540483477 : Int32)).toUInt32 >>> ((24 : Int32) &&& 31).toUInt32).toInt32)))]) rfl ?_
    show Steps p.tables e below (s₁.setTop (mkF m 91 #[.val (.ref a0), .val (.int nn), .val (.int h1_), .val (.int (8 : Int32)), .val (.int ((0 : Int32) + (4 : Int32))), .val (.int ((k2_ * (1540483477 : Int32)) ^^^ (((k2_ * (1540483477 : Int32)).toUInt32 >>> ((24 : Int32) &&& 31).toUInt32).toInt32)))] [])) _
    refine XS.iload X0.here hx rfl (hb hby d3_91) rfl ?_
    show Steps p.tables e below (s₁.setTop (mkF m 93 #[.val (.ref a0), .val (.int nn), .val (.int h1_), .val (.int (8 : Int32)), .val (.int ((0 : Int32) + (4 : Int32))), .val (.int ((k2_ * (1540483477 : Int32)) ^^^ (((k2_ * (1540483477 : Int32)).toUInt32 >>> ((24 : Int32) &&& 31).toUInt32).toInt32)))] [(.int ((k2_ * (1540483477 : Int32)) ^^^ (((k2_ * (1540483477 : Int32)).toUInt32 >>> ((24 : Int32) &&& 31).toUInt32).toInt32)))])) _
    refine X0.ldcInt hx hown (mvT hZ (hw _ (List.mem_of_getElem? (i := 13) rfl))) (g := (mkF m 93 #[.val (.ref a0), .val (.int nn), .val (.int h1_), .val (.int (8 : Int32)), .val (.int ((0 : Int32) + (4 : Int32))), .val (.int ((k2_ * (1540483477 : Int32)) ^^^ (((k2_ * (1540483477 : Int32)).toUInt32 >>> ((24 : Int32) &&& 31).toUInt32).toInt32)))] [(.int ((k2_ * (1540483477 : Int32)) ^^^ (((k2_ * (1540483477 : Int32)).toUInt32 >>> ((24 : Int32) &&& 31).toUInt32).toInt32)))])) rfl (hb hby d3_93) _ ?_
    show Steps p.tables e below (s₁.setTop (mkF m 95 #[.val (.ref a0), .val (.int nn), .val (.int h1_), .val (.int (8 : Int32)), .val (.int ((0 : Int32) + (4 : Int32))), .val (.int ((k2_ * (1540483477 : Int32)) ^^^ (((k2_ * (1540483477 : Int32)).toUInt32 >>> ((24 : Int32) &&& 31).toUInt32).toInt32)))] [(.int (1540483477 : Int32)), (.int ((k2_ * (1540483477 : Int32)) ^^^ (((k2_ * (1540483477 : Int32)).toUInt32 >>> ((24 : Int32) &&& 31).toUInt32).toInt32)))])) _
    refine XS.imul X0.here hx rfl (hb hby d3_95) rfl ?_
    show Steps p.tables e below (s₁.setTop (mkF m 96 #[.val (.ref a0), .val (.int nn), .val (.int h1_), .val (.int (8 : Int32)), .val (.int ((0 : Int32) + (4 : Int32))), .val (.int ((k2_ * (1540483477 : Int32)) ^^^ (((k2_ * (1540483477 : Int32)).toUInt32 >>> ((24 : Int32) &&& 31).toUInt32).toInt32)))] [(.int (((k2_ * (1540483477 : Int32)) ^^^ (((k2_ * (1540483477 : Int32)).toUInt32 >>> ((24 : Int32) &&& 31).toUInt32).toInt32)) * (1540483477 : Int32)))])) _
    refine XS.istore X0.here hx rfl (hb hby d3_96) rfl (l' := #[.val (.ref a0), .val (.int nn), .val (.int h1_), .val (.int (8 : Int32)), .val (.int ((0 : Int32) + (4 : Int32))), .val (.int (((k2_ * (1540483477 : Int32)) ^^^ (((k2_ * (1540483477 : Int32)).toUInt32 >>> ((24 : Int32) &&& 31).toUInt32).toInt32)) * (1540483477 : Int32)))]) rfl ?_
    show Steps p.tables e below (s₁.setTop (mkF m 98 #[.val (.ref a0), .val (.int nn), .val (.int h1_), .val (.int (8 : Int32)), .val (.int ((0 : Int32) + (4 : Int32))), .val (.int (((k2_ * (1540483477 : Int32)) ^^^ (((k2_ * (1540483477 : Int32)).toUInt32 >>> ((24 : Int32) &&& 31).toUInt32).toInt32)) * (1540483477 : Int32)))] [])) _
    refine XS.iloadN X0.here hx rfl (hb hby d3_98) rfl ?_
    show Steps p.tables e below (s₁.setTop (mkF m 99 #[.val (.ref a0), .val (.int nn), .val (.int h1_), .val (.int (8 : Int32)), .val (.int ((0 : Int32) + (4 : Int32))), .val (.int (((k2_ * (1540483477 : Int32)) ^^^ (((k2_ * (1540483477 : Int32)).toUInt32 >>> ((24 : Int32) &&& 31).toUInt32).toInt32)) * (1540483477 : Int32)))] [(.int h1_)])) _
    refine X0.ldcInt hx hown (mvT hZ (hw _ (List.mem_of_getElem? (i := 13) rfl))) (g := (mkF m 99 #[.val (.ref a0), .val (.int nn), .val (.int h1_), .val (.int (8 : Int32)), .val (.int ((0 : Int32) + (4 : Int32))), .val (.int (((k2_ * (1540483477 : Int32)) ^^^ (((k2_ * (1540483477 : Int32)).toUInt32 >>> ((24 : Int32) &&& 31).toUInt32).toInt32)) * (1540483477 : Int32)))] [(.int h1_)])) rfl (hb hby d3_99) _ ?_
    show Steps p.tables e below (s₁.setTop (mkF m 101 #[.val (.ref a0), .val (.int nn), .val (.int h1_), .val (.int (8 : Int32)), .val (.int ((0 : Int32) + (4 : Int32))), .val (.int (((k2_ * (1540483477 : Int32)) ^^^ (((k2_ * (1540483477 : Int32)).toUInt32 >>> ((24 : Int32) &&& 31).toUInt32).toInt32)) * (1540483477 : Int32)))] [(.int (1540483477 : Int32)), (.int h1_)])) _
    refine XS.imul X0.here hx rfl (hb hby d3_101) rfl ?_
    show Steps p.tables e below (s₁.setTop (mkF m 102 #[.val (.ref a0), .val (.int nn), .val (.int h1_), .val (.int (8 : Int32)), .val (.int ((0 : Int32) + (4 : Int32))), .val (.int (((k2_ * (1540483477 : Int32)) ^^^ (((k2_ * (1540483477 : Int32)).toUInt32 >>> ((24 : Int32) &&& 31).toUInt32).toInt32)) * (1540483477 : Int32)))] [(.int (h1_ * (1540483477 : Int32)))])) _
    refine XS.istoreN X0.here hx rfl (hb hby d3_102) rfl (l' := #[.val (.ref a0), .val (.int nn), .val (.int (h1_ * (1540483477 : Int32))), .val (.int (8 : Int32)), .val (.int ((0 : Int32) + (4 : Int32))), .val (.int (((k2_ * (1540483477 : Int32)) ^^^ (((k2_ * (1540483477 : Int32)).toUInt32 >>> ((24 : Int32) &&& 31).toUInt32).toInt32)) * (1540483477 : Int32)))]) rfl ?_
    show Steps p.tables e below (s₁.setTop (mkF m 103 #[.val (.ref a0), .val (.int nn), .val (.int (h1_ * (1540483477 : Int32))), .val (.int (8 : Int32)), .val (.int ((0 : Int32) + (4 : Int32))), .val (.int (((k2_ * (1540483477 : Int32)) ^^^ (((k2_ * (1540483477 : Int32)).toUInt32 >>> ((24 : Int32) &&& 31).toUInt32).toInt32)) * (1540483477 : Int32)))] [])) _
    refine XS.iloadN X0.here hx rfl (hb hby d3_103) rfl ?_
    show Steps p.tables e below (s₁.setTop (mkF m 104 #[.val (.ref a0), .val (.int nn), .val (.int (h1_ * (1540483477 : Int32))), .val (.int (8 : Int32)), .val (.int ((0 : Int32) + (4 : Int32))), .val (.int (((k2_ * (1540483477 : Int32)) ^^^ (((k2_ * (1540483477 : Int32)).toUInt32 >>> ((24 : Int32) &&& 31).toUInt32).toInt32)) * (1540483477 : Int32)))] [(.int (h1_ * (1540483477 : Int32)))])) _
    refine XS.iload X0.here hx rfl (hb hby d3_104) rfl ?_
    show Steps p.tables e below (s₁.setTop (mkF m 106 #[.val (.ref a0), .val (.int nn), .val (.int (h1_ * (1540483477 : Int32))), .val (.int (8 : Int32)), .val (.int ((0 : Int32) + (4 : Int32))), .val (.int (((k2_ * (1540483477 : Int32)) ^^^ (((k2_ * (1540483477 : Int32)).toUInt32 >>> ((24 : Int32) &&& 31).toUInt32).toInt32)) * (1540483477 : Int32)))] [(.int (((k2_ * (1540483477 : Int32)) ^^^ (((k2_ * (1540483477 : Int32)).toUInt32 >>> ((24 : Int32) &&& 31).toUInt32).toInt32)) * (1540483477 : Int32))), (.int (h1_ * (1540483477 : Int32)))])) _
    refine XS.ixor X0.here hx rfl (hb hby d3_106) rfl ?_
    show Steps p.tables e below (s₁.setTop (mkF m 107 #[.val (.ref a0), .val (.int nn), .val (.int (h1_ * (1540483477 : Int32))), .val (.int (8 : Int32)), .val (.int ((0 : Int32) + (4 : Int32))), .val (.int (((k2_ * (1540483477 : Int32)) ^^^ (((k2_ * (1540483477 : Int32)).toUInt32 >>> ((24 : Int32) &&& 31).toUInt32).toInt32)) * (1540483477 : Int32)))] [(.int ((h1_ * (1540483477 : Int32)) ^^^ (((k2_ * (1540483477 : Int32)) ^^^ (((k2_ * (1540483477 : Int32)).toUInt32 >>> ((24 : Int32) &&& 31).toUInt32).toInt32)) * (1540483477 : Int32))))])) _
    rw [← h_h2_]
    show Steps p.tables e below (s₁.setTop (mkF m 107 #[.val (.ref a0), .val (.int nn), .val (.int (h1_ * (1540483477 : Int32))), .val (.int (8 : Int32)), .val (.int ((0 : Int32) + (4 : Int32))), .val (.int (((k2_ * (1540483477 : Int32)) ^^^ (((k2_ * (1540483477 : Int32)).toUInt32 >>> ((24 : Int32) &&& 31).toUInt32).toInt32)) * (1540483477 : Int32)))] [(.int h2_)])) _
    refine XS.istoreN X0.here hx rfl (hb hby d3_107) rfl (l' := #[.val (.ref a0), .val (.int nn), .val (.int h2_), .val (.int (8 : Int32)), .val (.int ((0 : Int32) + (4 : Int32))), .val (.int (((k2_ * (1540483477 : Int32)) ^^^ (((k2_ * (1540483477 : Int32)).toUInt32 >>> ((24 : Int32) &&& 31).toUInt32).toInt32)) * (1540483477 : Int32)))]) rfl ?_
    show Steps p.tables e below (s₁.setTop (mkF m 108 #[.val (.ref a0), .val (.int nn), .val (.int h2_), .val (.int (8 : Int32)), .val (.int ((0 : Int32) + (4 : Int32))), .val (.int (((k2_ * (1540483477 : Int32)) ^^^ (((k2_ * (1540483477 : Int32)).toUInt32 >>> ((24 : Int32) &&& 31).toUInt32).toInt32)) * (1540483477 : Int32)))] [])) _
    refine XS.iinc X0.here hx rfl (hb hby d3_108) rfl (l' := #[.val (.ref a0), .val (.int nn), .val (.int h2_), .val (.int (8 : Int32)), .val (.int (((0 : Int32) + (4 : Int32)) + (4 : Int32))), .val (.int (((k2_ * (1540483477 : Int32)) ^^^ (((k2_ * (1540483477 : Int32)).toUInt32 >>> ((24 : Int32) &&& 31).toUInt32).toInt32)) * (1540483477 : Int32)))]) rfl ?_
    show Steps p.tables e below (s₁.setTop (mkF m 111 #[.val (.ref a0), .val (.int nn), .val (.int h2_), .val (.int (8 : Int32)), .val (.int (((0 : Int32) + (4 : Int32)) + (4 : Int32))), .val (.int (((k2_ * (1540483477 : Int32)) ^^^ (((k2_ * (1540483477 : Int32)).toUInt32 >>> ((24 : Int32) &&& 31).toUInt32).toInt32)) * (1540483477 : Int32)))] [])) _
    refine XS.goto X0.here hx rfl (pc0 := 111) (pc' := 16) rfl (hb hby d3_111) (by decide) (by decide) ?_
    show Steps p.tables e below (s₁.setTop (mkF m 16 #[.val (.ref a0), .val (.int nn), .val (.int h2_), .val (.int (8 : Int32)), .val (.int (((0 : Int32) + (4 : Int32)) + (4 : Int32))), .val (.int (((k2_ * (1540483477 : Int32)) ^^^ (((k2_ * (1540483477 : Int32)).toUInt32 >>> ((24 : Int32) &&& 31).toUInt32).toInt32)) * (1540483477 : Int32)))] [])) _
    refine XS.iload X0.here hx rfl (hb hby d3_16) rfl ?_
    show Steps p.tables e below (s₁.setTop (mkF m 18 #[.val (.ref a0), .val (.int nn), .val (.int h2_), .val (.int (8 : Int32)), .val (.int (((0 : Int32) + (4 : Int32)) + (4 : Int32))), .val (.int (((k2_ * (1540483477 : Int32)) ^^^ (((k2_ * (1540483477 : Int32)).toUInt32 >>> ((24 : Int32) &&& 31).toUInt32).toInt32)) * (1540483477 : Int32)))] [(.int (((0 : Int32) + (4 : Int32)) + (4 : Int32)))])) _
    refine XS.iloadN X0.here hx rfl (hb hby d3_18) rfl ?_
    show Steps p.tables e below (s₁.setTop (mkF m 19 #[.val (.ref a0), .val (.int nn), .val (.int h2_), .val (.int (8 : Int32)), .val (.int (((0 : Int32) + (4 : Int32)) + (4 : Int32))), .val (.int (((k2_ * (1540483477 : Int32)) ^^^ (((k2_ * (1540483477 : Int32)).toUInt32 >>> ((24 : Int32) &&& 31).toUInt32).toInt32)) * (1540483477 : Int32)))] [(.int (8 : Int32)), (.int (((0 : Int32) + (4 : Int32)) + (4 : Int32)))])) _
    refine XS.icmpYes X0.here hx rfl (pc0 := 19) (pc' := 114) rfl (hb hby d3_19) rfl (flt (by decide : ¬ ((((0 : Int32) + (4 : Int32)) + (4 : Int32)) < (8 : Int32)))).2.1 (by decide) (by decide) ?_
    show Steps p.tables e below (s₁.setTop (mkF m 114 #[.val (.ref a0), .val (.int nn), .val (.int h2_), .val (.int (8 : Int32)), .val (.int (((0 : Int32) + (4 : Int32)) + (4 : Int32))), .val (.int (((k2_ * (1540483477 : Int32)) ^^^ (((k2_ * (1540483477 : Int32)).toUInt32 >>> ((24 : Int32) &&& 31).toUInt32).toInt32)) * (1540483477 : Int32)))] [])) _
    refine XS.iloadN X0.here hx rfl (hb hby d3_114) rfl ?_
    show Steps p.tables e below (s₁.setTop (mkF m 115 #[.val (.ref a0), .val (.int nn), .val (.int h2_), .val (.int (8 : Int32)), .val (.int (((0 : Int32) + (4 : Int32)) + (4 : Int32))), .val (.int (((k2_ * (1540483477 : Int32)) ^^^ (((k2_ * (1540483477 : Int32)).toUInt32 >>> ((24 : Int32) &&& 31).toUInt32).toInt32)) * (1540483477 : Int32)))] [(.int nn)])) _
    refine XS.iloadN X0.here hx rfl (hb hby d3_115) rfl ?_
    show Steps p.tables e below (s₁.setTop (mkF m 116 #[.val (.ref a0), .val (.int nn), .val (.int h2_), .val (.int (8 : Int32)), .val (.int (((0 : Int32) + (4 : Int32)) + (4 : Int32))), .val (.int (((k2_ * (1540483477 : Int32)) ^^^ (((k2_ * (1540483477 : Int32)).toUInt32 >>> ((24 : Int32) &&& 31).toUInt32).toInt32)) * (1540483477 : Int32)))] [(.int (8 : Int32)), (.int nn)])) _
    refine XS.isub X0.here hx rfl (hb hby d3_116) rfl ?_
    show Steps p.tables e below (s₁.setTop (mkF m 117 #[.val (.ref a0), .val (.int nn), .val (.int h2_), .val (.int (8 : Int32)), .val (.int (((0 : Int32) + (4 : Int32)) + (4 : Int32))), .val (.int (((k2_ * (1540483477 : Int32)) ^^^ (((k2_ * (1540483477 : Int32)).toUInt32 >>> ((24 : Int32) &&& 31).toUInt32).toInt32)) * (1540483477 : Int32)))] [(.int (nn - (8 : Int32)))])) _
    refine XS.istore X0.here hx rfl (hb hby d3_117) rfl (l' := #[.val (.ref a0), .val (.int nn), .val (.int h2_), .val (.int (8 : Int32)), .val (.int (nn - (8 : Int32))), .val (.int (((k2_ * (1540483477 : Int32)) ^^^ (((k2_ * (1540483477 : Int32)).toUInt32 >>> ((24 : Int32) &&& 31).toUInt32).toInt32)) * (1540483477 : Int32)))]) rfl ?_
    show Steps p.tables e below (s₁.setTop (mkF m 119 #[.val (.ref a0), .val (.int nn), .val (.int h2_), .val (.int (8 : Int32)), .val (.int (nn - (8 : Int32))), .val (.int (((k2_ * (1540483477 : Int32)) ^^^ (((k2_ * (1540483477 : Int32)).toUInt32 >>> ((24 : Int32) &&& 31).toUInt32).toInt32)) * (1540483477 : Int32)))] [])) _
    refine XS.iload X0.here hx rfl (hb hby d3_119) rfl ?_
    refine own_via (s₁.setTop (mkF m 181 #[.val (.ref a0), .val (.int nn), .val (.int (if (0 : Int32) < (nn - (8 : Int32)) then (if (3 : Int32) = (nn - (8 : Int32)) then (if (nn - (8 : Int32)) < (2 : Int32) then (((h2_ ^^^ ((y10 &&& (255 : Int32)) <<< ((16 : Int32) &&& 31))) ^^^ (y8 &&& (255 : Int32))) * (1540483477 : Int32)) else ((((h2_ ^^^ ((y10 &&& (255 : Int32)) <<< ((16 : Int32) &&& 31))) ^^^ ((y9 &&& (255 : Int32)) <<< ((8 : Int32) &&& 31))) ^^^ (y8 &&& (255 : Int32))) * (1540483477 : Int32))) else (if (nn - (8 : Int32)) < (2 : Int32) then ((h2_ ^^^ (y8 &&& (255 : Int32))) * (1540483477 : Int32)) else (((h2_ ^^^ ((y9 &&& (255 : Int32)) <<< ((8 : Int32) &&& 31))) ^^^ (y8 &&& (255 : Int32))) * (1540483477 : Int32)))) else h2_)), .val (.int (8 : Int32)), .val (.int (nn - (8 : Int32))), .val (.int (((k2_ * (1540483477 : Int32)) ^^^ (((k2_ * (1540483477 : Int32)).toUInt32 >>> ((24 : Int32) &&& 31).toUInt32).toInt32)) * (1540483477 : Int32)))] [])) (fun k => ?_) ?_
    · by_cases hc121 : (0 : Int32) < (nn - (8 : Int32))
      · show Steps p.tables e below (s₁.setTop (mkF m 121 #[.val (.ref a0), .val (.int nn), .val (.int h2_), .val (.int (8 : Int32)), .val (.int (nn - (8 : Int32))), .val (.int (((k2_ * (1540483477 : Int32)) ^^^ (((k2_ * (1540483477 : Int32)).toUInt32 >>> ((24 : Int32) &&& 31).toUInt32).toInt32)) * (1540483477 : Int32)))] [(.int (nn - (8 : Int32)))])) _
        refine XS.ifNo X0.here hx rfl (hb hby d3_121) rfl ((if0 _ _).trans (tlt hc121).2.2.2) ?_
        show Steps p.tables e below (s₁.setTop (mkF m 124 #[.val (.ref a0), .val (.int nn), .val (.int h2_), .val (.int (8 : Int32)), .val (.int (nn - (8 : Int32))), .val (.int (((k2_ * (1540483477 : Int32)) ^^^ (((k2_ * (1540483477 : Int32)).toUInt32 >>> ((24 : Int32) &&& 31).toUInt32).toInt32)) * (1540483477 : Int32)))] [])) _
        refine XS.iconst X0.here hx rfl (hb hby d3_124) ?_
        show Steps p.tables e below (s₁.setTop (mkF m 125 #[.val (.ref a0), .val (.int nn), .val (.int h2_), .val (.int (8 : Int32)), .val (.int (nn - (8 : Int32))), .val (.int (((k2_ * (1540483477 : Int32)) ^^^ (((k2_ * (1540483477 : Int32)).toUInt32 >>> ((24 : Int32) &&& 31).toUInt32).toInt32)) * (1540483477 : Int32)))] [(.int (3 : Int32))])) _
        refine XS.iload X0.here hx rfl (hb hby d3_125) rfl ?_
        by_cases hc127 : (3 : Int32) = (nn - (8 : Int32))
        · show Steps p.tables e below (s₁.setTop (mkF m 127 #[.val (.ref a0), .val (.int nn), .val (.int h2_), .val (.int (8 : Int32)), .val (.int (nn - (8 : Int32))), .val (.int (((k2_ * (1540483477 : Int32)) ^^^ (((k2_ * (1540483477 : Int32)).toUInt32 >>> ((24 : Int32) &&& 31).toUInt32).toInt32)) * (1540483477 : Int32)))] [(.int (nn - (8 : Int32))), (.int (3 : Int32))])) _
          refine XS.icmpNo X0.here hx rfl (hb hby d3_127) rfl (teq hc127).2 ?_
          show Steps p.tables e below (s₁.setTop (mkF m 130 #[.val (.ref a0), .val (.int nn), .val (.int h2_), .val (.int (8 : Int32)), .val (.int (nn - (8 : Int32))), .val (.int (((k2_ * (1540483477 : Int32)) ^^^ (((k2_ * (1540483477 : Int32)).toUInt32 >>> ((24 : Int32) &&& 31).toUInt32).toInt32)) * (1540483477 : Int32)))] [])) _
          refine XS.iloadN X0.here hx rfl (hb hby d3_130) rfl ?_
          show Steps p.tables e below (s₁.setTop (mkF m 131 #[.val (.ref a0), .val (.int nn), .val (.int h2_), .val (.int (8 : Int32)), .val (.int (nn - (8 : Int32))), .val (.int (((k2_ * (1540483477 : Int32)) ^^^ (((k2_ * (1540483477 : Int32)).toUInt32 >>> ((24 : Int32) &&& 31).toUInt32).toInt32)) * (1540483477 : Int32)))] [(.int h2_)])) _
          refine XS.aloadN X0.here hx rfl (hb hby d3_131) rfl rfl ?_
          show Steps p.tables e below (s₁.setTop (mkF m 132 #[.val (.ref a0), .val (.int nn), .val (.int h2_), .val (.int (8 : Int32)), .val (.int (nn - (8 : Int32))), .val (.int (((k2_ * (1540483477 : Int32)) ^^^ (((k2_ * (1540483477 : Int32)).toUInt32 >>> ((24 : Int32) &&& 31).toUInt32).toInt32)) * (1540483477 : Int32)))] [(.ref a0), (.int h2_)])) _
          refine XS.iloadN X0.here hx rfl (hb hby d3_132) rfl ?_
          show Steps p.tables e below (s₁.setTop (mkF m 133 #[.val (.ref a0), .val (.int nn), .val (.int h2_), .val (.int (8 : Int32)), .val (.int (nn - (8 : Int32))), .val (.int (((k2_ * (1540483477 : Int32)) ^^^ (((k2_ * (1540483477 : Int32)).toUInt32 >>> ((24 : Int32) &&& 31).toUInt32).toInt32)) * (1540483477 : Int32)))] [(.int (8 : Int32)), (.ref a0), (.int h2_)])) _
          refine XS.iconst X0.here hx rfl (hb hby d3_133) ?_
          show Steps p.tables e below (s₁.setTop (mkF m 134 #[.val (.ref a0), .val (.int nn), .val (.int h2_), .val (.int (8 : Int32)), .val (.int (nn - (8 : Int32))), .val (.int (((k2_ * (1540483477 : Int32)) ^^^ (((k2_ * (1540483477 : Int32)).toUInt32 >>> ((24 : Int32) &&& 31).toUInt32).toInt32)) * (1540483477 : Int32)))] [(.int (2 : Int32)), (.int (8 : Int32)), (.ref a0), (.int h2_)])) _
          refine XS.iadd X0.here hx rfl (hb hby d3_134) rfl ?_
          obtain ⟨cl10, Ar10, -, SS10, MM10, HH10, -⟩ := id V_a0
          have hin10 := inb_of SS10 (own_in (i := ((8 : Int32) + (2 : Int32))) (k := 10) (by decide) (by decide) (own_g2 (by decide : (8 : Int32).toInt = 8) hn hc127))
          have hat10 : cl10.slots[(((8 : Int32) + (2 : Int32))).toNatClampNeg]? = some (.int y10) := HH10.at hin10 (yat10 (own_g2 (by decide : (8 : Int32).toInt = 8) hn hc127))
          show Steps p.tables e below (s₁.setTop (mkF m 135 #[.val (.ref a0), .val (.int nn), .val (.int h2_), .val (.int (8 : Int32)), .val (.int (nn - (8 : Int32))), .val (.int (((k2_ * (1540483477 : Int32)) ^^^ (((k2_ * (1540483477 : Int32)).toUInt32 >>> ((24 : Int32) &&& 31).toUInt32).toInt32)) * (1540483477 : Int32)))] [(.int ((8 : Int32) + (2 : Int32))), (.ref a0), (.int h2_)])) _
          refine X0.baloadBytes hx (j := ((8 : Int32) + (2 : Int32))) (v := (.int y10)) (by rw [e0]; exact Ar10.1) (State.isArrayOf_alike hZ.alike Ar10.2.1) Ar10.2.2 hin10 hat10 (g := (mkF m 135 #[.val (.ref a0), .val (.int nn), .val (.int h2_), .val (.int (8 : Int32)), .val (.int (nn - (8 : Int32))), .val (.int (((k2_ * (1540483477 : Int32)) ^^^ (((k2_ * (1540483477 : Int32)).toUInt32 >>> ((24 : Int32) &&& 31).toUInt32).toInt32)) * (1540483477 : Int32)))] [(.int ((8 : Int32) + (2 : Int32))), (.ref a0), (.int h2_)])) rfl rfl (hb hby d3_135) _ ?_
          show Steps p.tables e below (s₁.setTop (mkF m 136 #[.val (.ref a0), .val (.int nn), .val (.int h2_), .val (.int (8 : Int32)), .val (.int (nn - (8 : Int32))), .val (.int (((k2_ * (1540483477 : Int32)) ^^^ (((k2_ * (1540483477 : Int32)).toUInt32 >>> ((24 : Int32) &&& 31).toUInt32).toInt32)) * (1540483477 : Int32)))] [(.int y10), (.int h2_)])) _
          refine XS.sipush X0.here hx rfl (hb hby d3_136) ?_
          show Steps p.tables e below (s₁.setTop (mkF m 139 #[.val (.ref a0), .val (.int nn), .val (.int h2_), .val (.int (8 : Int32)), .val (.int (nn - (8 : Int32))), .val (.int (((k2_ * (1540483477 : Int32)) ^^^ (((k2_ * (1540483477 : Int32)).toUInt32 >>> ((24 : Int32) &&& 31).toUInt32).toInt32)) * (1540483477 : Int32)))] [(.int (255 : Int32)), (.int y10), (.int h2_)])) _
          refine XS.iand X0.here hx rfl (hb hby d3_139) rfl ?_
          show Steps p.tables e below (s₁.setTop (mkF m 140 #[.val (.ref a0), .val (.int nn), .val (.int h2_), .val (.int (8 : Int32)), .val (.int (nn - (8 : Int32))), .val (.int (((k2_ * (1540483477 : Int32)) ^^^ (((k2_ * (1540483477 : Int32)).toUInt32 >>> ((24 : Int32) &&& 31).toUInt32).toInt32)) * (1540483477 : Int32)))] [(.int (y10 &&& (255 : Int32))), (.int h2_)])) _
          refine XS.bipush X0.here hx rfl (hb hby d3_140) ?_
          show Steps p.tables e below (s₁.setTop (mkF m 142 #[.val (.ref a0), .val (.int nn), .val (.int h2_), .val (.int (8 : Int32)), .val (.int (nn - (8 : Int32))), .val (.int (((k2_ * (1540483477 : Int32)) ^^^ (((k2_ * (1540483477 : Int32)).toUInt32 >>> ((24 : Int32) &&& 31).toUInt32).toInt32)) * (1540483477 : Int32)))] [(.int (16 : Int32)), (.int (y10 &&& (255 : Int32))), (.int h2_)])) _
          refine XS.ishl X0.here hx rfl (hb hby d3_142) rfl ?_
          show Steps p.tables e below (s₁.setTop (mkF m 143 #[.val (.ref a0), .val (.int nn), .val (.int h2_), .val (.int (8 : Int32)), .val (.int (nn - (8 : Int32))), .val (.int (((k2_ * (1540483477 : Int32)) ^^^ (((k2_ * (1540483477 : Int32)).toUInt32 >>> ((24 : Int32) &&& 31).toUInt32).toInt32)) * (1540483477 : Int32)))] [(.int ((y10 &&& (255 : Int32)) <<< ((16 : Int32) &&& 31))), (.int h2_)])) _
          refine XS.ixor X0.here hx rfl (hb hby d3_143) rfl ?_
          show Steps p.tables e below (s₁.setTop (mkF m 144 #[.val (.ref a0), .val (.int nn), .val (.int h2_), .val (.int (8 : Int32)), .val (.int (nn - (8 : Int32))), .val (.int (((k2_ * (1540483477 : Int32)) ^^^ (((k2_ * (1540483477 : Int32)).toUInt32 >>> ((24 : Int32) &&& 31).toUInt32).toInt32)) * (1540483477 : Int32)))] [(.int (h2_ ^^^ ((y10 &&& (255 : Int32)) <<< ((16 : Int32) &&& 31))))])) _
          refine XS.istoreN X0.here hx rfl (hb hby d3_144) rfl (l' := #[.val (.ref a0), .val (.int nn), .val (.int (h2_ ^^^ ((y10 &&& (255 : Int32)) <<< ((16 : Int32) &&& 31)))), .val (.int (8 : Int32)), .val (.int (nn - (8 : Int32))), .val (.int (((k2_ * (1540483477 : Int32)) ^^^ (((k2_ * (1540483477 : Int32)).toUInt32 >>> ((24 : Int32) &&& 31).toUInt32).toInt32)) * (1540483477 : Int32)))]) rfl ?_
          show Steps p.tables e below (s₁.setTop (mkF m 145 #[.val (.ref a0), .val (.int nn), .val (.int (h2_ ^^^ ((y10 &&& (255 : Int32)) <<< ((16 : Int32) &&& 31)))), .val (.int (8 : Int32)), .val (.int (nn - (8 : Int32))), .val (.int (((k2_ * (1540483477 : Int32)) ^^^ (((k2_ * (1540483477 : Int32)).toUInt32 >>> ((24 : Int32) &&& 31).toUInt32).toInt32)) * (1540483477 : Int32)))] [])) _
          refine XS.iload X0.here hx rfl (hb hby d3_145) rfl ?_
          show Steps p.tables e below (s₁.setTop (mkF m 147 #[.val (.ref a0), .val (.int nn), .val (.int (h2_ ^^^ ((y10 &&& (255 : Int32)) <<< ((16 : Int32) &&& 31)))), .val (.int (8 : Int32)), .val (.int (nn - (8 : Int32))), .val (.int (((k2_ * (1540483477 : Int32)) ^^^ (((k2_ * (1540483477 : Int32)).toUInt32 >>> ((24 : Int32) &&& 31).toUInt32).toInt32)) * (1540483477 : Int32)))] [(.int (nn - (8 : Int32)))])) _
          refine XS.iconst X0.here hx rfl (hb hby d3_147) ?_
          by_cases hc148 : (nn - (8 : Int32)) < (2 : Int32)
          · show Steps p.tables e below (s₁.setTop (mkF m 148 #[.val (.ref a0), .val (.int nn), .val (.int (h2_ ^^^ ((y10 &&& (255 : Int32)) <<< ((16 : Int32) &&& 31)))), .val (.int (8 : Int32)), .val (.int (nn - (8 : Int32))), .val (.int (((k2_ * (1540483477 : Int32)) ^^^ (((k2_ * (1540483477 : Int32)).toUInt32 >>> ((24 : Int32) &&& 31).toUInt32).toInt32)) * (1540483477 : Int32)))] [(.int (2 : Int32)), (.int (nn - (8 : Int32)))])) _
            refine XS.icmpYes X0.here hx rfl (pc0 := 148) (pc' := 166) rfl (hb hby d3_148) rfl (tlt hc148).1 (by decide) (by decide) ?_
            show Steps p.tables e below (s₁.setTop (mkF m 166 #[.val (.ref a0), .val (.int nn), .val (.int (h2_ ^^^ ((y10 &&& (255 : Int32)) <<< ((16 : Int32) &&& 31)))), .val (.int (8 : Int32)), .val (.int (nn - (8 : Int32))), .val (.int (((k2_ * (1540483477 : Int32)) ^^^ (((k2_ * (1540483477 : Int32)).toUInt32 >>> ((24 : Int32) &&& 31).toUInt32).toInt32)) * (1540483477 : Int32)))] [])) _
            refine XS.iloadN X0.here hx rfl (hb hby d3_166) rfl ?_
            show Steps p.tables e below (s₁.setTop (mkF m 167 #[.val (.ref a0), .val (.int nn), .val (.int (h2_ ^^^ ((y10 &&& (255 : Int32)) <<< ((16 : Int32) &&& 31)))), .val (.int (8 : Int32)), .val (.int (nn - (8 : Int32))), .val (.int (((k2_ * (1540483477 : Int32)) ^^^ (((k2_ * (1540483477 : Int32)).toUInt32 >>> ((24 : Int32) &&& 31).toUInt32).toInt32)) * (1540483477 : Int32)))] [(.int (h2_ ^^^ ((y10 &&& (255 : Int32)) <<< ((16 : Int32) &&& 31))))])) _
            refine XS.aloadN X0.here hx rfl (hb hby d3_167) rfl rfl ?_
            show Steps p.tables e below (s₁.setTop (mkF m 168 #[.val (.ref a0), .val (.int nn), .val (.int (h2_ ^^^ ((y10 &&& (255 : Int32)) <<< ((16 : Int32) &&& 31)))), .val (.int (8 : Int32)), .val (.int (nn - (8 : Int32))), .val (.int (((k2_ * (1540483477 : Int32)) ^^^ (((k2_ * (1540483477 : Int32)).toUInt32 >>> ((24 : Int32) &&& 31).toUInt32).toInt32)) * (1540483477 : Int32)))] [(.ref a0), (.int (h2_ ^^^ ((y10 &&& (255 : Int32)) <<< ((16 : Int32) &&& 31))))])) _
            refine XS.iloadN X0.here hx rfl (hb hby d3_168) rfl ?_
            obtain ⟨cl11, Ar11, -, SS11, MM11, HH11, -⟩ := id V_a0
            have hin11 := inb_of SS11 (own_in (i := (8 : Int32)) (k := 8) (by decide) (by decide) (own_g0 (by decide : (8 : Int32).toInt = 8) hn hc121))
            have hat11 : cl11.slots[((8 : Int32)).toNatClampNeg]? = some (.int y8) := HH11.at hin11 (yat8 (own_g0 (by decide : (8 : Int32).toInt = 8) hn hc121))
            show Steps p.tables e below (s₁.setTop (mkF m 169 #[.val (.ref a0), .val (.int nn), .val (.int (h2_ ^^^ ((y10 &&& (255 : Int32)) <<< ((16 : Int32) &&& 31)))), .val (.int (8 : Int32)), .val (.int (nn - (8 : Int32))), .val (.int (((k2_ * (1540483477 : Int32)) ^^^ (((k2_ * (1540483477 : Int32)).toUInt32 >>> ((24 : Int32) &&& 31).toUInt32).toInt32)) * (1540483477 : Int32)))] [(.int (8 : Int32)), (.ref a0), (.int (h2_ ^^^ ((y10 &&& (255 : Int32)) <<< ((16 : Int32) &&& 31))))])) _
            refine X0.baloadBytes hx (j := (8 : Int32)) (v := (.int y8)) (by rw [e0]; exact Ar11.1) (State.isArrayOf_alike hZ.alike Ar11.2.1) Ar11.2.2 hin11 hat11 (g := (mkF m 169 #[.val (.ref a0), .val (.int nn), .val (.int (h2_ ^^^ ((y10 &&& (255 : Int32)) <<< ((16 : Int32) &&& 31)))), .val (.int (8 : Int32)), .val (.int (nn - (8 : Int32))), .val (.int (((k2_ * (1540483477 : Int32)) ^^^ (((k2_ * (1540483477 : Int32)).toUInt32 >>> ((24 : Int32) &&& 31).toUInt32).toInt32)) * (1540483477 : Int32)))] [(.int (8 : Int32)), (.ref a0), (.int (h2_ ^^^ ((y10 &&& (255 : Int32)) <<< ((16 : Int32) &&& 31))))])) rfl rfl (hb hby d3_169) _ ?_
            show Steps p.tables e below (s₁.setTop (mkF m 170 #[.val (.ref a0), .val (.int nn), .val (.int (h2_ ^^^ ((y10 &&& (255 : Int32)) <<< ((16 : Int32) &&& 31)))), .val (.int (8 : Int32)), .val (.int (nn - (8 : Int32))), .val (.int (((k2_ * (1540483477 : Int32)) ^^^ (((k2_ * (1540483477 : Int32)).toUInt32 >>> ((24 : Int32) &&& 31).toUInt32).toInt32)) * (1540483477 : Int32)))] [(.int y8), (.int (h2_ ^^^ ((y10 &&& (255 : Int32)) <<< ((16 : Int32) &&& 31))))])) _
            refine XS.sipush X0.here hx rfl (hb hby d3_170) ?_
            show Steps p.tables e below (s₁.setTop (mkF m 173 #[.val (.ref a0), .val (.int nn), .val (.int (h2_ ^^^ ((y10 &&& (255 : Int32)) <<< ((16 : Int32) &&& 31)))), .val (.int (8 : Int32)), .val (.int (nn - (8 : Int32))), .val (.int (((k2_ * (1540483477 : Int32)) ^^^ (((k2_ * (1540483477 : Int32)).toUInt32 >>> ((24 : Int32) &&& 31).toUInt32).toInt32)) * (1540483477 : Int32)))] [(.int (255 : Int32)), (.int y8), (.int (h2_ ^^^ ((y10 &&& (255 : Int32)) <<< ((16 : Int32) &&& 31))))])) _
            refine XS.iand X0.here hx rfl (hb hby d3_173) rfl ?_
            show Steps p.tables e below (s₁.setTop (mkF m 174 #[.val (.ref a0), .val (.int nn), .val (.int (h2_ ^^^ ((y10 &&& (255 : Int32)) <<< ((16 : Int32) &&& 31)))), .val (.int (8 : Int32)), .val (.int (nn - (8 : Int32))), .val (.int (((k2_ * (1540483477 : Int32)) ^^^ (((k2_ * (1540483477 : Int32)).toUInt32 >>> ((24 : Int32) &&& 31).toUInt32).toInt32)) * (1540483477 : Int32)))] [(.int (y8 &&& (255 : Int32))), (.int (h2_ ^^^ ((y10 &&& (255 : Int32)) <<< ((16 : Int32) &&& 31))))])) _
            refine XS.ixor X0.here hx rfl (hb hby d3_174) rfl ?_
            show Steps p.tables e below (s₁.setTop (mkF m 175 #[.val (.ref a0), .val (.int nn), .val (.int (h2_ ^^^ ((y10 &&& (255 : Int32)) <<< ((16 : Int32) &&& 31)))), .val (.int (8 : Int32)), .val (.int (nn - (8 : Int32))), .val (.int (((k2_ * (1540483477 : Int32)) ^^^ (((k2_ * (1540483477 : Int32)).toUInt32 >>> ((24 : Int32) &&& 31).toUInt32).toInt32)) * (1540483477 : Int32)))] [(.int ((h2_ ^^^ ((y10 &&& (255 : Int32)) <<< ((16 : Int32) &&& 31))) ^^^ (y8 &&& (255 : Int32))))])) _
            refine XS.istoreN X0.here hx rfl (hb hby d3_175) rfl (l' := #[.val (.ref a0), .val (.int nn), .val (.int ((h2_ ^^^ ((y10 &&& (255 : Int32)) <<< ((16 : Int32) &&& 31))) ^^^ (y8 &&& (255 : Int32)))), .val (.int (8 : Int32)), .val (.int (nn - (8 : Int32))), .val (.int (((k2_ * (1540483477 : Int32)) ^^^ (((k2_ * (1540483477 : Int32)).toUInt32 >>> ((24 : Int32) &&& 31).toUInt32).toInt32)) * (1540483477 : Int32)))]) rfl ?_
            show Steps p.tables e below (s₁.setTop (mkF m 176 #[.val (.ref a0), .val (.int nn), .val (.int ((h2_ ^^^ ((y10 &&& (255 : Int32)) <<< ((16 : Int32) &&& 31))) ^^^ (y8 &&& (255 : Int32)))), .val (.int (8 : Int32)), .val (.int (nn - (8 : Int32))), .val (.int (((k2_ * (1540483477 : Int32)) ^^^ (((k2_ * (1540483477 : Int32)).toUInt32 >>> ((24 : Int32) &&& 31).toUInt32).toInt32)) * (1540483477 : Int32)))] [])) _
            refine XS.iloadN X0.here hx rfl (hb hby d3_176) rfl ?_
            show Steps p.tables e below (s₁.setTop (mkF m 177 #[.val (.ref a0), .val (.int nn), .val (.int ((h2_ ^^^ ((y10 &&& (255 : Int32)) <<< ((16 : Int32) &&& 31))) ^^^ (y8 &&& (255 : Int32)))), .val (.int (8 : Int32)), .val (.int (nn - (8 : Int32))), .val (.int (((k2_ * (1540483477 : Int32)) ^^^ (((k2_ * (1540483477 : Int32)).toUInt32 >>> ((24 : Int32) &&& 31).toUInt32).toInt32)) * (1540483477 : Int32)))] [(.int ((h2_ ^^^ ((y10 &&& (255 : Int32)) <<< ((16 : Int32) &&& 31))) ^^^ (y8 &&& (255 : Int32))))])) _
            refine X0.ldcInt hx hown (mvT hZ (hw _ (List.mem_of_getElem? (i := 13) rfl))) (g := (mkF m 177 #[.val (.ref a0), .val (.int nn), .val (.int ((h2_ ^^^ ((y10 &&& (255 : Int32)) <<< ((16 : Int32) &&& 31))) ^^^ (y8 &&& (255 : Int32)))), .val (.int (8 : Int32)), .val (.int (nn - (8 : Int32))), .val (.int (((k2_ * (1540483477 : Int32)) ^^^ (((k2_ * (1540483477 : Int32)).toUInt32 >>> ((24 : Int32) &&& 31).toUInt32).toInt32)) * (1540483477 : Int32)))] [(.int ((h2_ ^^^ ((y10 &&& (255 : Int32)) <<< ((16 : Int32) &&& 31))) ^^^ (y8 &&& (255 : Int32))))])) rfl (hb hby d3_177) _ ?_
            show Steps p.tables e below (s₁.setTop (mkF m 179 #[.val (.ref a0), .val (.int nn), .val (.int ((h2_ ^^^ ((y10 &&& (255 : Int32)) <<< ((16 : Int32) &&& 31))) ^^^ (y8 &&& (255 : Int32)))), .val (.int (8 : Int32)), .val (.int (nn - (8 : Int32))), .val (.int (((k2_ * (1540483477 : Int32)) ^^^ (((k2_ * (1540483477 : Int32)).toUInt32 >>> ((24 : Int32) &&& 31).toUInt32).toInt32)) * (1540483477 : Int32)))] [(.int (1540483477 : Int32)), (.int ((h2_ ^^^ ((y10 &&& (255 : Int32)) <<< ((16 : Int32) &&& 31))) ^^^ (y8 &&& (255 : Int32))))])) _
            refine XS.imul X0.here hx rfl (hb hby d3_179) rfl ?_
            show Steps p.tables e below (s₁.setTop (mkF m 180 #[.val (.ref a0), .val (.int nn), .val (.int ((h2_ ^^^ ((y10 &&& (255 : Int32)) <<< ((16 : Int32) &&& 31))) ^^^ (y8 &&& (255 : Int32)))), .val (.int (8 : Int32)), .val (.int (nn - (8 : Int32))), .val (.int (((k2_ * (1540483477 : Int32)) ^^^ (((k2_ * (1540483477 : Int32)).toUInt32 >>> ((24 : Int32) &&& 31).toUInt32).toInt32)) * (1540483477 : Int32)))] [(.int (((h2_ ^^^ ((y10 &&& (255 : Int32)) <<< ((16 : Int32) &&& 31))) ^^^ (y8 &&& (255 : Int32))) * (1540483477 : Int32)))])) _
            refine XS.istoreN X0.here hx rfl (hb hby d3_180) rfl (l' := #[.val (.ref a0), .val (.int nn), .val (.int (((h2_ ^^^ ((y10 &&& (255 : Int32)) <<< ((16 : Int32) &&& 31))) ^^^ (y8 &&& (255 : Int32))) * (1540483477 : Int32))), .val (.int (8 : Int32)), .val (.int (nn - (8 : Int32))), .val (.int (((k2_ * (1540483477 : Int32)) ^^^ (((k2_ * (1540483477 : Int32)).toUInt32 >>> ((24 : Int32) &&& 31).toUInt32).toInt32)) * (1540483477 : Int32)))]) rfl ?_
            try simp only [if_pos hc121, if_pos hc127, if_pos hc148] at k
            exact k
          · show Steps p.tables e below (s₁.setTop (mkF m 148 #[.val (.ref a0), .val (.int nn), .val (.int (h2_ ^^^ ((y10 &&& (255 : Int32)) <<< ((16 : Int32) &&& 31)))), .val (.int (8 : Int32)), .val (.int (nn - (8 : Int32))), .val (.int (((k2_ * (1540483477 : Int32)) ^^^ (((k2_ * (1540483477 : Int32)).toUInt32 >>> ((24 : Int32) &&& 31).toUInt32).toInt32)) * (1540483477 : Int32)))] [(.int (2 : Int32)), (.int (nn - (8 : Int32)))])) _
            refine XS.icmpNo X0.here hx rfl (hb hby d3_148) rfl (flt hc148).1 ?_
            show Steps p.tables e below (s₁.setTop (mkF m 151 #[.val (.ref a0), .val (.int nn), .val (.int (h2_ ^^^ ((y10 &&& (255 : Int32)) <<< ((16 : Int32) &&& 31)))), .val (.int (8 : Int32)), .val (.int (nn - (8 : Int32))), .val (.int (((k2_ * (1540483477 : Int32)) ^^^ (((k2_ * (1540483477 : Int32)).toUInt32 >>> ((24 : Int32) &&& 31).toUInt32).toInt32)) * (1540483477 : Int32)))] [])) _
            refine XS.iloadN X0.here hx rfl (hb hby d3_151) rfl ?_
            show Steps p.tables e below (s₁.setTop (mkF m 152 #[.val (.ref a0), .val (.int nn), .val (.int (h2_ ^^^ ((y10 &&& (255 : Int32)) <<< ((16 : Int32) &&& 31)))), .val (.int (8 : Int32)), .val (.int (nn - (8 : Int32))), .val (.int (((k2_ * (1540483477 : Int32)) ^^^ (((k2_ * (1540483477 : Int32)).toUInt32 >>> ((24 : Int32) &&& 31).toUInt32).toInt32)) * (1540483477 : Int32)))] [(.int (h2_ ^^^ ((y10 &&& (255 : Int32)) <<< ((16 : Int32) &&& 31))))])) _
            refine XS.aloadN X0.here hx rfl (hb hby d3_152) rfl rfl ?_
            show Steps p.tables e below (s₁.setTop (mkF m 153 #[.val (.ref a0), .val (.int nn), .val (.int (h2_ ^^^ ((y10 &&& (255 : Int32)) <<< ((16 : Int32) &&& 31)))), .val (.int (8 : Int32)), .val (.int (nn - (8 : Int32))), .val (.int (((k2_ * (1540483477 : Int32)) ^^^ (((k2_ * (1540483477 : Int32)).toUInt32 >>> ((24 : Int32) &&& 31).toUInt32).toInt32)) * (1540483477 : Int32)))] [(.ref a0), (.int (h2_ ^^^ ((y10 &&& (255 : Int32)) <<< ((16 : Int32) &&& 31))))])) _
            refine XS.iloadN X0.here hx rfl (hb hby d3_153) rfl ?_
            show Steps p.tables e below (s₁.setTop (mkF m 154 #[.val (.ref a0), .val (.int nn), .val (.int (h2_ ^^^ ((y10 &&& (255 : Int32)) <<< ((16 : Int32) &&& 31)))), .val (.int (8 : Int32)), .val (.int (nn - (8 : Int32))), .val (.int (((k2_ * (1540483477 : Int32)) ^^^ (((k2_ * (1540483477 : Int32)).toUInt32 >>> ((24 : Int32) &&& 31).toUInt32).toInt32)) * (1540483477 : Int32)))] [(.int (8 : Int32)), (.ref a0), (.int (h2_ ^^^ ((y10 &&& (255 : Int32)) <<< ((16 : Int32) &&& 31))))])) _
            refine XS.iconst X0.here hx rfl (hb hby d3_154) ?_
            show Steps p.tables e below (s₁.setTop (mkF m 155 #[.val (.ref a0), .val (.int nn), .val (.int (h2_ ^^^ ((y10 &&& (255 : Int32)) <<< ((16 : Int32) &&& 31)))), .val (.int (8 : Int32)), .val (.int (nn - (8 : Int32))), .val (.int (((k2_ * (1540483477 : Int32)) ^^^ (((k2_ * (1540483477 : Int32)).toUInt32 >>> ((24 : Int32) &&& 31).toUInt32).toInt32)) * (1540483477 : Int32)))] [(.int (1 : Int32)), (.int (8 : Int32)), (.ref a0), (.int (h2_ ^^^ ((y10 &&& (255 : Int32)) <<< ((16 : Int32) &&& 31))))])) _
            refine XS.iadd X0.here hx rfl (hb hby d3_155) rfl ?_
            obtain ⟨cl12, Ar12, -, SS12, MM12, HH12, -⟩ := id V_a0
            have hin12 := inb_of SS12 (own_in (i := ((8 : Int32) + (1 : Int32))) (k := 9) (by decide) (by decide) (own_g1 (by decide : (8 : Int32).toInt = 8) hn hc148))
            have hat12 : cl12.slots[(((8 : Int32) + (1 : Int32))).toNatClampNeg]? = some (.int y9) := HH12.at hin12 (yat9 (own_g1 (by decide : (8 : Int32).toInt = 8) hn hc148))
            show Steps p.tables e below (s₁.setTop (mkF m 156 #[.val (.ref a0), .val (.int nn), .val (.int (h2_ ^^^ ((y10 &&& (255 : Int32)) <<< ((16 : Int32) &&& 31)))), .val (.int (8 : Int32)), .val (.int (nn - (8 : Int32))), .val (.int (((k2_ * (1540483477 : Int32)) ^^^ (((k2_ * (1540483477 : Int32)).toUInt32 >>> ((24 : Int32) &&& 31).toUInt32).toInt32)) * (1540483477 : Int32)))] [(.int ((8 : Int32) + (1 : Int32))), (.ref a0), (.int (h2_ ^^^ ((y10 &&& (255 : Int32)) <<< ((16 : Int32) &&& 31))))])) _
            refine X0.baloadBytes hx (j := ((8 : Int32) + (1 : Int32))) (v := (.int y9)) (by rw [e0]; exact Ar12.1) (State.isArrayOf_alike hZ.alike Ar12.2.1) Ar12.2.2 hin12 hat12 (g := (mkF m 156 #[.val (.ref a0), .val (.int nn), .val (.int (h2_ ^^^ ((y10 &&& (255 : Int32)) <<< ((16 : Int32) &&& 31)))), .val (.int (8 : Int32)), .val (.int (nn - (8 : Int32))), .val (.int (((k2_ * (1540483477 : Int32)) ^^^ (((k2_ * (1540483477 : Int32)).toUInt32 >>> ((24 : Int32) &&& 31).toUInt32).toInt32)) * (1540483477 : Int32)))] [(.int ((8 : Int32) + (1 : Int32))), (.ref a0), (.int (h2_ ^^^ ((y10 &&& (255 : Int32)) <<< ((16 : Int32) &&& 31))))])) rfl rfl (hb hby d3_156) _ ?_
            show Steps p.tables e below (s₁.setTop (mkF m 157 #[.val (.ref a0), .val (.int nn), .val (.int (h2_ ^^^ ((y10 &&& (255 : Int32)) <<< ((16 : Int32) &&& 31)))), .val (.int (8 : Int32)), .val (.int (nn - (8 : Int32))), .val (.int (((k2_ * (1540483477 : Int32)) ^^^ (((k2_ * (1540483477 : Int32)).toUInt32 >>> ((24 : Int32) &&& 31).toUInt32).toInt32)) * (1540483477 : Int32)))] [(.int y9), (.int (h2_ ^^^ ((y10 &&& (255 : Int32)) <<< ((16 : Int32) &&& 31))))])) _
            refine XS.sipush X0.here hx rfl (hb hby d3_157) ?_
            show Steps p.tables e below (s₁.setTop (mkF m 160 #[.val (.ref a0), .val (.int nn), .val (.int (h2_ ^^^ ((y10 &&& (255 : Int32)) <<< ((16 : Int32) &&& 31)))), .val (.int (8 : Int32)), .val (.int (nn - (8 : Int32))), .val (.int (((k2_ * (1540483477 : Int32)) ^^^ (((k2_ * (1540483477 : Int32)).toUInt32 >>> ((24 : Int32) &&& 31).toUInt32).toInt32)) * (1540483477 : Int32)))] [(.int (255 : Int32)), (.int y9), (.int (h2_ ^^^ ((y10 &&& (255 : Int32)) <<< ((16 : Int32) &&& 31))))])) _
            refine XS.iand X0.here hx rfl (hb hby d3_160) rfl ?_
            show Steps p.tables e below (s₁.setTop (mkF m 161 #[.val (.ref a0), .val (.int nn), .val (.int (h2_ ^^^ ((y10 &&& (255 : Int32)) <<< ((16 : Int32) &&& 31)))), .val (.int (8 : Int32)), .val (.int (nn - (8 : Int32))), .val (.int (((k2_ * (1540483477 : Int32)) ^^^ (((k2_ * (1540483477 : Int32)).toUInt32 >>> ((24 : Int32) &&& 31).toUInt32).toInt32)) * (1540483477 : Int32)))] [(.int (y9 &&& (255 : Int32))), (.int (h2_ ^^^ ((y10 &&& (255 : Int32)) <<< ((16 : Int32) &&& 31))))])) _
            refine XS.bipush X0.here hx rfl (hb hby d3_161) ?_
            show Steps p.tables e below (s₁.setTop (mkF m 163 #[.val (.ref a0), .val (.int nn), .val (.int (h2_ ^^^ ((y10 &&& (255 : Int32)) <<< ((16 : Int32) &&& 31)))), .val (.int (8 : Int32)), .val (.int (nn - (8 : Int32))), .val (.int (((k2_ * (1540483477 : Int32)) ^^^ (((k2_ * (1540483477 : Int32)).toUInt32 >>> ((24 : Int32) &&& 31).toUInt32).toInt32)) * (1540483477 : Int32)))] [(.int (8 : Int32)), (.int (y9 &&& (255 : Int32))), (.int (h2_ ^^^ ((y10 &&& (255 : Int32)) <<< ((16 : Int32) &&& 31))))])) _
            refine XS.ishl X0.here hx rfl (hb hby d3_163) rfl ?_
            show Steps p.tables e below (s₁.setTop (mkF m 164 #[.val (.ref a0), .val (.int nn), .val (.int (h2_ ^^^ ((y10 &&& (255 : Int32)) <<< ((16 : Int32) &&& 31)))), .val (.int (8 : Int32)), .val (.int (nn - (8 : Int32))), .val (.int (((k2_ * (1540483477 : Int32)) ^^^ (((k2_ * (1540483477 : Int32)).toUInt32 >>> ((24 : Int32) &&& 31).toUInt32).toInt32)) * (1540483477 : Int32)))] [(.int ((y9 &&& (255 : Int32)) <<< ((8 : Int32) &&& 31))), (.int (h2_ ^^^ ((y10 &&& (255 : Int32)) <<< ((16 : Int32) &&& 31))))])) _
            refine XS.ixor X0.here hx rfl (hb hby d3_164) rfl ?_
            show Steps p.tables e below (s₁.setTop (mkF m 165 #[.val (.ref a0), .val (.int nn), .val (.int (h2_ ^^^ ((y10 &&& (255 : Int32)) <<< ((16 : Int32) &&& 31)))), .val (.int (8 : Int32)), .val (.int (nn - (8 : Int32))), .val (.int (((k2_ * (1540483477 : Int32)) ^^^ (((k2_ * (1540483477 : Int32)).toUInt32 >>> ((24 : Int32) &&& 31).toUInt32).toInt32)) * (1540483477 : Int32)))] [(.int ((h2_ ^^^ ((y10 &&& (255 : Int32)) <<< ((16 : Int32) &&& 31))) ^^^ ((y9 &&& (255 : Int32)) <<< ((8 : Int32) &&& 31))))])) _
            refine XS.istoreN X0.here hx rfl (hb hby d3_165) rfl (l' := #[.val (.ref a0), .val (.int nn), .val (.int ((h2_ ^^^ ((y10 &&& (255 : Int32)) <<< ((16 : Int32) &&& 31))) ^^^ ((y9 &&& (255 : Int32)) <<< ((8 : Int32) &&& 31)))), .val (.int (8 : Int32)), .val (.int (nn - (8 : Int32))), .val (.int (((k2_ * (1540483477 : Int32)) ^^^ (((k2_ * (1540483477 : Int32)).toUInt32 >>> ((24 : Int32) &&& 31).toUInt32).toInt32)) * (1540483477 : Int32)))]) rfl ?_
            show Steps p.tables e below (s₁.setTop (mkF m 166 #[.val (.ref a0), .val (.int nn), .val (.int ((h2_ ^^^ ((y10 &&& (255 : Int32)) <<< ((16 : Int32) &&& 31))) ^^^ ((y9 &&& (255 : Int32)) <<< ((8 : Int32) &&& 31)))), .val (.int (8 : Int32)), .val (.int (nn - (8 : Int32))), .val (.int (((k2_ * (1540483477 : Int32)) ^^^ (((k2_ * (1540483477 : Int32)).toUInt32 >>> ((24 : Int32) &&& 31).toUInt32).toInt32)) * (1540483477 : Int32)))] [])) _
            refine XS.iloadN X0.here hx rfl (hb hby d3_166) rfl ?_
            show Steps p.tables e below (s₁.setTop (mkF m 167 #[.val (.ref a0), .val (.int nn), .val (.int ((h2_ ^^^ ((y10 &&& (255 : Int32)) <<< ((16 : Int32) &&& 31))) ^^^ ((y9 &&& (255 : Int32)) <<< ((8 : Int32) &&& 31)))), .val (.int (8 : Int32)), .val (.int (nn - (8 : Int32))), .val (.int (((k2_ * (1540483477 : Int32)) ^^^ (((k2_ * (1540483477 : Int32)).toUInt32 >>> ((24 : Int32) &&& 31).toUInt32).toInt32)) * (1540483477 : Int32)))] [(.int ((h2_ ^^^ ((y10 &&& (255 : Int32)) <<< ((16 : Int32) &&& 31))) ^^^ ((y9 &&& (255 : Int32)) <<< ((8 : Int32) &&& 31))))])) _
            refine XS.aloadN X0.here hx rfl (hb hby d3_167) rfl rfl ?_
            show Steps p.tables e below (s₁.setTop (mkF m 168 #[.val (.ref a0), .val (.int nn), .val (.int ((h2_ ^^^ ((y10 &&& (255 : Int32)) <<< ((16 : Int32) &&& 31))) ^^^ ((y9 &&& (255 : Int32)) <<< ((8 : Int32) &&& 31)))), .val (.int (8 : Int32)), .val (.int (nn - (8 : Int32))), .val (.int (((k2_ * (1540483477 : Int32)) ^^^ (((k2_ * (1540483477 : Int32)).toUInt32 >>> ((24 : Int32) &&& 31).toUInt32).toInt32)) * (1540483477 : Int32)))] [(.ref a0), (.int ((h2_ ^^^ ((y10 &&& (255 : Int32)) <<< ((16 : Int32) &&& 31))) ^^^ ((y9 &&& (255 : Int32)) <<< ((8 : Int32) &&& 31))))])) _
            refine XS.iloadN X0.here hx rfl (hb hby d3_168) rfl ?_
            obtain ⟨cl13, Ar13, -, SS13, MM13, HH13, -⟩ := id V_a0
            have hin13 := inb_of SS13 (own_in (i := (8 : Int32)) (k := 8) (by decide) (by decide) (own_g0 (by decide : (8 : Int32).toInt = 8) hn hc121))
            have hat13 : cl13.slots[((8 : Int32)).toNatClampNeg]? = some (.int y8) := HH13.at hin13 (yat8 (own_g0 (by decide : (8 : Int32).toInt = 8) hn hc121))
            show Steps p.tables e below (s₁.setTop (mkF m 169 #[.val (.ref a0), .val (.int nn), .val (.int ((h2_ ^^^ ((y10 &&& (255 : Int32)) <<< ((16 : Int32) &&& 31))) ^^^ ((y9 &&& (255 : Int32)) <<< ((8 : Int32) &&& 31)))), .val (.int (8 : Int32)), .val (.int (nn - (8 : Int32))), .val (.int (((k2_ * (1540483477 : Int32)) ^^^ (((k2_ * (1540483477 : Int32)).toUInt32 >>> ((24 : Int32) &&& 31).toUInt32).toInt32)) * (1540483477 : Int32)))] [(.int (8 : Int32)), (.ref a0), (.int ((h2_ ^^^ ((y10 &&& (255 : Int32)) <<< ((16 : Int32) &&& 31))) ^^^ ((y9 &&& (255 : Int32)) <<< ((8 : Int32) &&& 31))))])) _
            refine X0.baloadBytes hx (j := (8 : Int32)) (v := (.int y8)) (by rw [e0]; exact Ar13.1) (State.isArrayOf_alike hZ.alike Ar13.2.1) Ar13.2.2 hin13 hat13 (g := (mkF m 169 #[.val (.ref a0), .val (.int nn), .val (.int ((h2_ ^^^ ((y10 &&& (255 : Int32)) <<< ((16 : Int32) &&& 31))) ^^^ ((y9 &&& (255 : Int32)) <<< ((8 : Int32) &&& 31)))), .val (.int (8 : Int32)), .val (.int (nn - (8 : Int32))), .val (.int (((k2_ * (1540483477 : Int32)) ^^^ (((k2_ * (1540483477 : Int32)).toUInt32 >>> ((24 : Int32) &&& 31).toUInt32).toInt32)) * (1540483477 : Int32)))] [(.int (8 : Int32)), (.ref a0), (.int ((h2_ ^^^ ((y10 &&& (255 : Int32)) <<< ((16 : Int32) &&& 31))) ^^^ ((y9 &&& (255 : Int32)) <<< ((8 : Int32) &&& 31))))])) rfl rfl (hb hby d3_169) _ ?_
            show Steps p.tables e below (s₁.setTop (mkF m 170 #[.val (.ref a0), .val (.int nn), .val (.int ((h2_ ^^^ ((y10 &&& (255 : Int32)) <<< ((16 : Int32) &&& 31))) ^^^ ((y9 &&& (255 : Int32)) <<< ((8 : Int32) &&& 31)))), .val (.int (8 : Int32)), .val (.int (nn - (8 : Int32))), .val (.int (((k2_ * (1540483477 : Int32)) ^^^ (((k2_ * (1540483477 : Int32)).toUInt32 >>> ((24 : Int32) &&& 31).toUInt32).toInt32)) * (1540483477 : Int32)))] [(.int y8), (.int ((h2_ ^^^ ((y10 &&& (255 : Int32)) <<< ((16 : Int32) &&& 31))) ^^^ ((y9 &&& (255 : Int32)) <<< ((8 : Int32) &&& 31))))])) _
            refine XS.sipush X0.here hx rfl (hb hby d3_170) ?_
            show Steps p.tables e below (s₁.setTop (mkF m 173 #[.val (.ref a0), .val (.int nn), .val (.int ((h2_ ^^^ ((y10 &&& (255 : Int32)) <<< ((16 : Int32) &&& 31))) ^^^ ((y9 &&& (255 : Int32)) <<< ((8 : Int32) &&& 31)))), .val (.int (8 : Int32)), .val (.int (nn - (8 : Int32))), .val (.int (((k2_ * (1540483477 : Int32)) ^^^ (((k2_ * (1540483477 : Int32)).toUInt32 >>> ((24 : Int32) &&& 31).toUInt32).toInt32)) * (1540483477 : Int32)))] [(.int (255 : Int32)), (.int y8), (.int ((h2_ ^^^ ((y10 &&& (255 : Int32)) <<< ((16 : Int32) &&& 31))) ^^^ ((y9 &&& (255 : Int32)) <<< ((8 : Int32) &&& 31))))])) _
            refine XS.iand X0.here hx rfl (hb hby d3_173) rfl ?_
            show Steps p.tables e below (s₁.setTop (mkF m 174 #[.val (.ref a0), .val (.int nn), .val (.int ((h2_ ^^^ ((y10 &&& (255 : Int32)) <<< ((16 : Int32) &&& 31))) ^^^ ((y9 &&& (255 : Int32)) <<< ((8 : Int32) &&& 31)))), .val (.int (8 : Int32)), .val (.int (nn - (8 : Int32))), .val (.int (((k2_ * (1540483477 : Int32)) ^^^ (((k2_ * (1540483477 : Int32)).toUInt32 >>> ((24 : Int32) &&& 31).toUInt32).toInt32)) * (1540483477 : Int32)))] [(.int (y8 &&& (255 : Int32))), (.int ((h2_ ^^^ ((y10 &&& (255 : Int32)) <<< ((16 : Int32) &&& 31))) ^^^ ((y9 &&& (255 : Int32)) <<< ((8 : Int32) &&& 31))))])) _
            refine XS.ixor X0.here hx rfl (hb hby d3_174) rfl ?_
            show Steps p.tables e below (s₁.setTop (mkF m 175 #[.val (.ref a0), .val (.int nn), .val (.int ((h2_ ^^^ ((y10 &&& (255 : Int32)) <<< ((16 : Int32) &&& 31))) ^^^ ((y9 &&& (255 : Int32)) <<< ((8 : Int32) &&& 31)))), .val (.int (8 : Int32)), .val (.int (nn - (8 : Int32))), .val (.int (((k2_ * (1540483477 : Int32)) ^^^ (((k2_ * (1540483477 : Int32)).toUInt32 >>> ((24 : Int32) &&& 31).toUInt32).toInt32)) * (1540483477 : Int32)))] [(.int (((h2_ ^^^ ((y10 &&& (255 : Int32)) <<< ((16 : Int32) &&& 31))) ^^^ ((y9 &&& (255 : Int32)) <<< ((8 : Int32) &&& 31))) ^^^ (y8 &&& (255 : Int32))))])) _
            refine XS.istoreN X0.here hx rfl (hb hby d3_175) rfl (l' := #[.val (.ref a0), .val (.int nn), .val (.int (((h2_ ^^^ ((y10 &&& (255 : Int32)) <<< ((16 : Int32) &&& 31))) ^^^ ((y9 &&& (255 : Int32)) <<< ((8 : Int32) &&& 31))) ^^^ (y8 &&& (255 : Int32)))), .val (.int (8 : Int32)), .val (.int (nn - (8 : Int32))), .val (.int (((k2_ * (1540483477 : Int32)) ^^^ (((k2_ * (1540483477 : Int32)).toUInt32 >>> ((24 : Int32) &&& 31).toUInt32).toInt32)) * (1540483477 : Int32)))]) rfl ?_
            show Steps p.tables e below (s₁.setTop (mkF m 176 #[.val (.ref a0), .val (.int nn), .val (.int (((h2_ ^^^ ((y10 &&& (255 : Int32)) <<< ((16 : Int32) &&& 31))) ^^^ ((y9 &&& (255 : Int32)) <<< ((8 : Int32) &&& 31))) ^^^ (y8 &&& (255 : Int32)))), .val (.int (8 : Int32)), .val (.int (nn - (8 : Int32))), .val (.int (((k2_ * (1540483477 : Int32)) ^^^ (((k2_ * (1540483477 : Int32)).toUInt32 >>> ((24 : Int32) &&& 31).toUInt32).toInt32)) * (1540483477 : Int32)))] [])) _
            refine XS.iloadN X0.here hx rfl (hb hby d3_176) rfl ?_
            show Steps p.tables e below (s₁.setTop (mkF m 177 #[.val (.ref a0), .val (.int nn), .val (.int (((h2_ ^^^ ((y10 &&& (255 : Int32)) <<< ((16 : Int32) &&& 31))) ^^^ ((y9 &&& (255 : Int32)) <<< ((8 : Int32) &&& 31))) ^^^ (y8 &&& (255 : Int32)))), .val (.int (8 : Int32)), .val (.int (nn - (8 : Int32))), .val (.int (((k2_ * (1540483477 : Int32)) ^^^ (((k2_ * (1540483477 : Int32)).toUInt32 >>> ((24 : Int32) &&& 31).toUInt32).toInt32)) * (1540483477 : Int32)))] [(.int (((h2_ ^^^ ((y10 &&& (255 : Int32)) <<< ((16 : Int32) &&& 31))) ^^^ ((y9 &&& (255 : Int32)) <<< ((8 : Int32) &&& 31))) ^^^ (y8 &&& (255 : Int32))))])) _
            refine X0.ldcInt hx hown (mvT hZ (hw _ (List.mem_of_getElem? (i := 13) rfl))) (g := (mkF m 177 #[.val (.ref a0), .val (.int nn), .val (.int (((h2_ ^^^ ((y10 &&& (255 : Int32)) <<< ((16 : Int32) &&& 31))) ^^^ ((y9 &&& (255 : Int32)) <<< ((8 : Int32) &&& 31))) ^^^ (y8 &&& (255 : Int32)))), .val (.int (8 : Int32)), .val (.int (nn - (8 : Int32))), .val (.int (((k2_ * (1540483477 : Int32)) ^^^ (((k2_ * (1540483477 : Int32)).toUInt32 >>> ((24 : Int32) &&& 31).toUInt32).toInt32)) * (1540483477 : Int32)))] [(.int (((h2_ ^^^ ((y10 &&& (255 : Int32)) <<< ((16 : Int32) &&& 31))) ^^^ ((y9 &&& (255 : Int32)) <<< ((8 : Int32) &&& 31))) ^^^ (y8 &&& (255 : Int32))))])) rfl (hb hby d3_177) _ ?_
            show Steps p.tables e below (s₁.setTop (mkF m 179 #[.val (.ref a0), .val (.int nn), .val (.int (((h2_ ^^^ ((y10 &&& (255 : Int32)) <<< ((16 : Int32) &&& 31))) ^^^ ((y9 &&& (255 : Int32)) <<< ((8 : Int32) &&& 31))) ^^^ (y8 &&& (255 : Int32)))), .val (.int (8 : Int32)), .val (.int (nn - (8 : Int32))), .val (.int (((k2_ * (1540483477 : Int32)) ^^^ (((k2_ * (1540483477 : Int32)).toUInt32 >>> ((24 : Int32) &&& 31).toUInt32).toInt32)) * (1540483477 : Int32)))] [(.int (1540483477 : Int32)), (.int (((h2_ ^^^ ((y10 &&& (255 : Int32)) <<< ((16 : Int32) &&& 31))) ^^^ ((y9 &&& (255 : Int32)) <<< ((8 : Int32) &&& 31))) ^^^ (y8 &&& (255 : Int32))))])) _
            refine XS.imul X0.here hx rfl (hb hby d3_179) rfl ?_
            show Steps p.tables e below (s₁.setTop (mkF m 180 #[.val (.ref a0), .val (.int nn), .val (.int (((h2_ ^^^ ((y10 &&& (255 : Int32)) <<< ((16 : Int32) &&& 31))) ^^^ ((y9 &&& (255 : Int32)) <<< ((8 : Int32) &&& 31))) ^^^ (y8 &&& (255 : Int32)))), .val (.int (8 : Int32)), .val (.int (nn - (8 : Int32))), .val (.int (((k2_ * (1540483477 : Int32)) ^^^ (((k2_ * (1540483477 : Int32)).toUInt32 >>> ((24 : Int32) &&& 31).toUInt32).toInt32)) * (1540483477 : Int32)))] [(.int ((((h2_ ^^^ ((y10 &&& (255 : Int32)) <<< ((16 : Int32) &&& 31))) ^^^ ((y9 &&& (255 : Int32)) <<< ((8 : Int32) &&& 31))) ^^^ (y8 &&& (255 : Int32))) * (1540483477 : Int32)))])) _
            refine XS.istoreN X0.here hx rfl (hb hby d3_180) rfl (l' := #[.val (.ref a0), .val (.int nn), .val (.int ((((h2_ ^^^ ((y10 &&& (255 : Int32)) <<< ((16 : Int32) &&& 31))) ^^^ ((y9 &&& (255 : Int32)) <<< ((8 : Int32) &&& 31))) ^^^ (y8 &&& (255 : Int32))) * (1540483477 : Int32))), .val (.int (8 : Int32)), .val (.int (nn - (8 : Int32))), .val (.int (((k2_ * (1540483477 : Int32)) ^^^ (((k2_ * (1540483477 : Int32)).toUInt32 >>> ((24 : Int32) &&& 31).toUInt32).toInt32)) * (1540483477 : Int32)))]) rfl ?_
            try simp only [if_pos hc121, if_pos hc127, if_neg hc148] at k
            exact k
        · show Steps p.tables e below (s₁.setTop (mkF m 127 #[.val (.ref a0), .val (.int nn), .val (.int h2_), .val (.int (8 : Int32)), .val (.int (nn - (8 : Int32))), .val (.int (((k2_ * (1540483477 : Int32)) ^^^ (((k2_ * (1540483477 : Int32)).toUInt32 >>> ((24 : Int32) &&& 31).toUInt32).toInt32)) * (1540483477 : Int32)))] [(.int (nn - (8 : Int32))), (.int (3 : Int32))])) _
          refine XS.icmpYes X0.here hx rfl (pc0 := 127) (pc' := 145) rfl (hb hby d3_127) rfl (feq hc127).2 (by decide) (by decide) ?_
          show Steps p.tables e below (s₁.setTop (mkF m 145 #[.val (.ref a0), .val (.int nn), .val (.int h2_), .val (.int (8 : Int32)), .val (.int (nn - (8 : Int32))), .val (.int (((k2_ * (1540483477 : Int32)) ^^^ (((k2_ * (1540483477 : Int32)).toUInt32 >>> ((24 : Int32) &&& 31).toUInt32).toInt32)) * (1540483477 : Int32)))] [])) _
          refine XS.iload X0.here hx rfl (hb hby d3_145) rfl ?_
          show Steps p.tables e below (s₁.setTop (mkF m 147 #[.val (.ref a0), .val (.int nn), .val (.int h2_), .val (.int (8 : Int32)), .val (.int (nn - (8 : Int32))), .val (.int (((k2_ * (1540483477 : Int32)) ^^^ (((k2_ * (1540483477 : Int32)).toUInt32 >>> ((24 : Int32) &&& 31).toUInt32).toInt32)) * (1540483477 : Int32)))] [(.int (nn - (8 : Int32)))])) _
          refine XS.iconst X0.here hx rfl (hb hby d3_147) ?_
          by_cases hc148 : (nn - (8 : Int32)) < (2 : Int32)
          · show Steps p.tables e below (s₁.setTop (mkF m 148 #[.val (.ref a0), .val (.int nn), .val (.int h2_), .val (.int (8 : Int32)), .val (.int (nn - (8 : Int32))), .val (.int (((k2_ * (1540483477 : Int32)) ^^^ (((k2_ * (1540483477 : Int32)).toUInt32 >>> ((24 : Int32) &&& 31).toUInt32).toInt32)) * (1540483477 : Int32)))] [(.int (2 : Int32)), (.int (nn - (8 : Int32)))])) _
            refine XS.icmpYes X0.here hx rfl (pc0 := 148) (pc' := 166) rfl (hb hby d3_148) rfl (tlt hc148).1 (by decide) (by decide) ?_
            show Steps p.tables e below (s₁.setTop (mkF m 166 #[.val (.ref a0), .val (.int nn), .val (.int h2_), .val (.int (8 : Int32)), .val (.int (nn - (8 : Int32))), .val (.int (((k2_ * (1540483477 : Int32)) ^^^ (((k2_ * (1540483477 : Int32)).toUInt32 >>> ((24 : Int32) &&& 31).toUInt32).toInt32)) * (1540483477 : Int32)))] [])) _
            refine XS.iloadN X0.here hx rfl (hb hby d3_166) rfl ?_
            show Steps p.tables e below (s₁.setTop (mkF m 167 #[.val (.ref a0), .val (.int nn), .val (.int h2_), .val (.int (8 : Int32)), .val (.int (nn - (8 : Int32))), .val (.int (((k2_ * (1540483477 : Int32)) ^^^ (((k2_ * (1540483477 : Int32)).toUInt32 >>> ((24 : Int32) &&& 31).toUInt32).toInt32)) * (1540483477 : Int32)))] [(.int h2_)])) _
            refine XS.aloadN X0.here hx rfl (hb hby d3_167) rfl rfl ?_
            show Steps p.tables e below (s₁.setTop (mkF m 168 #[.val (.ref a0), .val (.int nn), .val (.int h2_), .val (.int (8 : Int32)), .val (.int (nn - (8 : Int32))), .val (.int (((k2_ * (1540483477 : Int32)) ^^^ (((k2_ * (1540483477 : Int32)).toUInt32 >>> ((24 : Int32) &&& 31).toUInt32).toInt32)) * (1540483477 : Int32)))] [(.ref a0), (.int h2_)])) _
            refine XS.iloadN X0.here hx rfl (hb hby d3_168) rfl ?_
            obtain ⟨cl14, Ar14, -, SS14, MM14, HH14, -⟩ := id V_a0
            have hin14 := inb_of SS14 (own_in (i := (8 : Int32)) (k := 8) (by decide) (by decide) (own_g0 (by decide : (8 : Int32).toInt = 8) hn hc121))
            have hat14 : cl14.slots[((8 : Int32)).toNatClampNeg]? = some (.int y8) := HH14.at hin14 (yat8 (own_g0 (by decide : (8 : Int32).toInt = 8) hn hc121))
            show Steps p.tables e below (s₁.setTop (mkF m 169 #[.val (.ref a0), .val (.int nn), .val (.int h2_), .val (.int (8 : Int32)), .val (.int (nn - (8 : Int32))), .val (.int (((k2_ * (1540483477 : Int32)) ^^^ (((k2_ * (1540483477 : Int32)).toUInt32 >>> ((24 : Int32) &&& 31).toUInt32).toInt32)) * (1540483477 : Int32)))] [(.int (8 : Int32)), (.ref a0), (.int h2_)])) _
            refine X0.baloadBytes hx (j := (8 : Int32)) (v := (.int y8)) (by rw [e0]; exact Ar14.1) (State.isArrayOf_alike hZ.alike Ar14.2.1) Ar14.2.2 hin14 hat14 (g := (mkF m 169 #[.val (.ref a0), .val (.int nn), .val (.int h2_), .val (.int (8 : Int32)), .val (.int (nn - (8 : Int32))), .val (.int (((k2_ * (1540483477 : Int32)) ^^^ (((k2_ * (1540483477 : Int32)).toUInt32 >>> ((24 : Int32) &&& 31).toUInt32).toInt32)) * (1540483477 : Int32)))] [(.int (8 : Int32)), (.ref a0), (.int h2_)])) rfl rfl (hb hby d3_169) _ ?_
            show Steps p.tables e below (s₁.setTop (mkF m 170 #[.val (.ref a0), .val (.int nn), .val (.int h2_), .val (.int (8 : Int32)), .val (.int (nn - (8 : Int32))), .val (.int (((k2_ * (1540483477 : Int32)) ^^^ (((k2_ * (1540483477 : Int32)).toUInt32 >>> ((24 : Int32) &&& 31).toUInt32).toInt32)) * (1540483477 : Int32)))] [(.int y8), (.int h2_)])) _
            refine XS.sipush X0.here hx rfl (hb hby d3_170) ?_
            show Steps p.tables e below (s₁.setTop (mkF m 173 #[.val (.ref a0), .val (.int nn), .val (.int h2_), .val (.int (8 : Int32)), .val (.int (nn - (8 : Int32))), .val (.int (((k2_ * (1540483477 : Int32)) ^^^ (((k2_ * (1540483477 : Int32)).toUInt32 >>> ((24 : Int32) &&& 31).toUInt32).toInt32)) * (1540483477 : Int32)))] [(.int (255 : Int32)), (.int y8), (.int h2_)])) _
            refine XS.iand X0.here hx rfl (hb hby d3_173) rfl ?_
            show Steps p.tables e below (s₁.setTop (mkF m 174 #[.val (.ref a0), .val (.int nn), .val (.int h2_), .val (.int (8 : Int32)), .val (.int (nn - (8 : Int32))), .val (.int (((k2_ * (1540483477 : Int32)) ^^^ (((k2_ * (1540483477 : Int32)).toUInt32 >>> ((24 : Int32) &&& 31).toUInt32).toInt32)) * (1540483477 : Int32)))] [(.int (y8 &&& (255 : Int32))), (.int h2_)])) _
            refine XS.ixor X0.here hx rfl (hb hby d3_174) rfl ?_
            show Steps p.tables e below (s₁.setTop (mkF m 175 #[.val (.ref a0), .val (.int nn), .val (.int h2_), .val (.int (8 : Int32)), .val (.int (nn - (8 : Int32))), .val (.int (((k2_ * (1540483477 : Int32)) ^^^ (((k2_ * (1540483477 : Int32)).toUInt32 >>> ((24 : Int32) &&& 31).toUInt32).toInt32)) * (1540483477 : Int32)))] [(.int (h2_ ^^^ (y8 &&& (255 : Int32))))])) _
            refine XS.istoreN X0.here hx rfl (hb hby d3_175) rfl (l' := #[.val (.ref a0), .val (.int nn), .val (.int (h2_ ^^^ (y8 &&& (255 : Int32)))), .val (.int (8 : Int32)), .val (.int (nn - (8 : Int32))), .val (.int (((k2_ * (1540483477 : Int32)) ^^^ (((k2_ * (1540483477 : Int32)).toUInt32 >>> ((24 : Int32) &&& 31).toUInt32).toInt32)) * (1540483477 : Int32)))]) rfl ?_
            show Steps p.tables e below (s₁.setTop (mkF m 176 #[.val (.ref a0), .val (.int nn), .val (.int (h2_ ^^^ (y8 &&& (255 : Int32)))), .val (.int (8 : Int32)), .val (.int (nn - (8 : Int32))), .val (.int (((k2_ * (1540483477 : Int32)) ^^^ (((k2_ * (1540483477 : Int32)).toUInt32 >>> ((24 : Int32) &&& 31).toUInt32).toInt32)) * (1540483477 : Int32)))] [])) _
            refine XS.iloadN X0.here hx rfl (hb hby d3_176) rfl ?_
            show Steps p.tables e below (s₁.setTop (mkF m 177 #[.val (.ref a0), .val (.int nn), .val (.int (h2_ ^^^ (y8 &&& (255 : Int32)))), .val (.int (8 : Int32)), .val (.int (nn - (8 : Int32))), .val (.int (((k2_ * (1540483477 : Int32)) ^^^ (((k2_ * (1540483477 : Int32)).toUInt32 >>> ((24 : Int32) &&& 31).toUInt32).toInt32)) * (1540483477 : Int32)))] [(.int (h2_ ^^^ (y8 &&& (255 : Int32))))])) _
            refine X0.ldcInt hx hown (mvT hZ (hw _ (List.mem_of_getElem? (i := 13) rfl))) (g := (mkF m 177 #[.val (.ref a0), .val (.int nn), .val (.int (h2_ ^^^ (y8 &&& (255 : Int32)))), .val (.int (8 : Int32)), .val (.int (nn - (8 : Int32))), .val (.int (((k2_ * (1540483477 : Int32)) ^^^ (((k2_ * (1540483477 : Int32)).toUInt32 >>> ((24 : Int32) &&& 31).toUInt32).toInt32)) * (1540483477 : Int32)))] [(.int (h2_ ^^^ (y8 &&& (255 : Int32))))])) rfl (hb hby d3_177) _ ?_
            show Steps p.tables e below (s₁.setTop (mkF m 179 #[.val (.ref a0), .val (.int nn), .val (.int (h2_ ^^^ (y8 &&& (255 : Int32)))), .val (.int (8 : Int32)), .val (.int (nn - (8 : Int32))), .val (.int (((k2_ * (1540483477 : Int32)) ^^^ (((k2_ * (1540483477 : Int32)).toUInt32 >>> ((24 : Int32) &&& 31).toUInt32).toInt32)) * (1540483477 : Int32)))] [(.int (1540483477 : Int32)), (.int (h2_ ^^^ (y8 &&& (255 : Int32))))])) _
            refine XS.imul X0.here hx rfl (hb hby d3_179) rfl ?_
            show Steps p.tables e below (s₁.setTop (mkF m 180 #[.val (.ref a0), .val (.int nn), .val (.int (h2_ ^^^ (y8 &&& (255 : Int32)))), .val (.int (8 : Int32)), .val (.int (nn - (8 : Int32))), .val (.int (((k2_ * (1540483477 : Int32)) ^^^ (((k2_ * (1540483477 : Int32)).toUInt32 >>> ((24 : Int32) &&& 31).toUInt32).toInt32)) * (1540483477 : Int32)))] [(.int ((h2_ ^^^ (y8 &&& (255 : Int32))) * (1540483477 : Int32)))])) _
            refine XS.istoreN X0.here hx rfl (hb hby d3_180) rfl (l' := #[.val (.ref a0), .val (.int nn), .val (.int ((h2_ ^^^ (y8 &&& (255 : Int32))) * (1540483477 : Int32))), .val (.int (8 : Int32)), .val (.int (nn - (8 : Int32))), .val (.int (((k2_ * (1540483477 : Int32)) ^^^ (((k2_ * (1540483477 : Int32)).toUInt32 >>> ((24 : Int32) &&& 31).toUInt32).toInt32)) * (1540483477 : Int32)))]) rfl ?_
            try simp only [if_pos hc121, if_neg hc127, if_pos hc148] at k
            exact k
          · show Steps p.tables e below (s₁.setTop (mkF m 148 #[.val (.ref a0), .val (.int nn), .val (.int h2_), .val (.int (8 : Int32)), .val (.int (nn - (8 : Int32))), .val (.int (((k2_ * (1540483477 : Int32)) ^^^ (((k2_ * (1540483477 : Int32)).toUInt32 >>> ((24 : Int32) &&& 31).toUInt32).toInt32)) * (1540483477 : Int32)))] [(.int (2 : Int32)), (.int (nn - (8 : Int32)))])) _
            refine XS.icmpNo X0.here hx rfl (hb hby d3_148) rfl (flt hc148).1 ?_
            show Steps p.tables e below (s₁.setTop (mkF m 151 #[.val (.ref a0), .val (.int nn), .val (.int h2_), .val (.int (8 : Int32)), .val (.int (nn - (8 : Int32))), .val (.int (((k2_ * (1540483477 : Int32)) ^^^ (((k2_ * (1540483477 : Int32)).toUInt32 >>> ((24 : Int32) &&& 31).toUInt32).toInt32)) * (1540483477 : Int32)))] [])) _
            refine XS.iloadN X0.here hx rfl (hb hby d3_151) rfl ?_
            show Steps p.tables e below (s₁.setTop (mkF m 152 #[.val (.ref a0), .val (.int nn), .val (.int h2_), .val (.int (8 : Int32)), .val (.int (nn - (8 : Int32))), .val (.int (((k2_ * (1540483477 : Int32)) ^^^ (((k2_ * (1540483477 : Int32)).toUInt32 >>> ((24 : Int32) &&& 31).toUInt32).toInt32)) * (1540483477 : Int32)))] [(.int h2_)])) _
            refine XS.aloadN X0.here hx rfl (hb hby d3_152) rfl rfl ?_
            show Steps p.tables e below (s₁.setTop (mkF m 153 #[.val (.ref a0), .val (.int nn), .val (.int h2_), .val (.int (8 : Int32)), .val (.int (nn - (8 : Int32))), .val (.int (((k2_ * (1540483477 : Int32)) ^^^ (((k2_ * (1540483477 : Int32)).toUInt32 >>> ((24 : Int32) &&& 31).toUInt32).toInt32)) * (1540483477 : Int32)))] [(.ref a0), (.int h2_)])) _
            refine XS.iloadN X0.here hx rfl (hb hby d3_153) rfl ?_
            show Steps p.tables e below (s₁.setTop (mkF m 154 #[.val (.ref a0), .val (.int nn), .val (.int h2_), .val (.int (8 : Int32)), .val (.int (nn - (8 : Int32))), .val (.int (((k2_ * (1540483477 : Int32)) ^^^ (((k2_ * (1540483477 : Int32)).toUInt32 >>> ((24 : Int32) &&& 31).toUInt32).toInt32)) * (1540483477 : Int32)))] [(.int (8 : Int32)), (.ref a0), (.int h2_)])) _
            refine XS.iconst X0.here hx rfl (hb hby d3_154) ?_
            show Steps p.tables e below (s₁.setTop (mkF m 155 #[.val (.ref a0), .val (.int nn), .val (.int h2_), .val (.int (8 : Int32)), .val (.int (nn - (8 : Int32))), .val (.int (((k2_ * (1540483477 : Int32)) ^^^ (((k2_ * (1540483477 : Int32)).toUInt32 >>> ((24 : Int32) &&& 31).toUInt32).toInt32)) * (1540483477 : Int32)))] [(.int (1 : Int32)), (.int (8 : Int32)), (.ref a0), (.int h2_)])) _
            refine XS.iadd X0.here hx rfl (hb hby d3_155) rfl ?_
            obtain ⟨cl15, Ar15, -, SS15, MM15, HH15, -⟩ := id V_a0
            have hin15 := inb_of SS15 (own_in (i := ((8 : Int32) + (1 : Int32))) (k := 9) (by decide) (by decide) (own_g1 (by decide : (8 : Int32).toInt = 8) hn hc148))
            have hat15 : cl15.slots[(((8 : Int32) + (1 : Int32))).toNatClampNeg]? = some (.int y9) := HH15.at hin15 (yat9 (own_g1 (by decide : (8 : Int32).toInt = 8) hn hc148))
            show Steps p.tables e below (s₁.setTop (mkF m 156 #[.val (.ref a0), .val (.int nn), .val (.int h2_), .val (.int (8 : Int32)), .val (.int (nn - (8 : Int32))), .val (.int (((k2_ * (1540483477 : Int32)) ^^^ (((k2_ * (1540483477 : Int32)).toUInt32 >>> ((24 : Int32) &&& 31).toUInt32).toInt32)) * (1540483477 : Int32)))] [(.int ((8 : Int32) + (1 : Int32))), (.ref a0), (.int h2_)])) _
            refine X0.baloadBytes hx (j := ((8 : Int32) + (1 : Int32))) (v := (.int y9)) (by rw [e0]; exact Ar15.1) (State.isArrayOf_alike hZ.alike Ar15.2.1) Ar15.2.2 hin15 hat15 (g := (mkF m 156 #[.val (.ref a0), .val (.int nn), .val (.int h2_), .val (.int (8 : Int32)), .val (.int (nn - (8 : Int32))), .val (.int (((k2_ * (1540483477 : Int32)) ^^^ (((k2_ * (1540483477 : Int32)).toUInt32 >>> ((24 : Int32) &&& 31).toUInt32).toInt32)) * (1540483477 : Int32)))] [(.int ((8 : Int32) + (1 : Int32))), (.ref a0), (.int h2_)])) rfl rfl (hb hby d3_156) _ ?_
            show Steps p.tables e below (s₁.setTop (mkF m 157 #[.val (.ref a0), .val (.int nn), .val (.int h2_), .val (.int (8 : Int32)), .val (.int (nn - (8 : Int32))), .val (.int (((k2_ * (1540483477 : Int32)) ^^^ (((k2_ * (1540483477 : Int32)).toUInt32 >>> ((24 : Int32) &&& 31).toUInt32).toInt32)) * (1540483477 : Int32)))] [(.int y9), (.int h2_)])) _
            refine XS.sipush X0.here hx rfl (hb hby d3_157) ?_
            show Steps p.tables e below (s₁.setTop (mkF m 160 #[.val (.ref a0), .val (.int nn), .val (.int h2_), .val (.int (8 : Int32)), .val (.int (nn - (8 : Int32))), .val (.int (((k2_ * (1540483477 : Int32)) ^^^ (((k2_ * (1540483477 : Int32)).toUInt32 >>> ((24 : Int32) &&& 31).toUInt32).toInt32)) * (1540483477 : Int32)))] [(.int (255 : Int32)), (.int y9), (.int h2_)])) _
            refine XS.iand X0.here hx rfl (hb hby d3_160) rfl ?_
            show Steps p.tables e below (s₁.setTop (mkF m 161 #[.val (.ref a0), .val (.int nn), .val (.int h2_), .val (.int (8 : Int32)), .val (.int (nn - (8 : Int32))), .val (.int (((k2_ * (1540483477 : Int32)) ^^^ (((k2_ * (1540483477 : Int32)).toUInt32 >>> ((24 : Int32) &&& 31).toUInt32).toInt32)) * (1540483477 : Int32)))] [(.int (y9 &&& (255 : Int32))), (.int h2_)])) _
            refine XS.bipush X0.here hx rfl (hb hby d3_161) ?_
            show Steps p.tables e below (s₁.setTop (mkF m 163 #[.val (.ref a0), .val (.int nn), .val (.int h2_), .val (.int (8 : Int32)), .val (.int (nn - (8 : Int32))), .val (.int (((k2_ * (1540483477 : Int32)) ^^^ (((k2_ * (1540483477 : Int32)).toUInt32 >>> ((24 : Int32) &&& 31).toUInt32).toInt32)) * (1540483477 : Int32)))] [(.int (8 : Int32)), (.int (y9 &&& (255 : Int32))), (.int h2_)])) _
            refine XS.ishl X0.here hx rfl (hb hby d3_163) rfl ?_
            show Steps p.tables e below (s₁.setTop (mkF m 164 #[.val (.ref a0), .val (.int nn), .val (.int h2_), .val (.int (8 : Int32)), .val (.int (nn - (8 : Int32))), .val (.int (((k2_ * (1540483477 : Int32)) ^^^ (((k2_ * (1540483477 : Int32)).toUInt32 >>> ((24 : Int32) &&& 31).toUInt32).toInt32)) * (1540483477 : Int32)))] [(.int ((y9 &&& (255 : Int32)) <<< ((8 : Int32) &&& 31))), (.int h2_)])) _
            refine XS.ixor X0.here hx rfl (hb hby d3_164) rfl ?_
            show Steps p.tables e below (s₁.setTop (mkF m 165 #[.val (.ref a0), .val (.int nn), .val (.int h2_), .val (.int (8 : Int32)), .val (.int (nn - (8 : Int32))), .val (.int (((k2_ * (1540483477 : Int32)) ^^^ (((k2_ * (1540483477 : Int32)).toUInt32 >>> ((24 : Int32) &&& 31).toUInt32).toInt32)) * (1540483477 : Int32)))] [(.int (h2_ ^^^ ((y9 &&& (255 : Int32)) <<< ((8 : Int32) &&& 31))))])) _
            refine XS.istoreN X0.here hx rfl (hb hby d3_165) rfl (l' := #[.val (.ref a0), .val (.int nn), .val (.int (h2_ ^^^ ((y9 &&& (255 : Int32)) <<< ((8 : Int32) &&& 31)))), .val (.int (8 : Int32)), .val (.int (nn - (8 : Int32))), .val (.int (((k2_ * (1540483477 : Int32)) ^^^ (((k2_ * (1540483477 : Int32)).toUInt32 >>> ((24 : Int32) &&& 31).toUInt32).toInt32)) * (1540483477 : Int32)))]) rfl ?_
            show Steps p.tables e below (s₁.setTop (mkF m 166 #[.val (.ref a0), .val (.int nn), .val (.int (h2_ ^^^ ((y9 &&& (255 : Int32)) <<< ((8 : Int32) &&& 31)))), .val (.int (8 : Int32)), .val (.int (nn - (8 : Int32))), .val (.int (((k2_ * (1540483477 : Int32)) ^^^ (((k2_ * (1540483477 : Int32)).toUInt32 >>> ((24 : Int32) &&& 31).toUInt32).toInt32)) * (1540483477 : Int32)))] [])) _
            refine XS.iloadN X0.here hx rfl (hb hby d3_166) rfl ?_
            show Steps p.tables e below (s₁.setTop (mkF m 167 #[.val (.ref a0), .val (.int nn), .val (.int (h2_ ^^^ ((y9 &&& (255 : Int32)) <<< ((8 : Int32) &&& 31)))), .val (.int (8 : Int32)), .val (.int (nn - (8 : Int32))), .val (.int (((k2_ * (1540483477 : Int32)) ^^^ (((k2_ * (1540483477 : Int32)).toUInt32 >>> ((24 : Int32) &&& 31).toUInt32).toInt32)) * (1540483477 : Int32)))] [(.int (h2_ ^^^ ((y9 &&& (255 : Int32)) <<< ((8 : Int32) &&& 31))))])) _
            refine XS.aloadN X0.here hx rfl (hb hby d3_167) rfl rfl ?_
            show Steps p.tables e below (s₁.setTop (mkF m 168 #[.val (.ref a0), .val (.int nn), .val (.int (h2_ ^^^ ((y9 &&& (255 : Int32)) <<< ((8 : Int32) &&& 31)))), .val (.int (8 : Int32)), .val (.int (nn - (8 : Int32))), .val (.int (((k2_ * (1540483477 : Int32)) ^^^ (((k2_ * (1540483477 : Int32)).toUInt32 >>> ((24 : Int32) &&& 31).toUInt32).toInt32)) * (1540483477 : Int32)))] [(.ref a0), (.int (h2_ ^^^ ((y9 &&& (255 : Int32)) <<< ((8 : Int32) &&& 31))))])) _
            refine XS.iloadN X0.here hx rfl (hb hby d3_168) rfl ?_
            obtain ⟨cl16, Ar16, -, SS16, MM16, HH16, -⟩ := id V_a0
            have hin16 := inb_of SS16 (own_in (i := (8 : Int32)) (k := 8) (by decide) (by decide) (own_g0 (by decide : (8 : Int32).toInt = 8) hn hc121))
            have hat16 : cl16.slots[((8 : Int32)).toNatClampNeg]? = some (.int y8) := HH16.at hin16 (yat8 (own_g0 (by decide : (8 : Int32).toInt = 8) hn hc121))
            show Steps p.tables e below (s₁.setTop (mkF m 169 #[.val (.ref a0), .val (.int nn), .val (.int (h2_ ^^^ ((y9 &&& (255 : Int32)) <<< ((8 : Int32) &&& 31)))), .val (.int (8 : Int32)), .val (.int (nn - (8 : Int32))), .val (.int (((k2_ * (1540483477 : Int32)) ^^^ (((k2_ * (1540483477 : Int32)).toUInt32 >>> ((24 : Int32) &&& 31).toUInt32).toInt32)) * (1540483477 : Int32)))] [(.int (8 : Int32)), (.ref a0), (.int (h2_ ^^^ ((y9 &&& (255 : Int32)) <<< ((8 : Int32) &&& 31))))])) _
            refine X0.baloadBytes hx (j := (8 : Int32)) (v := (.int y8)) (by rw [e0]; exact Ar16.1) (State.isArrayOf_alike hZ.alike Ar16.2.1) Ar16.2.2 hin16 hat16 (g := (mkF m 169 #[.val (.ref a0), .val (.int nn), .val (.int (h2_ ^^^ ((y9 &&& (255 : Int32)) <<< ((8 : Int32) &&& 31)))), .val (.int (8 : Int32)), .val (.int (nn - (8 : Int32))), .val (.int (((k2_ * (1540483477 : Int32)) ^^^ (((k2_ * (1540483477 : Int32)).toUInt32 >>> ((24 : Int32) &&& 31).toUInt32).toInt32)) * (1540483477 : Int32)))] [(.int (8 : Int32)), (.ref a0), (.int (h2_ ^^^ ((y9 &&& (255 : Int32)) <<< ((8 : Int32) &&& 31))))])) rfl rfl (hb hby d3_169) _ ?_
            show Steps p.tables e below (s₁.setTop (mkF m 170 #[.val (.ref a0), .val (.int nn), .val (.int (h2_ ^^^ ((y9 &&& (255 : Int32)) <<< ((8 : Int32) &&& 31)))), .val (.int (8 : Int32)), .val (.int (nn - (8 : Int32))), .val (.int (((k2_ * (1540483477 : Int32)) ^^^ (((k2_ * (1540483477 : Int32)).toUInt32 >>> ((24 : Int32) &&& 31).toUInt32).toInt32)) * (1540483477 : Int32)))] [(.int y8), (.int (h2_ ^^^ ((y9 &&& (255 : Int32)) <<< ((8 : Int32) &&& 31))))])) _
            refine XS.sipush X0.here hx rfl (hb hby d3_170) ?_
            show Steps p.tables e below (s₁.setTop (mkF m 173 #[.val (.ref a0), .val (.int nn), .val (.int (h2_ ^^^ ((y9 &&& (255 : Int32)) <<< ((8 : Int32) &&& 31)))), .val (.int (8 : Int32)), .val (.int (nn - (8 : Int32))), .val (.int (((k2_ * (1540483477 : Int32)) ^^^ (((k2_ * (1540483477 : Int32)).toUInt32 >>> ((24 : Int32) &&& 31).toUInt32).toInt32)) * (1540483477 : Int32)))] [(.int (255 : Int32)), (.int y8), (.int (h2_ ^^^ ((y9 &&& (255 : Int32)) <<< ((8 : Int32) &&& 31))))])) _
            refine XS.iand X0.here hx rfl (hb hby d3_173) rfl ?_
            show Steps p.tables e below (s₁.setTop (mkF m 174 #[.val (.ref a0), .val (.int nn), .val (.int (h2_ ^^^ ((y9 &&& (255 : Int32)) <<< ((8 : Int32) &&& 31)))), .val (.int (8 : Int32)), .val (.int (nn - (8 : Int32))), .val (.int (((k2_ * (1540483477 : Int32)) ^^^ (((k2_ * (1540483477 : Int32)).toUInt32 >>> ((24 : Int32) &&& 31).toUInt32).toInt32)) * (1540483477 : Int32)))] [(.int (y8 &&& (255 : Int32))), (.int (h2_ ^^^ ((y9 &&& (255 : Int32)) <<< ((8 : Int32) &&& 31))))])) _
            refine XS.ixor X0.here hx rfl (hb hby d3_174) rfl ?_
            show Steps p.tables e below (s₁.setTop (mkF m 175 #[.val (.ref a0), .val (.int nn), .val (.int (h2_ ^^^ ((y9 &&& (255 : Int32)) <<< ((8 : Int32) &&& 31)))), .val (.int (8 : Int32)), .val (.int (nn - (8 : Int32))), .val (.int (((k2_ * (1540483477 : Int32)) ^^^ (((k2_ * (1540483477 : Int32)).toUInt32 >>> ((24 : Int32) &&& 31).toUInt32).toInt32)) * (1540483477 : Int32)))] [(.int ((h2_ ^^^ ((y9 &&& (255 : Int32)) <<< ((8 : Int32) &&& 31))) ^^^ (y8 &&& (255 : Int32))))])) _
            refine XS.istoreN X0.here hx rfl (hb hby d3_175) rfl (l' := #[.val (.ref a0), .val (.int nn), .val (.int ((h2_ ^^^ ((y9 &&& (255 : Int32)) <<< ((8 : Int32) &&& 31))) ^^^ (y8 &&& (255 : Int32)))), .val (.int (8 : Int32)), .val (.int (nn - (8 : Int32))), .val (.int (((k2_ * (1540483477 : Int32)) ^^^ (((k2_ * (1540483477 : Int32)).toUInt32 >>> ((24 : Int32) &&& 31).toUInt32).toInt32)) * (1540483477 : Int32)))]) rfl ?_
            show Steps p.tables e below (s₁.setTop (mkF m 176 #[.val (.ref a0), .val (.int nn), .val (.int ((h2_ ^^^ ((y9 &&& (255 : Int32)) <<< ((8 : Int32) &&& 31))) ^^^ (y8 &&& (255 : Int32)))), .val (.int (8 : Int32)), .val (.int (nn - (8 : Int32))), .val (.int (((k2_ * (1540483477 : Int32)) ^^^ (((k2_ * (1540483477 : Int32)).toUInt32 >>> ((24 : Int32) &&& 31).toUInt32).toInt32)) * (1540483477 : Int32)))] [])) _
            refine XS.iloadN X0.here hx rfl (hb hby d3_176) rfl ?_
            show Steps p.tables e below (s₁.setTop (mkF m 177 #[.val (.ref a0), .val (.int nn), .val (.int ((h2_ ^^^ ((y9 &&& (255 : Int32)) <<< ((8 : Int32) &&& 31))) ^^^ (y8 &&& (255 : Int32)))), .val (.int (8 : Int32)), .val (.int (nn - (8 : Int32))), .val (.int (((k2_ * (1540483477 : Int32)) ^^^ (((k2_ * (1540483477 : Int32)).toUInt32 >>> ((24 : Int32) &&& 31).toUInt32).toInt32)) * (1540483477 : Int32)))] [(.int ((h2_ ^^^ ((y9 &&& (255 : Int32)) <<< ((8 : Int32) &&& 31))) ^^^ (y8 &&& (255 : Int32))))])) _
            refine X0.ldcInt hx hown (mvT hZ (hw _ (List.mem_of_getElem? (i := 13) rfl))) (g := (mkF m 177 #[.val (.ref a0), .val (.int nn), .val (.int ((h2_ ^^^ ((y9 &&& (255 : Int32)) <<< ((8 : Int32) &&& 31))) ^^^ (y8 &&& (255 : Int32)))), .val (.int (8 : Int32)), .val (.int (nn - (8 : Int32))), .val (.int (((k2_ * (1540483477 : Int32)) ^^^ (((k2_ * (1540483477 : Int32)).toUInt32 >>> ((24 : Int32) &&& 31).toUInt32).toInt32)) * (1540483477 : Int32)))] [(.int ((h2_ ^^^ ((y9 &&& (255 : Int32)) <<< ((8 : Int32) &&& 31))) ^^^ (y8 &&& (255 : Int32))))])) rfl (hb hby d3_177) _ ?_
            show Steps p.tables e below (s₁.setTop (mkF m 179 #[.val (.ref a0), .val (.int nn), .val (.int ((h2_ ^^^ ((y9 &&& (255 : Int32)) <<< ((8 : Int32) &&& 31))) ^^^ (y8 &&& (255 : Int32)))), .val (.int (8 : Int32)), .val (.int (nn - (8 : Int32))), .val (.int (((k2_ * (1540483477 : Int32)) ^^^ (((k2_ * (1540483477 : Int32)).toUInt32 >>> ((24 : Int32) &&& 31).toUInt32).toInt32)) * (1540483477 : Int32)))] [(.int (1540483477 : Int32)), (.int ((h2_ ^^^ ((y9 &&& (255 : Int32)) <<< ((8 : Int32) &&& 31))) ^^^ (y8 &&& (255 : Int32))))])) _
            refine XS.imul X0.here hx rfl (hb hby d3_179) rfl ?_
            show Steps p.tables e below (s₁.setTop (mkF m 180 #[.val (.ref a0), .val (.int nn), .val (.int ((h2_ ^^^ ((y9 &&& (255 : Int32)) <<< ((8 : Int32) &&& 31))) ^^^ (y8 &&& (255 : Int32)))), .val (.int (8 : Int32)), .val (.int (nn - (8 : Int32))), .val (.int (((k2_ * (1540483477 : Int32)) ^^^ (((k2_ * (1540483477 : Int32)).toUInt32 >>> ((24 : Int32) &&& 31).toUInt32).toInt32)) * (1540483477 : Int32)))] [(.int (((h2_ ^^^ ((y9 &&& (255 : Int32)) <<< ((8 : Int32) &&& 31))) ^^^ (y8 &&& (255 : Int32))) * (1540483477 : Int32)))])) _
            refine XS.istoreN X0.here hx rfl (hb hby d3_180) rfl (l' := #[.val (.ref a0), .val (.int nn), .val (.int (((h2_ ^^^ ((y9 &&& (255 : Int32)) <<< ((8 : Int32) &&& 31))) ^^^ (y8 &&& (255 : Int32))) * (1540483477 : Int32))), .val (.int (8 : Int32)), .val (.int (nn - (8 : Int32))), .val (.int (((k2_ * (1540483477 : Int32)) ^^^ (((k2_ * (1540483477 : Int32)).toUInt32 >>> ((24 : Int32) &&& 31).toUInt32).toInt32)) * (1540483477 : Int32)))]) rfl ?_
            try simp only [if_pos hc121, if_neg hc127, if_neg hc148] at k
            exact k
      · show Steps p.tables e below (s₁.setTop (mkF m 121 #[.val (.ref a0), .val (.int nn), .val (.int h2_), .val (.int (8 : Int32)), .val (.int (nn - (8 : Int32))), .val (.int (((k2_ * (1540483477 : Int32)) ^^^ (((k2_ * (1540483477 : Int32)).toUInt32 >>> ((24 : Int32) &&& 31).toUInt32).toInt32)) * (1540483477 : Int32)))] [(.int (nn - (8 : Int32)))])) _
        refine XS.ifYes X0.here hx rfl (pc0 := 121) (pc' := 181) rfl (hb hby d3_121) rfl ((if0 _ _).trans (flt hc121).2.2.2) (by decide) (by decide) ?_
        try simp only [if_neg hc121] at k
        exact k
    show Steps p.tables e below (s₁.setTop (mkF m 181 #[.val (.ref a0), .val (.int nn), .val (.int (if (0 : Int32) < (nn - (8 : Int32)) then (if (3 : Int32) = (nn - (8 : Int32)) then (if (nn - (8 : Int32)) < (2 : Int32) then (((h2_ ^^^ ((y10 &&& (255 : Int32)) <<< ((16 : Int32) &&& 31))) ^^^ (y8 &&& (255 : Int32))) * (1540483477 : Int32)) else ((((h2_ ^^^ ((y10 &&& (255 : Int32)) <<< ((16 : Int32) &&& 31))) ^^^ ((y9 &&& (255 : Int32)) <<< ((8 : Int32) &&& 31))) ^^^ (y8 &&& (255 : Int32))) * (1540483477 : Int32))) else (if (nn - (8 : Int32)) < (2 : Int32) then ((h2_ ^^^ (y8 &&& (255 : Int32))) * (1540483477 : Int32)) else (((h2_ ^^^ ((y9 &&& (255 : Int32)) <<< ((8 : Int32) &&& 31))) ^^^ (y8 &&& (255 : Int32))) * (1540483477 : Int32)))) else h2_)), .val (.int (8 : Int32)), .val (.int (nn - (8 : Int32))), .val (.int (((k2_ * (1540483477 : Int32)) ^^^ (((k2_ * (1540483477 : Int32)).toUInt32 >>> ((24 : Int32) &&& 31).toUInt32).toInt32)) * (1540483477 : Int32)))] [])) _
    rw [← h_ht_]
    show Steps p.tables e below (s₁.setTop (mkF m 181 #[.val (.ref a0), .val (.int nn), .val (.int ht_), .val (.int (8 : Int32)), .val (.int (nn - (8 : Int32))), .val (.int (((k2_ * (1540483477 : Int32)) ^^^ (((k2_ * (1540483477 : Int32)).toUInt32 >>> ((24 : Int32) &&& 31).toUInt32).toInt32)) * (1540483477 : Int32)))] [])) _
    refine XS.iloadN X0.here hx rfl (hb hby d3_181) rfl ?_
    show Steps p.tables e below (s₁.setTop (mkF m 182 #[.val (.ref a0), .val (.int nn), .val (.int ht_), .val (.int (8 : Int32)), .val (.int (nn - (8 : Int32))), .val (.int (((k2_ * (1540483477 : Int32)) ^^^ (((k2_ * (1540483477 : Int32)).toUInt32 >>> ((24 : Int32) &&& 31).toUInt32).toInt32)) * (1540483477 : Int32)))] [(.int ht_)])) _
    refine XS.iloadN X0.here hx rfl (hb hby d3_182) rfl ?_
    show Steps p.tables e below (s₁.setTop (mkF m 183 #[.val (.ref a0), .val (.int nn), .val (.int ht_), .val (.int (8 : Int32)), .val (.int (nn - (8 : Int32))), .val (.int (((k2_ * (1540483477 : Int32)) ^^^ (((k2_ * (1540483477 : Int32)).toUInt32 >>> ((24 : Int32) &&& 31).toUInt32).toInt32)) * (1540483477 : Int32)))] [(.int ht_), (.int ht_)])) _
    refine XS.bipush X0.here hx rfl (hb hby d3_183) ?_
    show Steps p.tables e below (s₁.setTop (mkF m 185 #[.val (.ref a0), .val (.int nn), .val (.int ht_), .val (.int (8 : Int32)), .val (.int (nn - (8 : Int32))), .val (.int (((k2_ * (1540483477 : Int32)) ^^^ (((k2_ * (1540483477 : Int32)).toUInt32 >>> ((24 : Int32) &&& 31).toUInt32).toInt32)) * (1540483477 : Int32)))] [(.int (13 : Int32)), (.int ht_), (.int ht_)])) _
    refine XS.iushr X0.here hx rfl (hb hby d3_185) rfl ?_
    show Steps p.tables e below (s₁.setTop (mkF m 186 #[.val (.ref a0), .val (.int nn), .val (.int ht_), .val (.int (8 : Int32)), .val (.int (nn - (8 : Int32))), .val (.int (((k2_ * (1540483477 : Int32)) ^^^ (((k2_ * (1540483477 : Int32)).toUInt32 >>> ((24 : Int32) &&& 31).toUInt32).toInt32)) * (1540483477 : Int32)))] [(.int ((ht_.toUInt32 >>> ((13 : Int32) &&& 31).toUInt32).toInt32)), (.int ht_)])) _
    refine XS.ixor X0.here hx rfl (hb hby d3_186) rfl ?_
    show Steps p.tables e below (s₁.setTop (mkF m 187 #[.val (.ref a0), .val (.int nn), .val (.int ht_), .val (.int (8 : Int32)), .val (.int (nn - (8 : Int32))), .val (.int (((k2_ * (1540483477 : Int32)) ^^^ (((k2_ * (1540483477 : Int32)).toUInt32 >>> ((24 : Int32) &&& 31).toUInt32).toInt32)) * (1540483477 : Int32)))] [(.int (ht_ ^^^ ((ht_.toUInt32 >>> ((13 : Int32) &&& 31).toUInt32).toInt32)))])) _
    rw [← h_ha_]
    show Steps p.tables e below (s₁.setTop (mkF m 187 #[.val (.ref a0), .val (.int nn), .val (.int ht_), .val (.int (8 : Int32)), .val (.int (nn - (8 : Int32))), .val (.int (((k2_ * (1540483477 : Int32)) ^^^ (((k2_ * (1540483477 : Int32)).toUInt32 >>> ((24 : Int32) &&& 31).toUInt32).toInt32)) * (1540483477 : Int32)))] [(.int ha_)])) _
    refine XS.istoreN X0.here hx rfl (hb hby d3_187) rfl (l' := #[.val (.ref a0), .val (.int nn), .val (.int ha_), .val (.int (8 : Int32)), .val (.int (nn - (8 : Int32))), .val (.int (((k2_ * (1540483477 : Int32)) ^^^ (((k2_ * (1540483477 : Int32)).toUInt32 >>> ((24 : Int32) &&& 31).toUInt32).toInt32)) * (1540483477 : Int32)))]) rfl ?_
    show Steps p.tables e below (s₁.setTop (mkF m 188 #[.val (.ref a0), .val (.int nn), .val (.int ha_), .val (.int (8 : Int32)), .val (.int (nn - (8 : Int32))), .val (.int (((k2_ * (1540483477 : Int32)) ^^^ (((k2_ * (1540483477 : Int32)).toUInt32 >>> ((24 : Int32) &&& 31).toUInt32).toInt32)) * (1540483477 : Int32)))] [])) _
    refine XS.iloadN X0.here hx rfl (hb hby d3_188) rfl ?_
    show Steps p.tables e below (s₁.setTop (mkF m 189 #[.val (.ref a0), .val (.int nn), .val (.int ha_), .val (.int (8 : Int32)), .val (.int (nn - (8 : Int32))), .val (.int (((k2_ * (1540483477 : Int32)) ^^^ (((k2_ * (1540483477 : Int32)).toUInt32 >>> ((24 : Int32) &&& 31).toUInt32).toInt32)) * (1540483477 : Int32)))] [(.int ha_)])) _
    refine X0.ldcInt hx hown (mvT hZ (hw _ (List.mem_of_getElem? (i := 13) rfl))) (g := (mkF m 189 #[.val (.ref a0), .val (.int nn), .val (.int ha_), .val (.int (8 : Int32)), .val (.int (nn - (8 : Int32))), .val (.int (((k2_ * (1540483477 : Int32)) ^^^ (((k2_ * (1540483477 : Int32)).toUInt32 >>> ((24 : Int32) &&& 31).toUInt32).toInt32)) * (1540483477 : Int32)))] [(.int ha_)])) rfl (hb hby d3_189) _ ?_
    show Steps p.tables e below (s₁.setTop (mkF m 191 #[.val (.ref a0), .val (.int nn), .val (.int ha_), .val (.int (8 : Int32)), .val (.int (nn - (8 : Int32))), .val (.int (((k2_ * (1540483477 : Int32)) ^^^ (((k2_ * (1540483477 : Int32)).toUInt32 >>> ((24 : Int32) &&& 31).toUInt32).toInt32)) * (1540483477 : Int32)))] [(.int (1540483477 : Int32)), (.int ha_)])) _
    refine XS.imul X0.here hx rfl (hb hby d3_191) rfl ?_
    show Steps p.tables e below (s₁.setTop (mkF m 192 #[.val (.ref a0), .val (.int nn), .val (.int ha_), .val (.int (8 : Int32)), .val (.int (nn - (8 : Int32))), .val (.int (((k2_ * (1540483477 : Int32)) ^^^ (((k2_ * (1540483477 : Int32)).toUInt32 >>> ((24 : Int32) &&& 31).toUInt32).toInt32)) * (1540483477 : Int32)))] [(.int (ha_ * (1540483477 : Int32)))])) _
    rw [← h_hb_]
    show Steps p.tables e below (s₁.setTop (mkF m 192 #[.val (.ref a0), .val (.int nn), .val (.int ha_), .val (.int (8 : Int32)), .val (.int (nn - (8 : Int32))), .val (.int (((k2_ * (1540483477 : Int32)) ^^^ (((k2_ * (1540483477 : Int32)).toUInt32 >>> ((24 : Int32) &&& 31).toUInt32).toInt32)) * (1540483477 : Int32)))] [(.int hb_)])) _
    refine XS.istoreN X0.here hx rfl (hb hby d3_192) rfl (l' := #[.val (.ref a0), .val (.int nn), .val (.int hb_), .val (.int (8 : Int32)), .val (.int (nn - (8 : Int32))), .val (.int (((k2_ * (1540483477 : Int32)) ^^^ (((k2_ * (1540483477 : Int32)).toUInt32 >>> ((24 : Int32) &&& 31).toUInt32).toInt32)) * (1540483477 : Int32)))]) rfl ?_
    show Steps p.tables e below (s₁.setTop (mkF m 193 #[.val (.ref a0), .val (.int nn), .val (.int hb_), .val (.int (8 : Int32)), .val (.int (nn - (8 : Int32))), .val (.int (((k2_ * (1540483477 : Int32)) ^^^ (((k2_ * (1540483477 : Int32)).toUInt32 >>> ((24 : Int32) &&& 31).toUInt32).toInt32)) * (1540483477 : Int32)))] [])) _
    refine XS.iloadN X0.here hx rfl (hb hby d3_193) rfl ?_
    show Steps p.tables e below (s₁.setTop (mkF m 194 #[.val (.ref a0), .val (.int nn), .val (.int hb_), .val (.int (8 : Int32)), .val (.int (nn - (8 : Int32))), .val (.int (((k2_ * (1540483477 : Int32)) ^^^ (((k2_ * (1540483477 : Int32)).toUInt32 >>> ((24 : Int32) &&& 31).toUInt32).toInt32)) * (1540483477 : Int32)))] [(.int hb_)])) _
    refine XS.iloadN X0.here hx rfl (hb hby d3_194) rfl ?_
    show Steps p.tables e below (s₁.setTop (mkF m 195 #[.val (.ref a0), .val (.int nn), .val (.int hb_), .val (.int (8 : Int32)), .val (.int (nn - (8 : Int32))), .val (.int (((k2_ * (1540483477 : Int32)) ^^^ (((k2_ * (1540483477 : Int32)).toUInt32 >>> ((24 : Int32) &&& 31).toUInt32).toInt32)) * (1540483477 : Int32)))] [(.int hb_), (.int hb_)])) _
    refine XS.bipush X0.here hx rfl (hb hby d3_195) ?_
    show Steps p.tables e below (s₁.setTop (mkF m 197 #[.val (.ref a0), .val (.int nn), .val (.int hb_), .val (.int (8 : Int32)), .val (.int (nn - (8 : Int32))), .val (.int (((k2_ * (1540483477 : Int32)) ^^^ (((k2_ * (1540483477 : Int32)).toUInt32 >>> ((24 : Int32) &&& 31).toUInt32).toInt32)) * (1540483477 : Int32)))] [(.int (15 : Int32)), (.int hb_), (.int hb_)])) _
    refine XS.iushr X0.here hx rfl (hb hby d3_197) rfl ?_
    show Steps p.tables e below (s₁.setTop (mkF m 198 #[.val (.ref a0), .val (.int nn), .val (.int hb_), .val (.int (8 : Int32)), .val (.int (nn - (8 : Int32))), .val (.int (((k2_ * (1540483477 : Int32)) ^^^ (((k2_ * (1540483477 : Int32)).toUInt32 >>> ((24 : Int32) &&& 31).toUInt32).toInt32)) * (1540483477 : Int32)))] [(.int ((hb_.toUInt32 >>> ((15 : Int32) &&& 31).toUInt32).toInt32)), (.int hb_)])) _
    refine XS.ixor X0.here hx rfl (hb hby d3_198) rfl ?_
    show Steps p.tables e below (s₁.setTop (mkF m 199 #[.val (.ref a0), .val (.int nn), .val (.int hb_), .val (.int (8 : Int32)), .val (.int (nn - (8 : Int32))), .val (.int (((k2_ * (1540483477 : Int32)) ^^^ (((k2_ * (1540483477 : Int32)).toUInt32 >>> ((24 : Int32) &&& 31).toUInt32).toInt32)) * (1540483477 : Int32)))] [(.int (hb_ ^^^ ((hb_.toUInt32 >>> ((15 : Int32) &&& 31).toUInt32).toInt32)))])) _
    rw [← h_rr_]
    show Steps p.tables e below (s₁.setTop (mkF m 199 #[.val (.ref a0), .val (.int nn), .val (.int hb_), .val (.int (8 : Int32)), .val (.int (nn - (8 : Int32))), .val (.int (((k2_ * (1540483477 : Int32)) ^^^ (((k2_ * (1540483477 : Int32)).toUInt32 >>> ((24 : Int32) &&& 31).toUInt32).toInt32)) * (1540483477 : Int32)))] [(.int rr_)])) _
    refine XS.istoreN X0.here hx rfl (hb hby d3_199) rfl (l' := #[.val (.ref a0), .val (.int nn), .val (.int rr_), .val (.int (8 : Int32)), .val (.int (nn - (8 : Int32))), .val (.int (((k2_ * (1540483477 : Int32)) ^^^ (((k2_ * (1540483477 : Int32)).toUInt32 >>> ((24 : Int32) &&& 31).toUInt32).toInt32)) * (1540483477 : Int32)))]) rfl ?_
    show Steps p.tables e below (s₁.setTop (mkF m 200 #[.val (.ref a0), .val (.int nn), .val (.int rr_), .val (.int (8 : Int32)), .val (.int (nn - (8 : Int32))), .val (.int (((k2_ * (1540483477 : Int32)) ^^^ (((k2_ * (1540483477 : Int32)).toUInt32 >>> ((24 : Int32) &&& 31).toUInt32).toInt32)) * (1540483477 : Int32)))] [])) _
    refine XS.iloadN X0.here hx rfl (hb hby d3_200) rfl ?_
    show Steps p.tables e below (s₁.setTop (mkF m 201 #[.val (.ref a0), .val (.int nn), .val (.int rr_), .val (.int (8 : Int32)), .val (.int (nn - (8 : Int32))), .val (.int (((k2_ * (1540483477 : Int32)) ^^^ (((k2_ * (1540483477 : Int32)).toUInt32 >>> ((24 : Int32) &&& 31).toUInt32).toInt32)) * (1540483477 : Int32)))] [(.int rr_)])) _
    exact retI X0 hx Bd.returns (hb hby d3_201) hr
  · show Qrm3_2 Z a0 kk nn vs dv y0 y1 y2 y3 y4 y5 y6 y7 y8 y9 y10 h0 n0 _ s₁.heap _
    rw [e0]
    exact ⟨by rw [h_rr_, h_hb_, h_ha_, h_ht_, h_h2_, h_k2_, h_h1_, h_k1_, h_h0_]; rfl, N0, rfl⟩
theorem own_nb (z : Int32) {nb : Int32} (h : nb = (((z.toUInt32 >>> ((2 : Int32) &&& 31).toUInt32).toInt32) % (3 : Int32))) : nb = (0 : Int32) ∨ nb = (1 : Int32) ∨ nb = (2 : Int32) := by
  have a := c_iushr z 2 2 (by decide) (by decide)
  have e4 : ((2 ^ 2 : Nat) : Int) = 4 := by decide
  rw [e4] at a
  have b := (c_irem ((z.toUInt32 >>> ((2 : Int32) &&& 31).toUInt32).toInt32) 3 3 (by decide)).1 (by rw [a]; omega)
  have e1 : (1 : Int32).toInt = 1 := by decide
  have e2 : (2 : Int32).toInt = 2 := by decide
  simp only [← Int32.toInt_inj, own_z32, e1, e2, h]
  omega
theorem own_lf (z : Int32) {lf : Int32} (h : lf = (z &&& (3 : Int32))) : 0 ≤ lf.toInt ∧ lf.toInt ≤ 3 := by
  have a := c_mask z 3 2 (by decide) (by decide)
  have e4 : ((2 ^ 2 : Nat) : Int) = 4 := by decide
  rw [e4] at a; rw [h]; omega
theorem own_ln0 (z : Int32) {lf ln : Int32} (h : lf = (z &&& (3 : Int32))) (k : ln = (((4 : Int32) * (0 : Int32)) + lf)) : ln.toInt = 0 + lf.toInt ∧ 0 ≤ lf.toInt ∧ lf.toInt ≤ 3 := by
  have a := own_lf z h; have e : ((4 : Int32) * (0 : Int32)).toInt = 0 := by decide
  have b := c_iadd ((4 : Int32) * (0 : Int32)) lf; rw [← k, e] at b; have r := rng32 ln; omega
theorem own_ln1 (z : Int32) {lf ln : Int32} (h : lf = (z &&& (3 : Int32))) (k : ln = (((4 : Int32) * (1 : Int32)) + lf)) : ln.toInt = 4 + lf.toInt ∧ 0 ≤ lf.toInt ∧ lf.toInt ≤ 3 := by
  have a := own_lf z h; have e : ((4 : Int32) * (1 : Int32)).toInt = 4 := by decide
  have b := c_iadd ((4 : Int32) * (1 : Int32)) lf; rw [← k, e] at b; have r := rng32 ln; omega
theorem own_ln2 (z : Int32) {lf ln : Int32} (h : lf = (z &&& (3 : Int32))) (k : ln = (((4 : Int32) * (2 : Int32)) + lf)) : ln.toInt = 8 + lf.toInt ∧ 0 ≤ lf.toInt ∧ lf.toInt ≤ 3 := by
  have a := own_lf z h; have e : ((4 : Int32) * (2 : Int32)).toInt = 8 := by decide
  have b := c_iadd ((4 : Int32) * (2 : Int32)) lf; rw [← k, e] at b; have r := rng32 ln; omega
theorem own_nn {ln lf : Int32} {X : Int} (hX : 0 ≤ X ∧ X ≤ 8) (B : ln.toInt = X + lf.toInt ∧ 0 ≤ lf.toInt ∧ lf.toInt ≤ 3) : ¬ (ln < 0) ∧ ln.toNatClampNeg ≤ 11 := by
  have b : ln.toNatClampNeg = ln.toInt.toNat := rfl
  rw [Int32.lt_iff_toInt_lt, own_z32]; omega
theorem own_sg (vs : List Value) (k i : Nat) (x dv : Value) : (vs.set k x).getD i dv = if k = i ∧ i < vs.length then x else vs.getD i dv := by
  simp only [List.getD_eq_getElem?_getD, List.getElem?_set]
  by_cases h : k = i
  · subst h
    by_cases h2 : k < vs.length
    · simp [h2]
    · simp [h2]
  · simp [h]
def own_three (n : Nat) (a b c : Int32) : List Value := own_put (own_put (own_put (List.replicate n (.int (0 : Int32))) 0 a) 4 b) 8 c
theorem own_t0 {n : Nat} {a b c : Int32} (h : 0 < n) : (own_three n a b c).getD 0 (.int (0 : Int32)) = .int (own_b0 a) := by simp only [own_three, own_put, own_sg, List.length_set, List.length_replicate]; simp [h]
theorem own_t1 {n : Nat} {a b c : Int32} (h : 1 < n) : (own_three n a b c).getD 1 (.int (0 : Int32)) = .int (own_b1 a) := by simp only [own_three, own_put, own_sg, List.length_set, List.length_replicate]; simp [h]
theorem own_t2 {n : Nat} {a b c : Int32} (h : 2 < n) : (own_three n a b c).getD 2 (.int (0 : Int32)) = .int (own_b2 a) := by simp only [own_three, own_put, own_sg, List.length_set, List.length_replicate]; simp [h]
theorem own_t3 {n : Nat} {a b c : Int32} (h : 3 < n) : (own_three n a b c).getD 3 (.int (0 : Int32)) = .int (own_b3 a) := by simp only [own_three, own_put, own_sg, List.length_set, List.length_replicate]; simp [h]
theorem own_t4 {n : Nat} {a b c : Int32} (h : 4 < n) : (own_three n a b c).getD 4 (.int (0 : Int32)) = .int (own_b0 b) := by simp only [own_three, own_put, own_sg, List.length_set, List.length_replicate]; simp [h]
theorem own_t5 {n : Nat} {a b c : Int32} (h : 5 < n) : (own_three n a b c).getD 5 (.int (0 : Int32)) = .int (own_b1 b) := by simp only [own_three, own_put, own_sg, List.length_set, List.length_replicate]; simp [h]
theorem own_t6 {n : Nat} {a b c : Int32} (h : 6 < n) : (own_three n a b c).getD 6 (.int (0 : Int32)) = .int (own_b2 b) := by simp only [own_three, own_put, own_sg, List.length_set, List.length_replicate]; simp [h]
theorem own_t7 {n : Nat} {a b c : Int32} (h : 7 < n) : (own_three n a b c).getD 7 (.int (0 : Int32)) = .int (own_b3 b) := by simp only [own_three, own_put, own_sg, List.length_set, List.length_replicate]; simp [h]
theorem own_t8 {n : Nat} {a b c : Int32} (h : 8 < n) : (own_three n a b c).getD 8 (.int (0 : Int32)) = .int (own_b0 c) := by simp only [own_three, own_put, own_sg, List.length_set, List.length_replicate]; simp [h]
theorem own_t9 {n : Nat} {a b c : Int32} (h : 9 < n) : (own_three n a b c).getD 9 (.int (0 : Int32)) = .int (own_b1 c) := by simp only [own_three, own_put, own_sg, List.length_set, List.length_replicate]; simp [h]
theorem own_t10 {n : Nat} {a b c : Int32} (h : 10 < n) : (own_three n a b c).getD 10 (.int (0 : Int32)) = .int (own_b2 c) := by simp only [own_three, own_put, own_sg, List.length_set, List.length_replicate]; simp [h]
theorem own_up {ln : Int32} {k : Nat} (h : (k : Int) < ln.toInt) : k < ln.toNatClampNeg := by
  have b : ln.toNatClampNeg = ln.toInt.toNat := rfl
  omega
def own_exp (h l t : Int32) : Int32 := (if (0 : Int32) < l then (if l = (1 : Int32) then ((h ^^^ (t &&& (255 : Int32))) * (1540483477 : Int32)) else (if l = (2 : Int32) then ((h ^^^ (t &&& (65535 : Int32))) * (1540483477 : Int32)) else ((h ^^^ (t &&& (16777215 : Int32))) * (1540483477 : Int32)))) else h)

theorem own_at0_0 (p0 p1 p2 : Int32) {ln lf : Int32} (B : ln.toInt = 0 + lf.toInt ∧ 0 ≤ lf.toInt ∧ lf.toInt ≤ 3) (q : 0 < ln.toInt) : (own_three ln.toNatClampNeg p2 p2 p2).getD 0 (.int (0 : Int32)) = .int (own_b0 p2) := own_t0 (own_up q)
theorem own_at0_1 (p0 p1 p2 : Int32) {ln lf : Int32} (B : ln.toInt = 0 + lf.toInt ∧ 0 ≤ lf.toInt ∧ lf.toInt ≤ 3) (q : 1 < ln.toInt) : (own_three ln.toNatClampNeg p2 p2 p2).getD 1 (.int (0 : Int32)) = .int (own_b1 p2) := own_t1 (own_up q)
theorem own_at0_2 (p0 p1 p2 : Int32) {ln lf : Int32} (B : ln.toInt = 0 + lf.toInt ∧ 0 ≤ lf.toInt ∧ lf.toInt ≤ 3) (q : 2 < ln.toInt) : (own_three ln.toNatClampNeg p2 p2 p2).getD 2 (.int (0 : Int32)) = .int (own_b2 p2) := own_t2 (own_up q)
theorem own_at1_0 (p0 p1 p2 : Int32) {ln lf : Int32} (B : ln.toInt = 4 + lf.toInt ∧ 0 ≤ lf.toInt ∧ lf.toInt ≤ 3) (q : 0 < ln.toInt) : (own_three ln.toNatClampNeg p0 p2 p2).getD 0 (.int (0 : Int32)) = .int (own_b0 p0) := own_t0 (own_up q)
theorem own_at1_1 (p0 p1 p2 : Int32) {ln lf : Int32} (B : ln.toInt = 4 + lf.toInt ∧ 0 ≤ lf.toInt ∧ lf.toInt ≤ 3) (q : 1 < ln.toInt) : (own_three ln.toNatClampNeg p0 p2 p2).getD 1 (.int (0 : Int32)) = .int (own_b1 p0) := own_t1 (own_up q)
theorem own_at1_2 (p0 p1 p2 : Int32) {ln lf : Int32} (B : ln.toInt = 4 + lf.toInt ∧ 0 ≤ lf.toInt ∧ lf.toInt ≤ 3) (q : 2 < ln.toInt) : (own_three ln.toNatClampNeg p0 p2 p2).getD 2 (.int (0 : Int32)) = .int (own_b2 p0) := own_t2 (own_up q)
theorem own_at1_3 (p0 p1 p2 : Int32) {ln lf : Int32} (B : ln.toInt = 4 + lf.toInt ∧ 0 ≤ lf.toInt ∧ lf.toInt ≤ 3) (q : 3 < ln.toInt) : (own_three ln.toNatClampNeg p0 p2 p2).getD 3 (.int (0 : Int32)) = .int (own_b3 p0) := own_t3 (own_up q)
theorem own_at1_4 (p0 p1 p2 : Int32) {ln lf : Int32} (B : ln.toInt = 4 + lf.toInt ∧ 0 ≤ lf.toInt ∧ lf.toInt ≤ 3) (q : 4 < ln.toInt) : (own_three ln.toNatClampNeg p0 p2 p2).getD 4 (.int (0 : Int32)) = .int (own_b0 p2) := own_t4 (own_up q)
theorem own_at1_5 (p0 p1 p2 : Int32) {ln lf : Int32} (B : ln.toInt = 4 + lf.toInt ∧ 0 ≤ lf.toInt ∧ lf.toInt ≤ 3) (q : 5 < ln.toInt) : (own_three ln.toNatClampNeg p0 p2 p2).getD 5 (.int (0 : Int32)) = .int (own_b1 p2) := own_t5 (own_up q)
theorem own_at1_6 (p0 p1 p2 : Int32) {ln lf : Int32} (B : ln.toInt = 4 + lf.toInt ∧ 0 ≤ lf.toInt ∧ lf.toInt ≤ 3) (q : 6 < ln.toInt) : (own_three ln.toNatClampNeg p0 p2 p2).getD 6 (.int (0 : Int32)) = .int (own_b2 p2) := own_t6 (own_up q)
theorem own_at2_0 (p0 p1 p2 : Int32) {ln lf : Int32} (B : ln.toInt = 8 + lf.toInt ∧ 0 ≤ lf.toInt ∧ lf.toInt ≤ 3) (q : 0 < ln.toInt) : (own_three ln.toNatClampNeg p0 p1 p2).getD 0 (.int (0 : Int32)) = .int (own_b0 p0) := own_t0 (own_up q)
theorem own_at2_1 (p0 p1 p2 : Int32) {ln lf : Int32} (B : ln.toInt = 8 + lf.toInt ∧ 0 ≤ lf.toInt ∧ lf.toInt ≤ 3) (q : 1 < ln.toInt) : (own_three ln.toNatClampNeg p0 p1 p2).getD 1 (.int (0 : Int32)) = .int (own_b1 p0) := own_t1 (own_up q)
theorem own_at2_2 (p0 p1 p2 : Int32) {ln lf : Int32} (B : ln.toInt = 8 + lf.toInt ∧ 0 ≤ lf.toInt ∧ lf.toInt ≤ 3) (q : 2 < ln.toInt) : (own_three ln.toNatClampNeg p0 p1 p2).getD 2 (.int (0 : Int32)) = .int (own_b2 p0) := own_t2 (own_up q)
theorem own_at2_3 (p0 p1 p2 : Int32) {ln lf : Int32} (B : ln.toInt = 8 + lf.toInt ∧ 0 ≤ lf.toInt ∧ lf.toInt ≤ 3) (q : 3 < ln.toInt) : (own_three ln.toNatClampNeg p0 p1 p2).getD 3 (.int (0 : Int32)) = .int (own_b3 p0) := own_t3 (own_up q)
theorem own_at2_4 (p0 p1 p2 : Int32) {ln lf : Int32} (B : ln.toInt = 8 + lf.toInt ∧ 0 ≤ lf.toInt ∧ lf.toInt ≤ 3) (q : 4 < ln.toInt) : (own_three ln.toNatClampNeg p0 p1 p2).getD 4 (.int (0 : Int32)) = .int (own_b0 p1) := own_t4 (own_up q)
theorem own_at2_5 (p0 p1 p2 : Int32) {ln lf : Int32} (B : ln.toInt = 8 + lf.toInt ∧ 0 ≤ lf.toInt ∧ lf.toInt ≤ 3) (q : 5 < ln.toInt) : (own_three ln.toNatClampNeg p0 p1 p2).getD 5 (.int (0 : Int32)) = .int (own_b1 p1) := own_t5 (own_up q)
theorem own_at2_6 (p0 p1 p2 : Int32) {ln lf : Int32} (B : ln.toInt = 8 + lf.toInt ∧ 0 ≤ lf.toInt ∧ lf.toInt ≤ 3) (q : 6 < ln.toInt) : (own_three ln.toNatClampNeg p0 p1 p2).getD 6 (.int (0 : Int32)) = .int (own_b2 p1) := own_t6 (own_up q)
theorem own_at2_7 (p0 p1 p2 : Int32) {ln lf : Int32} (B : ln.toInt = 8 + lf.toInt ∧ 0 ≤ lf.toInt ∧ lf.toInt ≤ 3) (q : 7 < ln.toInt) : (own_three ln.toNatClampNeg p0 p1 p2).getD 7 (.int (0 : Int32)) = .int (own_b3 p1) := own_t7 (own_up q)
theorem own_at2_8 (p0 p1 p2 : Int32) {ln lf : Int32} (B : ln.toInt = 8 + lf.toInt ∧ 0 ≤ lf.toInt ∧ lf.toInt ≤ 3) (q : 8 < ln.toInt) : (own_three ln.toNatClampNeg p0 p1 p2).getD 8 (.int (0 : Int32)) = .int (own_b0 p2) := own_t8 (own_up q)
theorem own_at2_9 (p0 p1 p2 : Int32) {ln lf : Int32} (B : ln.toInt = 8 + lf.toInt ∧ 0 ≤ lf.toInt ∧ lf.toInt ≤ 3) (q : 9 < ln.toInt) : (own_three ln.toNatClampNeg p0 p1 p2).getD 9 (.int (0 : Int32)) = .int (own_b1 p2) := own_t9 (own_up q)
theorem own_at2_10 (p0 p1 p2 : Int32) {ln lf : Int32} (B : ln.toInt = 8 + lf.toInt ∧ 0 ≤ lf.toInt ∧ lf.toInt ≤ 3) (q : 10 < ln.toInt) : (own_three ln.toNatClampNeg p0 p1 p2).getD 10 (.int (0 : Int32)) = .int (own_b2 p2) := own_t10 (own_up q)
theorem own_by (x : Int32) : (nar .byte (x.toInt8.toInt32) &&& (255 : Int32)).toInt = x.toInt % 256 := by
  have a := c_mask (nar .byte (x.toInt8.toInt32)) 255 8 (by decide) (by decide)
  have e3 : ((2 ^ 8 : Nat) : Int) = 256 := by decide
  have b := c_i2b x
  have c : ((nar .byte (x.toInt8.toInt32)).toInt - (x.toInt8.toInt32).toInt) % 256 = 0 := (c_i2b (x.toInt8.toInt32)).1
  rw [e3] at a
  omega
theorem own_y0 (w : Int32) : (own_b0 w &&& (255 : Int32)).toInt = (w.toInt % 4294967296) % 256 := by
  have := own_by w; unfold own_b0; omega
theorem own_y1 (w : Int32) : (own_b1 w &&& (255 : Int32)).toInt = (w.toInt % 4294967296) / 256 % 256 := by
  have a := own_by ((w.toUInt32 >>> ((8 : Int32) &&& 31).toUInt32).toInt32)
  have b := c_iushr w 8 8 (by decide) (by decide)
  have e3 : ((2 ^ 8 : Nat) : Int) = 256 := by decide
  rw [e3] at b; unfold own_b1; rw [a, b]
theorem own_y2 (w : Int32) : (own_b2 w &&& (255 : Int32)).toInt = (w.toInt % 4294967296) / 65536 % 256 := by
  have a := own_by ((w.toUInt32 >>> ((16 : Int32) &&& 31).toUInt32).toInt32)
  have b := c_iushr w 16 16 (by decide) (by decide)
  have e3 : ((2 ^ 16 : Nat) : Int) = 65536 := by decide
  rw [e3] at b; unfold own_b2; rw [a, b]
theorem own_y3 (w : Int32) : (own_b3 w &&& (255 : Int32)).toInt = (w.toInt % 4294967296) / 16777216 % 256 := by
  have a := own_by ((w.toUInt32 >>> ((24 : Int32) &&& 31).toUInt32).toInt32)
  have b := c_iushr w 24 24 (by decide) (by decide)
  have e3 : ((2 ^ 24 : Nat) : Int) = 16777216 := by decide
  rw [e3] at b; unfold own_b3; rw [a, b]
theorem own_s8 (x : Int32) (h : 0 ≤ x.toInt ∧ x.toInt < 256) : (x <<< ((8 : Int32) &&& 31)).toInt = x.toInt * 256 := by
  have a := c_ishl x 8 8 (by decide); have r := rng32 (x <<< ((8 : Int32) &&& 31))
  have e3 : ((2 ^ 8 : Nat) : Int) = 256 := by decide
  rw [e3] at a; omega
theorem own_s16 (x : Int32) (h : 0 ≤ x.toInt ∧ x.toInt < 256) : (x <<< ((16 : Int32) &&& 31)).toInt = x.toInt * 65536 := by
  have a := c_ishl x 16 16 (by decide); have r := rng32 (x <<< ((16 : Int32) &&& 31))
  have e3 : ((2 ^ 16 : Nat) : Int) = 65536 := by decide
  rw [e3] at a; omega
theorem own_word (w : Int32) : own_k4 (own_b0 w) (own_b1 w) (own_b2 w) (own_b3 w) = w := by
  have y0 := own_y0 w; have y1 := own_y1 w; have y2 := own_y2 w; have y3 := own_y3 w
  unfold own_k4
  generalize own_b0 w &&& (255 : Int32) = a at *
  generalize own_b1 w &&& (255 : Int32) = b at *
  generalize own_b2 w &&& (255 : Int32) = c at *
  generalize own_b3 w &&& (255 : Int32) = d at *
  have s1 := own_s8 b (by omega); have s2 := own_s16 c (by omega)
  have s3 := c_ishl d 24 24 (by decide)
  have e3 : ((2 ^ 24 : Nat) : Int) = 16777216 := by decide
  rw [e3] at s3
  generalize b <<< ((8 : Int32) &&& 31) = b' at *
  generalize c <<< ((16 : Int32) &&& 31) = c' at *
  generalize d <<< ((24 : Int32) &&& 31) = d' at *
  have o1 := c_or' a b' 8 (by decide) 256 (by decide) (by omega) (by omega) (by omega)
  have r1 := rng32 (a ||| b')
  generalize a ||| b' = x1 at *
  have o2 := c_or' x1 c' 16 (by decide) 65536 (by decide) (by omega) (by omega) (by omega)
  have r2 := rng32 (x1 ||| c')
  generalize x1 ||| c' = x2 at *
  have o3 := c_or' x2 d' 24 (by decide) 16777216 (by decide) (by omega) (by omega) (by omega)
  have r3 := rng32 (x2 ||| d')
  generalize x2 ||| d' = x3 at *
  have rw_ := rng32 w
  apply Int32.toInt_inj.mp
  omega
theorem own_n32 (x : Int32) : ((x.toBitVec.toNat : Nat) : Int) = x.toInt % 4294967296 := by
  have h : x.toInt = x.toBitVec.toInt := rfl
  rw [h, BitVec.toInt_eq_toNat_bmod]
  have := x.toBitVec.isLt
  have b := bm32 (x.toBitVec.toNat : Int)
  omega
theorem own_xs {b y k : Nat} (hb : b < 2 ^ k) : ((2 ^ k * y) ^^^ b) = 2 ^ k * y + b := by
  have p : 0 < (2 : Nat) ^ k := Nat.pow_pos (by decide)
  have h1 : ((2 ^ k * y) ^^^ b) % 2 ^ k = b := by
    rw [Nat.xor_mod_two_pow, Nat.mul_mod_right, Nat.zero_xor, Nat.mod_eq_of_lt hb]
  have h2 : ((2 ^ k * y) ^^^ b) / 2 ^ k = y := by
    rw [Nat.xor_div_two_pow, Nat.mul_div_cancel_left _ p, Nat.div_eq_of_lt hb, Nat.xor_zero]
  have := Nat.div_add_mod ((2 ^ k * y) ^^^ b) (2 ^ k)
  rw [h1, h2] at this
  exact this.symm
theorem own_xi {a b : Int32} {k : Nat} {y : Nat} (ha : a.toInt = ((2 ^ k * y : Nat) : Int)) (hb : 0 ≤ b.toInt ∧ b.toInt < ((2 ^ k : Nat) : Int)) (hs : 2 ^ k * y + 2 ^ k ≤ 2147483648) : (a ^^^ b).toInt = a.toInt + b.toInt := by
  have n := own_n32 (a ^^^ b); have na := own_n32 a; have nb := own_n32 b
  rw [Int32.toBitVec_xor, BitVec.toNat_xor] at n
  have ea : a.toBitVec.toNat = 2 ^ k * y := by omega
  have eb : b.toBitVec.toNat < 2 ^ k := by omega
  rw [ea, own_xs eb] at n
  have r := rng32 (a ^^^ b)
  omega
theorem own_tl1 (h t : Int32) : h ^^^ (own_b0 t &&& (255 : Int32)) = h ^^^ (t &&& (255 : Int32)) := by
  congr 1
  apply Int32.toInt_inj.mp
  have a := own_y0 t
  have b := c_mask t 255 8 (by decide) (by decide)
  have e3 : ((2 ^ 8 : Nat) : Int) = 256 := by decide
  rw [e3] at b; omega
theorem own_tl2 (h t : Int32) : (h ^^^ ((own_b1 t &&& (255 : Int32)) <<< ((8 : Int32) &&& 31))) ^^^ (own_b0 t &&& (255 : Int32)) = h ^^^ (t &&& (65535 : Int32)) := by
  rw [Int32.xor_assoc]
  congr 1
  apply Int32.toInt_inj.mp
  have y0 := own_y0 t; have y1 := own_y1 t
  have s1 := own_s8 (own_b1 t &&& (255 : Int32)) (by omega)
  have b := c_mask t 65535 16 (by decide) (by decide)
  have e3 : ((2 ^ 16 : Nat) : Int) = 65536 := by decide
  rw [e3] at b
  have e8 : (2 ^ 8 : Nat) = 256 := by decide
  have x := own_xi (a := ((own_b1 t &&& (255 : Int32)) <<< ((8 : Int32) &&& 31))) (b := (own_b0 t &&& (255 : Int32))) (k := 8) (y := (own_b1 t &&& (255 : Int32)).toInt.toNat) (by rw [e8]; omega) (by rw [e8]; omega) (by rw [e8]; omega)
  omega
theorem own_tl3 (h t : Int32) : ((h ^^^ ((own_b2 t &&& (255 : Int32)) <<< ((16 : Int32) &&& 31))) ^^^ ((own_b1 t &&& (255 : Int32)) <<< ((8 : Int32) &&& 31))) ^^^ (own_b0 t &&& (255 : Int32)) = h ^^^ (t &&& (16777215 : Int32)) := by
  rw [Int32.xor_assoc, Int32.xor_assoc]
  congr 1
  apply Int32.toInt_inj.mp
  have y0 := own_y0 t; have y1 := own_y1 t; have y2 := own_y2 t
  have s1 := own_s8 (own_b1 t &&& (255 : Int32)) (by omega)
  have s2 := own_s16 (own_b2 t &&& (255 : Int32)) (by omega)
  have b := c_mask t 16777215 24 (by decide) (by decide)
  have e3 : ((2 ^ 24 : Nat) : Int) = 16777216 := by decide
  rw [e3] at b
  have e8 : (2 ^ 8 : Nat) = 256 := by decide
  have e16 : (2 ^ 16 : Nat) = 65536 := by decide
  have x := own_xi (a := ((own_b1 t &&& (255 : Int32)) <<< ((8 : Int32) &&& 31))) (b := (own_b0 t &&& (255 : Int32))) (k := 8) (y := (own_b1 t &&& (255 : Int32)).toInt.toNat) (by rw [e8]; omega) (by rw [e8]; omega) (by rw [e8]; omega)
  have x2 := own_xi (a := ((own_b2 t &&& (255 : Int32)) <<< ((16 : Int32) &&& 31))) (b := (((own_b1 t &&& (255 : Int32)) <<< ((8 : Int32) &&& 31)) ^^^ (own_b0 t &&& (255 : Int32)))) (k := 16) (y := (own_b2 t &&& (255 : Int32)).toInt.toNat) (by rw [e16]; omega) (by rw [e16]; omega) (by rw [e16]; omega)
  omega
theorem own_tail_eq {l : Int32} (h t : Int32) (hl : 0 ≤ l.toInt ∧ l.toInt ≤ 3) : own_tail h l (own_b0 t) (own_b1 t) (own_b2 t) = own_exp h l t := by
  have e1 : (1 : Int32).toInt = 1 := by decide
  have e2 : (2 : Int32).toInt = 2 := by decide
  have e3 : (3 : Int32).toInt = 3 := by decide
  have hc : l = 0 ∨ l = 1 ∨ l = 2 ∨ l = 3 := by
    simp only [← Int32.toInt_inj, own_z32, e1, e2, e3]; omega
  unfold own_tail own_exp
  rcases hc with rfl | rfl | rfl | rfl
  · rw [if_neg (by decide), if_neg (by decide)]
  · rw [if_pos (by decide), if_neg (by decide), if_pos (by decide), if_pos (by decide), if_pos (by decide), own_tl1]
  · rw [if_pos (by decide), if_neg (by decide), if_neg (by decide), if_pos (by decide), if_neg (by decide), if_pos (by decide), own_tl2]
  · rw [if_pos (by decide), if_pos (by decide), if_neg (by decide), if_pos (by decide), if_neg (by decide), if_neg (by decide), own_tl3]
theorem own_sub {ln lf L : Int32} {X : Int} (hL : L.toInt = X) (B : ln.toInt = X + lf.toInt ∧ 0 ≤ lf.toInt ∧ lf.toInt ≤ 3) : ln - L = lf := by
  apply Int32.toInt_inj.mp
  have a := c_isub ln L; have r := rng32 (ln - L); have r2 := rng32 lf; omega
theorem own_fin0 (p0 p1 p2 ln lf : Int32) (B : ln.toInt = 0 + lf.toInt ∧ 0 ≤ lf.toInt ∧ lf.toInt ≤ 3) : own_h0 ln (own_b0 p2) (own_b1 p2) (own_b2 p2) = own_mix (own_exp ((-1756908916 : Int32) ^^^ ln) lf p2) := by
  unfold own_h0
  rw [own_sub (by decide) B, own_tail_eq _ _ B.2]
theorem own_fin1 (p0 p1 p2 ln lf : Int32) (B : ln.toInt = 4 + lf.toInt ∧ 0 ≤ lf.toInt ∧ lf.toInt ≤ 3) : own_h1 ln (own_b0 p0) (own_b1 p0) (own_b2 p0) (own_b3 p0) (own_b0 p2) (own_b1 p2) (own_b2 p2) = own_mix (own_exp (own_turn ((-1756908916 : Int32) ^^^ ln) p0) lf p2) := by
  unfold own_h1
  rw [own_sub (by decide) B, own_tail_eq _ _ B.2, own_word]
theorem own_fin2 (p0 p1 p2 ln lf : Int32) (B : ln.toInt = 8 + lf.toInt ∧ 0 ≤ lf.toInt ∧ lf.toInt ≤ 3) : own_h2 ln (own_b0 p0) (own_b1 p0) (own_b2 p0) (own_b3 p0) (own_b0 p1) (own_b1 p1) (own_b2 p1) (own_b3 p1) (own_b0 p2) (own_b1 p2) (own_b2 p2) = own_mix (own_exp (own_turn (own_turn ((-1756908916 : Int32) ^^^ ln) p0) p1) lf p2) := by
  unfold own_h2
  rw [own_sub (by decide) B, own_tail_eq _ _ B.2, own_word, own_word]

theorem pd_1 : parseMethodDescriptor "([B)I" = some ⟨[(.array .byte)], some .int⟩ := by decide +kernel
theorem pd_2 : parseMethodDescriptor "(II)I" = some ⟨[.int, .int], some .int⟩ := by decide +kernel
theorem pn_0 : plainName "com/example/parley/parley/client/Murmur2HashPinLaw" = true := by first | (simp [plainName, overriddenIn]; done) | decide +kernel
theorem ef_rm0 (m : MethodId) (p0 : Int32) (p1 : Int32) (p2 : Int32) (p3 : Int32) : entryFrame m #[(.int p0), (.int p1), (.int p2), (.int p3)] maxLocals = mkF m 0 #[.val (.int p0), .val (.int p1), .val (.int p2), .val (.int p3), .unset, .unset, .unset, .unset, .unset, .unset, .unset, .unset, .unset] [] := by first | (simp [entryFrame, mkF, argsToLocals, Value.category, maxLocals]; done) | rfl
def Qrm0 (Z : State) (p0 : Int32) (p1 : Int32) (p2 : Int32) (p3 : Int32) (h0 : Heap) (n0 : Nat) (v : Option Value) (h : Heap) (L : List Loc) : Prop := v = some (.int (1 : Int32)) ∧ Fr n0 L
set_option maxRecDepth 65536 in
set_option maxHeartbeats 40000000 in
theorem rm0 (l : Launch) (Z : State) (A0 : Array Value) (hw : ∀ d ∈ tables_1, d.before A0 Z = true) (ws : List Jvm.Cond) (p0 : Int32) (p1 : Int32) (p2 : Int32) (p3 : Int32) (h0 : Heap) (n0 : Nat) (Z0 : n0 ≤ h0.size) :
    MetFree l x (head1 (Jvm.Cond.code x code maxLocals ret :: ws) room_1) (fun a U => a = #[(.int p0), (.int p1), (.int p2), (.int p3)] ∧ Z.Warmed39 U.vm ∧ U.heap = h0) (fun _ _ _ _ _ => True) (fun _ U o U' => ∃ v L, o = .returned v ∧ Qrm0 Z p0 p1 p2 p3 h0 n0 v U'.heap L ∧ FrameEnd U o U' L room_1.cells room_1.slots) := by
  refine MetFree.of_bodySF (plainFor_of_name pn_0) hisR ?_
  intro p e s m args below meth c s₁ Bd hml0 hP hK
  obtain ⟨rfl, hZ, hh⟩ := hP
  have hx := Bd.exec
  have hby := Bd.bytes
  have hml : c.maxLocals = 13 := hml0
  have hown : s.vm.findClass "com/example/parley/parley/client/Murmur2HashPinLaw" = some m.cls := findClass_of_methodNamed Bd.named
  have hnm := (name_of_methodNamed Bd.named Bd.method).1
  have X0 : Stand p l e room_1 s m #[(.int p0), (.int p1), (.int p2), (.int p3)] below meth c s₁ [] 0 0 := Stand.of_body Bd
  have e0 : s₁.heap = h0 := by rw [← hh, Bd.state]; rfl
  have N0 := Fr.nil n0
  have K0 : Keep h0 h0 [] := Keep.refl _ _
  have pre0 : ∀ t, Steps p.tables e below (s₁.setTop (mkF m 0 #[.val (.int p0), .val (.int p1), .val (.int p2), .val (.int p3), .unset, .unset, .unset, .unset, .unset, .unset, .unset, .unset, .unset] [])) t → Steps p.tables e below (s₁.setTop (entryFrame m #[(.int p0), (.int p1), (.int p2), (.int p3)] maxLocals)) t := fun t k => castTop (ef_rm0 m p0 p1 p2 p3) k
  obtain ⟨nb, h_nb⟩ : ∃ z : Int32, z = (((p3.toUInt32 >>> ((2 : Int32) &&& 31).toUInt32).toInt32) % (3 : Int32)) := ⟨_, rfl⟩
  rcases (own_nb p3 h_nb) with rfl | rfl | rfl
  · obtain ⟨lf, h_lf⟩ : ∃ z : Int32, z = (p3 &&& (3 : Int32)) := ⟨_, rfl⟩
    obtain ⟨ln, h_ln⟩ : ∃ z : Int32, z = (((4 : Int32) * (0 : Int32)) + lf) := ⟨_, rfl⟩
    have Bn : ln.toInt = 0 + lf.toInt ∧ 0 ≤ lf.toInt ∧ lf.toInt ≤ 3 := own_ln0 p3 h_lf h_ln
    obtain ⟨T1, h1, k1, X1, e1, E1, A1, st1⟩ := newP X0 hx hZ (hw _ (List.mem_of_getElem? (i := 0) rfl)) e0 (g := (mkF m 48 #[.val (.int p0), .val (.int p1), .val (.int p2), .val (.int p3), .val (.int (0 : Int32)), .val (.int lf), .val (.int ln), .val (.int p2), .val (.int p2), .unset, .unset, .unset, .unset] [(.int ln)])) rfl (hb hby at_48) rfl (own_nn (by decide) Bn).1 (cap := 11) (own_nn (by decide) Bn).2 (by decide) (by decide) (by decide)
    obtain ⟨dd, g1⟩ : ∃ z, z = h0.size := ⟨_, rfl⟩
    rw [← g1] at A1 st1
    have g_dd : n0 ≤ dd := Nat.le_trans Z0 (Nat.le_of_eq g1.symm)
    have sz_dd : h0.size ≤ dd := Nat.le_trans K0.1 (Nat.le_of_eq g1.symm)
    have Zh1 : n0 ≤ h1.size := Nat.le_trans Z0 E1.1
    have Kh1 : Keep h0 h1 [] := K0.ext E1
    have V_dd : Arv Z h1 dd k1 .byte ln [] (.int (0 : Int32)) := Arv.new A1 (own_nn (by decide) Bn).1
    have V_dd : Arv Z h1 dd k1 .byte ln (List.replicate ln.toNatClampNeg (.int (0 : Int32))) (.int (0 : Int32)) := V_dd.pad (pad_rep [] (.int (0 : Int32)) ln.toNatClampNeg)
    obtain ⟨_, _, ⟨T2, L2, k2, n2⟩, -, X2, ⟨Lc2, hQ2, l2, y2, z2⟩, st2⟩ := Jvm.LawKit.callS X1 hx (y := (⟨"com/example/parley/parley/client/Murmur2HashPinLaw", "put", "([BII)V"⟩ : MethodName)) hown (mvT hZ (hw _ (List.mem_of_getElem? (i := 1) rfl))) (mvT hZ (hw _ (List.mem_of_getElem? (i := 2) rfl))) (mvT hZ (hw _ (List.mem_of_getElem? (i := 3) rfl))) (mvT hZ (hw _ (List.mem_of_getElem? (i := 4) rfl))) (by decide) (backOf (W := 0) (rm1_0 l Z A0 hw [] dd p2 k1 ln (List.replicate ln.toNatClampNeg (.int (0 : Int32))) (.int (0 : Int32)) h1 n0 Zh1 V_dd g_dd (by simp only [own_put_len, List.length_replicate])) hZ (hw _ (List.mem_of_getElem? (i := 4) rfl)) (hw _ (List.mem_of_getElem? (i := 3) rfl)) (by decide) (by decide)) (g := (mkF m 57 #[.val (.int p0), .val (.int p1), .val (.int p2), .val (.int p3), .val (.int (0 : Int32)), .val (.int lf), .val (.int ln), .val (.int p2), .val (.int p2), .val (.ref dd), .unset, .unset, .unset] [(.int p2), (.int (0 : Int32)), (.ref dd)])) rfl (by rw [hml]; rfl) (argsL := [(.ref dd), (.int (0 : Int32)), (.int p2)]) (rest := []) (lenOf pd_0 rfl) rfl (by show 2 * 0 + _ ≤ _; exact Nat.le_of_eq rfl) (hb hby at_57) (fun _ _ => ⟨rfl, e1, (by decide : 1 + 0 ≤ _), (by decide : 11 + 0 ≤ _)⟩)
    dsimp only [Pt.U, Pt.locs, Pt.cells, Pt.slots] at X2 l2 y2 z2 st2 hQ2
    subst l2 y2 z2
    obtain ⟨rfl, N2q, Kc2, P2_0⟩ := hQ2
    have N2 := Fr.app N0 N2q
    have ZT2_heap : n0 ≤ T2.heap.size := Nat.le_trans Zh1 Kc2.1
    have KT2_heap : Keep h0 T2.heap [] := Kh1.trans Kc2 (allS (Or.inr sz_dd) all0)
    have V_dd : Arv Z T2.heap dd k1 .byte ln (own_put (List.replicate ln.toNatClampNeg (.int (0 : Int32))) 0 p2) (.int (0 : Int32)) := P2_0
    obtain ⟨_, _, ⟨T3, L3, k3, n3⟩, -, X3, ⟨Lc3, hQ3, l3, y3, z3⟩, st3⟩ := Jvm.LawKit.callS X2 hx (y := (⟨"com/example/parley/parley/client/Murmur2HashPinLaw", "put", "([BII)V"⟩ : MethodName)) hown (mvT hZ (hw _ (List.mem_of_getElem? (i := 1) rfl))) (mvT hZ (hw _ (List.mem_of_getElem? (i := 2) rfl))) (mvT hZ (hw _ (List.mem_of_getElem? (i := 3) rfl))) (mvT hZ (hw _ (List.mem_of_getElem? (i := 4) rfl))) (by decide) (backOf (W := 0) (rm1_4 l Z A0 hw [] dd p2 k1 ln (own_put (List.replicate ln.toNatClampNeg (.int (0 : Int32))) 0 p2) (.int (0 : Int32)) T2.heap n0 ZT2_heap V_dd g_dd (by simp only [own_put_len, List.length_replicate])) hZ (hw _ (List.mem_of_getElem? (i := 4) rfl)) (hw _ (List.mem_of_getElem? (i := 3) rfl)) (by decide) (by decide)) (g := (mkF m 65 #[.val (.int p0), .val (.int p1), .val (.int p2), .val (.int p3), .val (.int (0 : Int32)), .val (.int lf), .val (.int ln), .val (.int p2), .val (.int p2), .val (.ref dd), .unset, .unset, .unset] [(.int p2), (.int (4 : Int32)), (.ref dd)])) rfl (by rw [hml]; rfl) (argsL := [(.ref dd), (.int (4 : Int32)), (.int p2)]) (rest := []) (lenOf pd_0 rfl) rfl (by show 2 * 0 + _ ≤ _; exact Nat.le_of_eq rfl) (hb hby at_65) (fun _ _ => ⟨rfl, rfl, (by decide : 1 + 0 ≤ _), (by decide : 11 + 0 ≤ _)⟩)
    dsimp only [Pt.U, Pt.locs, Pt.cells, Pt.slots] at X3 l3 y3 z3 st3 hQ3
    subst l3 y3 z3
    obtain ⟨rfl, N3q, Kc3, P3_0⟩ := hQ3
    have N3 := Fr.app N2 N3q
    have ZT3_heap : n0 ≤ T3.heap.size := Nat.le_trans ZT2_heap Kc3.1
    have KT3_heap : Keep h0 T3.heap [] := KT2_heap.trans Kc3 (allS (Or.inr sz_dd) all0)
    have V_dd : Arv Z T3.heap dd k1 .byte ln (own_put (own_put (List.replicate ln.toNatClampNeg (.int (0 : Int32))) 0 p2) 4 p2) (.int (0 : Int32)) := P3_0
    obtain ⟨_, _, ⟨T4, L4, k4, n4⟩, -, X4, ⟨Lc4, hQ4, l4, y4, z4⟩, st4⟩ := Jvm.LawKit.callS X3 hx (y := (⟨"com/example/parley/parley/client/Murmur2HashPinLaw", "put", "([BII)V"⟩ : MethodName)) hown (mvT hZ (hw _ (List.mem_of_getElem? (i := 1) rfl))) (mvT hZ (hw _ (List.mem_of_getElem? (i := 2) rfl))) (mvT hZ (hw _ (List.mem_of_getElem? (i := 3) rfl))) (mvT hZ (hw _ (List.mem_of_getElem? (i := 4) rfl))) (by decide) (backOf (W := 0) (rm1_8 l Z A0 hw [] dd p2 k1 ln (own_put (own_put (List.replicate ln.toNatClampNeg (.int (0 : Int32))) 0 p2) 4 p2) (.int (0 : Int32)) T3.heap n0 ZT3_heap V_dd g_dd (by simp only [own_put_len, List.length_replicate])) hZ (hw _ (List.mem_of_getElem? (i := 4) rfl)) (hw _ (List.mem_of_getElem? (i := 3) rfl)) (by decide) (by decide)) (g := (mkF m 73 #[.val (.int p0), .val (.int p1), .val (.int p2), .val (.int p3), .val (.int (0 : Int32)), .val (.int lf), .val (.int ln), .val (.int p2), .val (.int p2), .val (.ref dd), .unset, .unset, .unset] [(.int p2), (.int (8 : Int32)), (.ref dd)])) rfl (by rw [hml]; rfl) (argsL := [(.ref dd), (.int (8 : Int32)), (.int p2)]) (rest := []) (lenOf pd_0 rfl) rfl (by show 2 * 0 + _ ≤ _; exact Nat.le_of_eq rfl) (hb hby at_73) (fun _ _ => ⟨rfl, rfl, (by decide : 1 + 0 ≤ _), (by decide : 11 + 0 ≤ _)⟩)
    dsimp only [Pt.U, Pt.locs, Pt.cells, Pt.slots] at X4 l4 y4 z4 st4 hQ4
    subst l4 y4 z4
    obtain ⟨rfl, N4q, Kc4, P4_0⟩ := hQ4
    have N4 := Fr.app N3 N4q
    have ZT4_heap : n0 ≤ T4.heap.size := Nat.le_trans ZT3_heap Kc4.1
    have KT4_heap : Keep h0 T4.heap [] := KT3_heap.trans Kc4 (allS (Or.inr sz_dd) all0)
    have V_dd : Arv Z T4.heap dd k1 .byte ln (own_put (own_put (own_put (List.replicate ln.toNatClampNeg (.int (0 : Int32))) 0 p2) 4 p2) 8 p2) (.int (0 : Int32)) := P4_0
    obtain ⟨_, _, ⟨T5, L5, k5, n5⟩, -, X5, ⟨Lc5, hQ5, l5, y5, z5⟩, st5⟩ := Jvm.LawKit.callS X4 hx (y := (⟨"com/example/parley/parley/client/Murmur2", "hash", "([B)I"⟩ : MethodName)) hown (mvT hZ (hw _ (List.mem_of_getElem? (i := 8) rfl))) (mvT hZ (hw _ (List.mem_of_getElem? (i := 9) rfl))) (mvT hZ (hw _ (List.mem_of_getElem? (i := 10) rfl))) (mvT hZ (hw _ (List.mem_of_getElem? (i := 11) rfl))) (by decide) (backOf (W := 0) (rm3_0 l Z A0 hw [] dd k1 ln (own_put (own_put (own_put (List.replicate ln.toNatClampNeg (.int (0 : Int32))) 0 p2) 4 p2) 8 p2) (.int (0 : Int32)) (own_b0 p2) (own_b1 p2) (own_b2 p2) T4.heap n0 ZT4_heap V_dd (by omega) (fun q => own_at0_0 p0 p1 p2 Bn q) (fun q => own_at0_1 p0 p1 p2 Bn q) (fun q => own_at0_2 p0 p1 p2 Bn q)) hZ (hw _ (List.mem_of_getElem? (i := 11) rfl)) (hw _ (List.mem_of_getElem? (i := 10) rfl)) (by decide) (by decide)) (g := (mkF m 78 #[.val (.int p0), .val (.int p1), .val (.int p2), .val (.int p3), .val (.int (0 : Int32)), .val (.int lf), .val (.int ln), .val (.int p2), .val (.int p2), .val (.ref dd), .unset, .unset, .unset] [(.ref dd)])) rfl (by rw [hml]; rfl) (argsL := [(.ref dd)]) (rest := []) (lenOf pd_1 rfl) rfl (by show 2 * 0 + _ ≤ _; exact Nat.le_of_eq rfl) (hb hby at_78) (fun _ _ => ⟨rfl, rfl, (by decide : 1 + 0 ≤ _), (by decide : 11 + 0 ≤ _)⟩)
    dsimp only [Pt.U, Pt.locs, Pt.cells, Pt.slots] at X5 l5 y5 z5 st5 hQ5
    subst l5 y5 z5
    obtain ⟨rfl, N5q, eh5⟩ := hQ5
    have N5 := Fr.app N4 N5q
    obtain ⟨got, h_got⟩ : ∃ z : Int32, z = (own_h0 ln (own_b0 p2) (own_b1 p2) (own_b2 p2)) := ⟨_, rfl⟩
    obtain ⟨e0_, h_e0_⟩ : ∃ z : Int32, z = ((-1756908916 : Int32) ^^^ ln) := ⟨_, rfl⟩
    obtain ⟨et_, h_et_⟩ : ∃ z : Int32, z = (if (0 : Int32) < lf then (if lf = (1 : Int32) then ((e0_ ^^^ (p2 &&& (255 : Int32))) * (1540483477 : Int32)) else (if lf = (2 : Int32) then ((e0_ ^^^ (p2 &&& (65535 : Int32))) * (1540483477 : Int32)) else ((e0_ ^^^ (p2 &&& (16777215 : Int32))) * (1540483477 : Int32)))) else e0_) := ⟨_, rfl⟩
    obtain ⟨ea_, h_ea_⟩ : ∃ z : Int32, z = (et_ ^^^ ((et_.toUInt32 >>> ((13 : Int32) &&& 31).toUInt32).toInt32)) := ⟨_, rfl⟩
    obtain ⟨eb_, h_eb_⟩ : ∃ z : Int32, z = (ea_ * (1540483477 : Int32)) := ⟨_, rfl⟩
    obtain ⟨ec_, h_ec_⟩ : ∃ z : Int32, z = (eb_ ^^^ ((eb_.toUInt32 >>> ((15 : Int32) &&& 31).toUInt32).toInt32)) := ⟨_, rfl⟩
    obtain ⟨fs, hr, hrun, hended, hW, hsame⟩ := X5.leave (v := some (.int (1 : Int32))) (fun h => by rw [Bd.returns] at h; cases h)
    refine ⟨_, _, pre0 _ ?_, hrun, hended, _, _, rfl, ?_, ⟨_, rfl⟩, hW, hsame.mono (by decide) (by decide)⟩
    · show Steps p.tables e below (s₁.setTop (mkF m 0 #[.val (.int p0), .val (.int p1), .val (.int p2), .val (.int p3), .unset, .unset, .unset, .unset, .unset, .unset, .unset, .unset, .unset] [])) _
      refine XS.iloadN X0.here hx rfl (hb hby at_0) rfl ?_
      show Steps p.tables e below (s₁.setTop (mkF m 1 #[.val (.int p0), .val (.int p1), .val (.int p2), .val (.int p3), .unset, .unset, .unset, .unset, .unset, .unset, .unset, .unset, .unset] [(.int p3)])) _
      refine XS.iconst X0.here hx rfl (hb hby at_1) ?_
      show Steps p.tables e below (s₁.setTop (mkF m 2 #[.val (.int p0), .val (.int p1), .val (.int p2), .val (.int p3), .unset, .unset, .unset, .unset, .unset, .unset, .unset, .unset, .unset] [(.int (2 : Int32)), (.int p3)])) _
      refine XS.iushr X0.here hx rfl (hb hby at_2) rfl ?_
      show Steps p.tables e below (s₁.setTop (mkF m 3 #[.val (.int p0), .val (.int p1), .val (.int p2), .val (.int p3), .unset, .unset, .unset, .unset, .unset, .unset, .unset, .unset, .unset] [(.int ((p3.toUInt32 >>> ((2 : Int32) &&& 31).toUInt32).toInt32))])) _
      refine XS.iconst X0.here hx rfl (hb hby at_3) ?_
      show Steps p.tables e below (s₁.setTop (mkF m 4 #[.val (.int p0), .val (.int p1), .val (.int p2), .val (.int p3), .unset, .unset, .unset, .unset, .unset, .unset, .unset, .unset, .unset] [(.int (3 : Int32)), (.int ((p3.toUInt32 >>> ((2 : Int32) &&& 31).toUInt32).toInt32))])) _
      refine iremM X0 hx rfl (hb hby at_4) rfl (by decide) ?_
      show Steps p.tables e below (s₁.setTop (mkF m 5 #[.val (.int p0), .val (.int p1), .val (.int p2), .val (.int p3), .unset, .unset, .unset, .unset, .unset, .unset, .unset, .unset, .unset] [(.int (((p3.toUInt32 >>> ((2 : Int32) &&& 31).toUInt32).toInt32) % (3 : Int32)))])) _
      rw [← h_nb]
      show Steps p.tables e below (s₁.setTop (mkF m 5 #[.val (.int p0), .val (.int p1), .val (.int p2), .val (.int p3), .unset, .unset, .unset, .unset, .unset, .unset, .unset, .unset, .unset] [(.int (0 : Int32))])) _
      refine XS.istore X0.here hx rfl (hb hby at_5) rfl (l' := #[.val (.int p0), .val (.int p1), .val (.int p2), .val (.int p3), .val (.int (0 : Int32)), .unset, .unset, .unset, .unset, .unset, .unset, .unset, .unset]) rfl ?_
      show Steps p.tables e below (s₁.setTop (mkF m 7 #[.val (.int p0), .val (.int p1), .val (.int p2), .val (.int p3), .val (.int (0 : Int32)), .unset, .unset, .unset, .unset, .unset, .unset, .unset, .unset] [])) _
      refine XS.iloadN X0.here hx rfl (hb hby at_7) rfl ?_
      show Steps p.tables e below (s₁.setTop (mkF m 8 #[.val (.int p0), .val (.int p1), .val (.int p2), .val (.int p3), .val (.int (0 : Int32)), .unset, .unset, .unset, .unset, .unset, .unset, .unset, .unset] [(.int p3)])) _
      refine XS.iconst X0.here hx rfl (hb hby at_8) ?_
      show Steps p.tables e below (s₁.setTop (mkF m 9 #[.val (.int p0), .val (.int p1), .val (.int p2), .val (.int p3), .val (.int (0 : Int32)), .unset, .unset, .unset, .unset, .unset, .unset, .unset, .unset] [(.int (3 : Int32)), (.int p3)])) _
      refine XS.iand X0.here hx rfl (hb hby at_9) rfl ?_
      show Steps p.tables e below (s₁.setTop (mkF m 10 #[.val (.int p0), .val (.int p1), .val (.int p2), .val (.int p3), .val (.int (0 : Int32)), .unset, .unset, .unset, .unset, .unset, .unset, .unset, .unset] [(.int (p3 &&& (3 : Int32)))])) _
      rw [← h_lf]
      show Steps p.tables e below (s₁.setTop (mkF m 10 #[.val (.int p0), .val (.int p1), .val (.int p2), .val (.int p3), .val (.int (0 : Int32)), .unset, .unset, .unset, .unset, .unset, .unset, .unset, .unset] [(.int lf)])) _
      refine XS.istore X0.here hx rfl (hb hby at_10) rfl (l' := #[.val (.int p0), .val (.int p1), .val (.int p2), .val (.int p3), .val (.int (0 : Int32)), .val (.int lf), .unset, .unset, .unset, .unset, .unset, .unset, .unset]) rfl ?_
      show Steps p.tables e below (s₁.setTop (mkF m 12 #[.val (.int p0), .val (.int p1), .val (.int p2), .val (.int p3), .val (.int (0 : Int32)), .val (.int lf), .unset, .unset, .unset, .unset, .unset, .unset, .unset] [])) _
      refine XS.iconst X0.here hx rfl (hb hby at_12) ?_
      show Steps p.tables e below (s₁.setTop (mkF m 13 #[.val (.int p0), .val (.int p1), .val (.int p2), .val (.int p3), .val (.int (0 : Int32)), .val (.int lf), .unset, .unset, .unset, .unset, .unset, .unset, .unset] [(.int (4 : Int32))])) _
      refine XS.iload X0.here hx rfl (hb hby at_13) rfl ?_
      show Steps p.tables e below (s₁.setTop (mkF m 15 #[.val (.int p0), .val (.int p1), .val (.int p2), .val (.int p3), .val (.int (0 : Int32)), .val (.int lf), .unset, .unset, .unset, .unset, .unset, .unset, .unset] [(.int (0 : Int32)), (.int (4 : Int32))])) _
      refine XS.imul X0.here hx rfl (hb hby at_15) rfl ?_
      show Steps p.tables e below (s₁.setTop (mkF m 16 #[.val (.int p0), .val (.int p1), .val (.int p2), .val (.int p3), .val (.int (0 : Int32)), .val (.int lf), .unset, .unset, .unset, .unset, .unset, .unset, .unset] [(.int ((4 : Int32) * (0 : Int32)))])) _
      refine XS.iload X0.here hx rfl (hb hby at_16) rfl ?_
      show Steps p.tables e below (s₁.setTop (mkF m 18 #[.val (.int p0), .val (.int p1), .val (.int p2), .val (.int p3), .val (.int (0 : Int32)), .val (.int lf), .unset, .unset, .unset, .unset, .unset, .unset, .unset] [(.int lf), (.int ((4 : Int32) * (0 : Int32)))])) _
      refine XS.iadd X0.here hx rfl (hb hby at_18) rfl ?_
      show Steps p.tables e below (s₁.setTop (mkF m 19 #[.val (.int p0), .val (.int p1), .val (.int p2), .val (.int p3), .val (.int (0 : Int32)), .val (.int lf), .unset, .unset, .unset, .unset, .unset, .unset, .unset] [(.int (((4 : Int32) * (0 : Int32)) + lf))])) _
      rw [← h_ln]
      show Steps p.tables e below (s₁.setTop (mkF m 19 #[.val (.int p0), .val (.int p1), .val (.int p2), .val (.int p3), .val (.int (0 : Int32)), .val (.int lf), .unset, .unset, .unset, .unset, .unset, .unset, .unset] [(.int ln)])) _
      refine XS.istore X0.here hx rfl (hb hby at_19) rfl (l' := #[.val (.int p0), .val (.int p1), .val (.int p2), .val (.int p3), .val (.int (0 : Int32)), .val (.int lf), .val (.int ln), .unset, .unset, .unset, .unset, .unset, .unset]) rfl ?_
      show Steps p.tables e below (s₁.setTop (mkF m 21 #[.val (.int p0), .val (.int p1), .val (.int p2), .val (.int p3), .val (.int (0 : Int32)), .val (.int lf), .val (.int ln), .unset, .unset, .unset, .unset, .unset, .unset] [])) _
      refine XS.iload X0.here hx rfl (hb hby at_21) rfl ?_
      show Steps p.tables e below (s₁.setTop (mkF m 23 #[.val (.int p0), .val (.int p1), .val (.int p2), .val (.int p3), .val (.int (0 : Int32)), .val (.int lf), .val (.int ln), .unset, .unset, .unset, .unset, .unset, .unset] [(.int (0 : Int32))])) _
      refine XS.ifYes X0.here hx rfl (pc0 := 23) (pc' := 30) rfl (hb hby at_23) rfl ((if0 _ _).trans (flt (by decide : ¬ ((0 : Int32) < (0 : Int32)))).2.2.2) (by decide) (by decide) ?_
      show Steps p.tables e below (s₁.setTop (mkF m 30 #[.val (.int p0), .val (.int p1), .val (.int p2), .val (.int p3), .val (.int (0 : Int32)), .val (.int lf), .val (.int ln), .unset, .unset, .unset, .unset, .unset, .unset] [])) _
      refine XS.iloadN X0.here hx rfl (hb hby at_30) rfl ?_
      show Steps p.tables e below (s₁.setTop (mkF m 31 #[.val (.int p0), .val (.int p1), .val (.int p2), .val (.int p3), .val (.int (0 : Int32)), .val (.int lf), .val (.int ln), .unset, .unset, .unset, .unset, .unset, .unset] [(.int p2)])) _
      refine XS.istore X0.here hx rfl (hb hby at_31) rfl (l' := #[.val (.int p0), .val (.int p1), .val (.int p2), .val (.int p3), .val (.int (0 : Int32)), .val (.int lf), .val (.int ln), .val (.int p2), .unset, .unset, .unset, .unset, .unset]) rfl ?_
      show Steps p.tables e below (s₁.setTop (mkF m 33 #[.val (.int p0), .val (.int p1), .val (.int p2), .val (.int p3), .val (.int (0 : Int32)), .val (.int lf), .val (.int ln), .val (.int p2), .unset, .unset, .unset, .unset, .unset] [])) _
      refine XS.iload X0.here hx rfl (hb hby at_33) rfl ?_
      show Steps p.tables e below (s₁.setTop (mkF m 35 #[.val (.int p0), .val (.int p1), .val (.int p2), .val (.int p3), .val (.int (0 : Int32)), .val (.int lf), .val (.int ln), .val (.int p2), .unset, .unset, .unset, .unset, .unset] [(.int (0 : Int32))])) _
      refine XS.iconst X0.here hx rfl (hb hby at_35) ?_
      show Steps p.tables e below (s₁.setTop (mkF m 36 #[.val (.int p0), .val (.int p1), .val (.int p2), .val (.int p3), .val (.int (0 : Int32)), .val (.int lf), .val (.int ln), .val (.int p2), .unset, .unset, .unset, .unset, .unset] [(.int (1 : Int32)), (.int (0 : Int32))])) _
      refine XS.icmpYes X0.here hx rfl (pc0 := 36) (pc' := 43) rfl (hb hby at_36) rfl (flt (by decide : ¬ ((1 : Int32) < (0 : Int32)))).2.2.2 (by decide) (by decide) ?_
      show Steps p.tables e below (s₁.setTop (mkF m 43 #[.val (.int p0), .val (.int p1), .val (.int p2), .val (.int p3), .val (.int (0 : Int32)), .val (.int lf), .val (.int ln), .val (.int p2), .unset, .unset, .unset, .unset, .unset] [])) _
      refine XS.iloadN X0.here hx rfl (hb hby at_43) rfl ?_
      show Steps p.tables e below (s₁.setTop (mkF m 44 #[.val (.int p0), .val (.int p1), .val (.int p2), .val (.int p3), .val (.int (0 : Int32)), .val (.int lf), .val (.int ln), .val (.int p2), .unset, .unset, .unset, .unset, .unset] [(.int p2)])) _
      refine XS.istore X0.here hx rfl (hb hby at_44) rfl (l' := #[.val (.int p0), .val (.int p1), .val (.int p2), .val (.int p3), .val (.int (0 : Int32)), .val (.int lf), .val (.int ln), .val (.int p2), .val (.int p2), .unset, .unset, .unset, .unset]) rfl ?_
      show Steps p.tables e below (s₁.setTop (mkF m 46 #[.val (.int p0), .val (.int p1), .val (.int p2), .val (.int p3), .val (.int (0 : Int32)), .val (.int lf), .val (.int ln), .val (.int p2), .val (.int p2), .unset, .unset, .unset, .unset] [])) _
      refine XS.iload X0.here hx rfl (hb hby at_46) rfl ?_
      show Steps p.tables e below (s₁.setTop (mkF m 48 #[.val (.int p0), .val (.int p1), .val (.int p2), .val (.int p3), .val (.int (0 : Int32)), .val (.int lf), .val (.int ln), .val (.int p2), .val (.int p2), .unset, .unset, .unset, .unset] [(.int ln)])) _
      refine st1 _ ?_
      show Steps p.tables e below (T1.setTop (mkF m 50 #[.val (.int p0), .val (.int p1), .val (.int p2), .val (.int p3), .val (.int (0 : Int32)), .val (.int lf), .val (.int ln), .val (.int p2), .val (.int p2), .unset, .unset, .unset, .unset] [(.ref dd)])) _
      refine XS.astore X1.here hx rfl (hb hby at_50) rfl rfl (l' := #[.val (.int p0), .val (.int p1), .val (.int p2), .val (.int p3), .val (.int (0 : Int32)), .val (.int lf), .val (.int ln), .val (.int p2), .val (.int p2), .val (.ref dd), .unset, .unset, .unset]) rfl ?_
      show Steps p.tables e below (T1.setTop (mkF m 52 #[.val (.int p0), .val (.int p1), .val (.int p2), .val (.int p3), .val (.int (0 : Int32)), .val (.int lf), .val (.int ln), .val (.int p2), .val (.int p2), .val (.ref dd), .unset, .unset, .unset] [])) _
      refine XS.aload X1.here hx rfl (hb hby at_52) rfl rfl ?_
      show Steps p.tables e below (T1.setTop (mkF m 54 #[.val (.int p0), .val (.int p1), .val (.int p2), .val (.int p3), .val (.int (0 : Int32)), .val (.int lf), .val (.int ln), .val (.int p2), .val (.int p2), .val (.ref dd), .unset, .unset, .unset] [(.ref dd)])) _
      refine XS.iconst X1.here hx rfl (hb hby at_54) ?_
      show Steps p.tables e below (T1.setTop (mkF m 55 #[.val (.int p0), .val (.int p1), .val (.int p2), .val (.int p3), .val (.int (0 : Int32)), .val (.int lf), .val (.int ln), .val (.int p2), .val (.int p2), .val (.ref dd), .unset, .unset, .unset] [(.int (0 : Int32)), (.ref dd)])) _
      refine XS.iload X1.here hx rfl (hb hby at_55) rfl ?_
      show Steps p.tables e below (T1.setTop (mkF m 57 #[.val (.int p0), .val (.int p1), .val (.int p2), .val (.int p3), .val (.int (0 : Int32)), .val (.int lf), .val (.int ln), .val (.int p2), .val (.int p2), .val (.ref dd), .unset, .unset, .unset] [(.int p2), (.int (0 : Int32)), (.ref dd)])) _
      refine st2 _ ?_
      show Steps p.tables e below (T2.setTop (mkF m 60 #[.val (.int p0), .val (.int p1), .val (.int p2), .val (.int p3), .val (.int (0 : Int32)), .val (.int lf), .val (.int ln), .val (.int p2), .val (.int p2), .val (.ref dd), .unset, .unset, .unset] [])) _
      refine XS.aload X2.here hx rfl (hb hby at_60) rfl rfl ?_
      show Steps p.tables e below (T2.setTop (mkF m 62 #[.val (.int p0), .val (.int p1), .val (.int p2), .val (.int p3), .val (.int (0 : Int32)), .val (.int lf), .val (.int ln), .val (.int p2), .val (.int p2), .val (.ref dd), .unset, .unset, .unset] [(.ref dd)])) _
      refine XS.iconst X2.here hx rfl (hb hby at_62) ?_
      show Steps p.tables e below (T2.setTop (mkF m 63 #[.val (.int p0), .val (.int p1), .val (.int p2), .val (.int p3), .val (.int (0 : Int32)), .val (.int lf), .val (.int ln), .val (.int p2), .val (.int p2), .val (.ref dd), .unset, .unset, .unset] [(.int (4 : Int32)), (.ref dd)])) _
      refine XS.iload X2.here hx rfl (hb hby at_63) rfl ?_
      show Steps p.tables e below (T2.setTop (mkF m 65 #[.val (.int p0), .val (.int p1), .val (.int p2), .val (.int p3), .val (.int (0 : Int32)), .val (.int lf), .val (.int ln), .val (.int p2), .val (.int p2), .val (.ref dd), .unset, .unset, .unset] [(.int p2), (.int (4 : Int32)), (.ref dd)])) _
      refine st3 _ ?_
      show Steps p.tables e below (T3.setTop (mkF m 68 #[.val (.int p0), .val (.int p1), .val (.int p2), .val (.int p3), .val (.int (0 : Int32)), .val (.int lf), .val (.int ln), .val (.int p2), .val (.int p2), .val (.ref dd), .unset, .unset, .unset] [])) _
      refine XS.aload X3.here hx rfl (hb hby at_68) rfl rfl ?_
      show Steps p.tables e below (T3.setTop (mkF m 70 #[.val (.int p0), .val (.int p1), .val (.int p2), .val (.int p3), .val (.int (0 : Int32)), .val (.int lf), .val (.int ln), .val (.int p2), .val (.int p2), .val (.ref dd), .unset, .unset, .unset] [(.ref dd)])) _
      refine XS.bipush X3.here hx rfl (hb hby at_70) ?_
      show Steps p.tables e below (T3.setTop (mkF m 72 #[.val (.int p0), .val (.int p1), .val (.int p2), .val (.int p3), .val (.int (0 : Int32)), .val (.int lf), .val (.int ln), .val (.int p2), .val (.int p2), .val (.ref dd), .unset, .unset, .unset] [(.int (8 : Int32)), (.ref dd)])) _
      refine XS.iloadN X3.here hx rfl (hb hby at_72) rfl ?_
      show Steps p.tables e below (T3.setTop (mkF m 73 #[.val (.int p0), .val (.int p1), .val (.int p2), .val (.int p3), .val (.int (0 : Int32)), .val (.int lf), .val (.int ln), .val (.int p2), .val (.int p2), .val (.ref dd), .unset, .unset, .unset] [(.int p2), (.int (8 : Int32)), (.ref dd)])) _
      refine st4 _ ?_
      show Steps p.tables e below (T4.setTop (mkF m 76 #[.val (.int p0), .val (.int p1), .val (.int p2), .val (.int p3), .val (.int (0 : Int32)), .val (.int lf), .val (.int ln), .val (.int p2), .val (.int p2), .val (.ref dd), .unset, .unset, .unset] [])) _
      refine XS.aload X4.here hx rfl (hb hby at_76) rfl rfl ?_
      show Steps p.tables e below (T4.setTop (mkF m 78 #[.val (.int p0), .val (.int p1), .val (.int p2), .val (.int p3), .val (.int (0 : Int32)), .val (.int lf), .val (.int ln), .val (.int p2), .val (.int p2), .val (.ref dd), .unset, .unset, .unset] [(.ref dd)])) _
      refine st5 _ ?_
      show Steps p.tables e below (T5.setTop (mkF m 81 #[.val (.int p0), .val (.int p1), .val (.int p2), .val (.int p3), .val (.int (0 : Int32)), .val (.int lf), .val (.int ln), .val (.int p2), .val (.int p2), .val (.ref dd), .unset, .unset, .unset] [(.int (own_h0 ln (own_b0 p2) (own_b1 p2) (own_b2 p2)))])) _
      rw [← h_got]
      show Steps p.tables e below (T5.setTop (mkF m 81 #[.val (.int p0), .val (.int p1), .val (.int p2), .val (.int p3), .val (.int (0 : Int32)), .val (.int lf), .val (.int ln), .val (.int p2), .val (.int p2), .val (.ref dd), .unset, .unset, .unset] [(.int got)])) _
      refine XS.istore X5.here hx rfl (hb hby at_81) rfl (l' := #[.val (.int p0), .val (.int p1), .val (.int p2), .val (.int p3), .val (.int (0 : Int32)), .val (.int lf), .val (.int ln), .val (.int p2), .val (.int p2), .val (.ref dd), .val (.int got), .unset, .unset]) rfl ?_
      show Steps p.tables e below (T5.setTop (mkF m 83 #[.val (.int p0), .val (.int p1), .val (.int p2), .val (.int p3), .val (.int (0 : Int32)), .val (.int lf), .val (.int ln), .val (.int p2), .val (.int p2), .val (.ref dd), .val (.int got), .unset, .unset] [])) _
      refine X5.ldcInt hx hown (mvT hZ (hw _ (List.mem_of_getElem? (i := 14) rfl))) (g := (mkF m 83 #[.val (.int p0), .val (.int p1), .val (.int p2), .val (.int p3), .val (.int (0 : Int32)), .val (.int lf), .val (.int ln), .val (.int p2), .val (.int p2), .val (.ref dd), .val (.int got), .unset, .unset] [])) rfl (hb hby at_83) _ ?_
      show Steps p.tables e below (T5.setTop (mkF m 85 #[.val (.int p0), .val (.int p1), .val (.int p2), .val (.int p3), .val (.int (0 : Int32)), .val (.int lf), .val (.int ln), .val (.int p2), .val (.int p2), .val (.ref dd), .val (.int got), .unset, .unset] [(.int (-1756908916 : Int32))])) _
      refine XS.iload X5.here hx rfl (hb hby at_85) rfl ?_
      show Steps p.tables e below (T5.setTop (mkF m 87 #[.val (.int p0), .val (.int p1), .val (.int p2), .val (.int p3), .val (.int (0 : Int32)), .val (.int lf), .val (.int ln), .val (.int p2), .val (.int p2), .val (.ref dd), .val (.int got), .unset, .unset] [(.int ln), (.int (-1756908916 : Int32))])) _
      refine XS.ixor X5.here hx rfl (hb hby at_87) rfl ?_
      show Steps p.tables e below (T5.setTop (mkF m 88 #[.val (.int p0), .val (.int p1), .val (.int p2), .val (.int p3), .val (.int (0 : Int32)), .val (.int lf), .val (.int ln), .val (.int p2), .val (.int p2), .val (.ref dd), .val (.int got), .unset, .unset] [(.int ((-1756908916 : Int32) ^^^ ln))])) _
      rw [← h_e0_]
      show Steps p.tables e below (T5.setTop (mkF m 88 #[.val (.int p0), .val (.int p1), .val (.int p2), .val (.int p3), .val (.int (0 : Int32)), .val (.int lf), .val (.int ln), .val (.int p2), .val (.int p2), .val (.ref dd), .val (.int got), .unset, .unset] [(.int e0_)])) _
      refine XS.istore X5.here hx rfl (hb hby at_88) rfl (l' := #[.val (.int p0), .val (.int p1), .val (.int p2), .val (.int p3), .val (.int (0 : Int32)), .val (.int lf), .val (.int ln), .val (.int p2), .val (.int p2), .val (.ref dd), .val (.int got), .val (.int e0_), .unset]) rfl ?_
      show Steps p.tables e below (T5.setTop (mkF m 90 #[.val (.int p0), .val (.int p1), .val (.int p2), .val (.int p3), .val (.int (0 : Int32)), .val (.int lf), .val (.int ln), .val (.int p2), .val (.int p2), .val (.ref dd), .val (.int got), .val (.int e0_), .unset] [])) _
      refine XS.iload X5.here hx rfl (hb hby at_90) rfl ?_
      show Steps p.tables e below (T5.setTop (mkF m 92 #[.val (.int p0), .val (.int p1), .val (.int p2), .val (.int p3), .val (.int (0 : Int32)), .val (.int lf), .val (.int ln), .val (.int p2), .val (.int p2), .val (.ref dd), .val (.int got), .val (.int e0_), .unset] [(.int (0 : Int32))])) _
      refine XS.iconst X5.here hx rfl (hb hby at_92) ?_
      show Steps p.tables e below (T5.setTop (mkF m 93 #[.val (.int p0), .val (.int p1), .val (.int p2), .val (.int p3), .val (.int (0 : Int32)), .val (.int lf), .val (.int ln), .val (.int p2), .val (.int p2), .val (.ref dd), .val (.int got), .val (.int e0_), .unset] [(.int (1 : Int32)), (.int (0 : Int32))])) _
      refine XS.icmpYes X5.here hx rfl (pc0 := 93) (pc' := 104) rfl (hb hby at_93) rfl (tlt (by decide : (0 : Int32) < (1 : Int32))).1 (by decide) (by decide) ?_
      show Steps p.tables e below (T5.setTop (mkF m 104 #[.val (.int p0), .val (.int p1), .val (.int p2), .val (.int p3), .val (.int (0 : Int32)), .val (.int lf), .val (.int ln), .val (.int p2), .val (.int p2), .val (.ref dd), .val (.int got), .val (.int e0_), .unset] [])) _
      refine XS.iload X5.here hx rfl (hb hby at_104) rfl ?_
      show Steps p.tables e below (T5.setTop (mkF m 106 #[.val (.int p0), .val (.int p1), .val (.int p2), .val (.int p3), .val (.int (0 : Int32)), .val (.int lf), .val (.int ln), .val (.int p2), .val (.int p2), .val (.ref dd), .val (.int got), .val (.int e0_), .unset] [(.int (0 : Int32))])) _
      refine XS.iconst X5.here hx rfl (hb hby at_106) ?_
      show Steps p.tables e below (T5.setTop (mkF m 107 #[.val (.int p0), .val (.int p1), .val (.int p2), .val (.int p3), .val (.int (0 : Int32)), .val (.int lf), .val (.int ln), .val (.int p2), .val (.int p2), .val (.ref dd), .val (.int got), .val (.int e0_), .unset] [(.int (2 : Int32)), (.int (0 : Int32))])) _
      refine XS.icmpYes X5.here hx rfl (pc0 := 107) (pc' := 118) rfl (hb hby at_107) rfl (tlt (by decide : (0 : Int32) < (2 : Int32))).1 (by decide) (by decide) ?_
      show Steps p.tables e below (T5.setTop (mkF m 118 #[.val (.int p0), .val (.int p1), .val (.int p2), .val (.int p3), .val (.int (0 : Int32)), .val (.int lf), .val (.int ln), .val (.int p2), .val (.int p2), .val (.ref dd), .val (.int got), .val (.int e0_), .unset] [])) _
      refine XS.iload X5.here hx rfl (hb hby at_118) rfl ?_
      refine own_via (T5.setTop (mkF m 166 #[.val (.int p0), .val (.int p1), .val (.int p2), .val (.int p3), .val (.int (0 : Int32)), .val (.int lf), .val (.int ln), .val (.int p2), .val (.int p2), .val (.ref dd), .val (.int got), .val (.int (if (0 : Int32) < lf then (if lf = (1 : Int32) then ((e0_ ^^^ (p2 &&& (255 : Int32))) * (1540483477 : Int32)) else (if lf = (2 : Int32) then ((e0_ ^^^ (p2 &&& (65535 : Int32))) * (1540483477 : Int32)) else ((e0_ ^^^ (p2 &&& (16777215 : Int32))) * (1540483477 : Int32)))) else e0_)), ((if (0 : Int32) < lf then (if lf = (1 : Int32) then .val (.int (255 : Int32)) else (if lf = (2 : Int32) then .val (.int (65535 : Int32)) else .val (.int (16777215 : Int32)))) else .unset) : Slot)] [])) (fun k => ?_) ?_
      · by_cases hc120 : (0 : Int32) < lf
        · show Steps p.tables e below (T5.setTop (mkF m 120 #[.val (.int p0), .val (.int p1), .val (.int p2), .val (.int p3), .val (.int (0 : Int32)), .val (.int lf), .val (.int ln), .val (.int p2), .val (.int p2), .val (.ref dd), .val (.int got), .val (.int e0_), .unset] [(.int lf)])) _
          refine XS.ifNo X5.here hx rfl (hb hby at_120) rfl ((if0 _ _).trans (tlt hc120).2.2.2) ?_
          show Steps p.tables e below (T5.setTop (mkF m 123 #[.val (.int p0), .val (.int p1), .val (.int p2), .val (.int p3), .val (.int (0 : Int32)), .val (.int lf), .val (.int ln), .val (.int p2), .val (.int p2), .val (.ref dd), .val (.int got), .val (.int e0_), .unset] [])) _
          refine XS.iload X5.here hx rfl (hb hby at_123) rfl ?_
          show Steps p.tables e below (T5.setTop (mkF m 125 #[.val (.int p0), .val (.int p1), .val (.int p2), .val (.int p3), .val (.int (0 : Int32)), .val (.int lf), .val (.int ln), .val (.int p2), .val (.int p2), .val (.ref dd), .val (.int got), .val (.int e0_), .unset] [(.int lf)])) _
          refine XS.iconst X5.here hx rfl (hb hby at_125) ?_
          by_cases hc126 : lf = (1 : Int32)
          · show Steps p.tables e below (T5.setTop (mkF m 126 #[.val (.int p0), .val (.int p1), .val (.int p2), .val (.int p3), .val (.int (0 : Int32)), .val (.int lf), .val (.int ln), .val (.int p2), .val (.int p2), .val (.ref dd), .val (.int got), .val (.int e0_), .unset] [(.int (1 : Int32)), (.int lf)])) _
            refine XS.icmpNo X5.here hx rfl (hb hby at_126) rfl (teq hc126).2 ?_
            show Steps p.tables e below (T5.setTop (mkF m 129 #[.val (.int p0), .val (.int p1), .val (.int p2), .val (.int p3), .val (.int (0 : Int32)), .val (.int lf), .val (.int ln), .val (.int p2), .val (.int p2), .val (.ref dd), .val (.int got), .val (.int e0_), .unset] [])) _
            refine XS.sipush X5.here hx rfl (hb hby at_129) ?_
            show Steps p.tables e below (T5.setTop (mkF m 132 #[.val (.int p0), .val (.int p1), .val (.int p2), .val (.int p3), .val (.int (0 : Int32)), .val (.int lf), .val (.int ln), .val (.int p2), .val (.int p2), .val (.ref dd), .val (.int got), .val (.int e0_), .unset] [(.int (255 : Int32))])) _
            refine XS.goto X5.here hx rfl (pc0 := 132) (pc' := 148) rfl (hb hby at_132) (by decide) (by decide) ?_
            show Steps p.tables e below (T5.setTop (mkF m 148 #[.val (.int p0), .val (.int p1), .val (.int p2), .val (.int p3), .val (.int (0 : Int32)), .val (.int lf), .val (.int ln), .val (.int p2), .val (.int p2), .val (.ref dd), .val (.int got), .val (.int e0_), .unset] [(.int (255 : Int32))])) _
            refine XS.istore X5.here hx rfl (hb hby at_148) rfl (l' := #[.val (.int p0), .val (.int p1), .val (.int p2), .val (.int p3), .val (.int (0 : Int32)), .val (.int lf), .val (.int ln), .val (.int p2), .val (.int p2), .val (.ref dd), .val (.int got), .val (.int e0_), .val (.int (255 : Int32))]) rfl ?_
            show Steps p.tables e below (T5.setTop (mkF m 150 #[.val (.int p0), .val (.int p1), .val (.int p2), .val (.int p3), .val (.int (0 : Int32)), .val (.int lf), .val (.int ln), .val (.int p2), .val (.int p2), .val (.ref dd), .val (.int got), .val (.int e0_), .val (.int (255 : Int32))] [])) _
            refine XS.iload X5.here hx rfl (hb hby at_150) rfl ?_
            show Steps p.tables e below (T5.setTop (mkF m 152 #[.val (.int p0), .val (.int p1), .val (.int p2), .val (.int p3), .val (.int (0 : Int32)), .val (.int lf), .val (.int ln), .val (.int p2), .val (.int p2), .val (.ref dd), .val (.int got), .val (.int e0_), .val (.int (255 : Int32))] [(.int e0_)])) _
            refine XS.iloadN X5.here hx rfl (hb hby at_152) rfl ?_
            show Steps p.tables e below (T5.setTop (mkF m 153 #[.val (.int p0), .val (.int p1), .val (.int p2), .val (.int p3), .val (.int (0 : Int32)), .val (.int lf), .val (.int ln), .val (.int p2), .val (.int p2), .val (.ref dd), .val (.int got), .val (.int e0_), .val (.int (255 : Int32))] [(.int p2), (.int e0_)])) _
            refine XS.iload X5.here hx rfl (hb hby at_153) rfl ?_
            show Steps p.tables e below (T5.setTop (mkF m 155 #[.val (.int p0), .val (.int p1), .val (.int p2), .val (.int p3), .val (.int (0 : Int32)), .val (.int lf), .val (.int ln), .val (.int p2), .val (.int p2), .val (.ref dd), .val (.int got), .val (.int e0_), .val (.int (255 : Int32))] [(.int (255 : Int32)), (.int p2), (.int e0_)])) _
            refine XS.iand X5.here hx rfl (hb hby at_155) rfl ?_
            show Steps p.tables e below (T5.setTop (mkF m 156 #[.val (.int p0), .val (.int p1), .val (.int p2), .val (.int p3), .val (.int (0 : Int32)), .val (.int lf), .val (.int ln), .val (.int p2), .val (.int p2), .val (.ref dd), .val (.int got), .val (.int e0_), .val (.int (255 : Int32))] [(.int (p2 &&& (255 : Int32))), (.int e0_)])) _
            refine XS.ixor X5.here hx rfl (hb hby at_156) rfl ?_
            show Steps p.tables e below (T5.setTop (mkF m 157 #[.val (.int p0), .val (.int p1), .val (.int p2), .val (.int p3), .val (.int (0 : Int32)), .val (.int lf), .val (.int ln), .val (.int p2), .val (.int p2), .val (.ref dd), .val (.int got), .val (.int e0_), .val (.int (255 : Int32))] [(.int (e0_ ^^^ (p2 &&& (255 : Int32))))])) _
            refine XS.istore X5.here hx rfl (hb hby at_157) rfl (l' := #[.val (.int p0), .val (.int p1), .val (.int p2), .val (.int p3), .val (.int (0 : Int32)), .val (.int lf), .val (.int ln), .val (.int p2), .val (.int p2), .val (.ref dd), .val (.int got), .val (.int (e0_ ^^^ (p2 &&& (255 : Int32)))), .val (.int (255 : Int32))]) rfl ?_
            show Steps p.tables e below (T5.setTop (mkF m 159 #[.val (.int p0), .val (.int p1), .val (.int p2), .val (.int p3), .val (.int (0 : Int32)), .val (.int lf), .val (.int ln), .val (.int p2), .val (.int p2), .val (.ref dd), .val (.int got), .val (.int (e0_ ^^^ (p2 &&& (255 : Int32)))), .val (.int (255 : Int32))] [])) _
            refine XS.iload X5.here hx rfl (hb hby at_159) rfl ?_
            show Steps p.tables e below (T5.setTop (mkF m 161 #[.val (.int p0), .val (.int p1), .val (.int p2), .val (.int p3), .val (.int (0 : Int32)), .val (.int lf), .val (.int ln), .val (.int p2), .val (.int p2), .val (.ref dd), .val (.int got), .val (.int (e0_ ^^^ (p2 &&& (255 : Int32)))), .val (.int (255 : Int32))] [(.int (e0_ ^^^ (p2 &&& (255 : Int32))))])) _
            refine X5.ldcInt hx hown (mvT hZ (hw _ (List.mem_of_getElem? (i := 15) rfl))) (g := (mkF m 161 #[.val (.int p0), .val (.int p1), .val (.int p2), .val (.int p3), .val (.int (0 : Int32)), .val (.int lf), .val (.int ln), .val (.int p2), .val (.int p2), .val (.ref dd), .val (.int got), .val (.int (e0_ ^^^ (p2 &&& (255 : Int32)))), .val (.int (255 : Int32))] [(.int (e0_ ^^^ (p2 &&& (255 : Int32))))])) rfl (hb hby at_161) _ ?_
            show Steps p.tables e below (T5.setTop (mkF m 163 #[.val (.int p0), .val (.int p1), .val (.int p2), .val (.int p3), .val (.int (0 : Int32)), .val (.int lf), .val (.int ln), .val (.int p2), .val (.int p2), .val (.ref dd), .val (.int got), .val (.int (e0_ ^^^ (p2 &&& (255 : Int32)))), .val (.int (255 : Int32))] [(.int (1540483477 : Int32)), (.int (e0_ ^^^ (p2 &&& (255 : Int32))))])) _
            refine XS.imul X5.here hx rfl (hb hby at_163) rfl ?_
            show Steps p.tables e below (T5.setTop (mkF m 164 #[.val (.int p0), .val (.int p1), .val (.int p2), .val (.int p3), .val (.int (0 : Int32)), .val (.int lf), .val (.int ln), .val (.int p2), .val (.int p2), .val (.ref dd), .val (.int got), .val (.int (e0_ ^^^ (p2 &&& (255 : Int32)))), .val (.int (255 : Int32))] [(.int ((e0_ ^^^ (p2 &&& (255 : Int32))) * (1540483477 : Int32)))])) _
            refine XS.istore X5.here hx rfl (hb hby at_164) rfl (l' := #[.val (.int p0), .val (.int p1), .val (.int p2), .val (.int p3), .val (.int (0 : Int32)), .val (.int lf), .val (.int ln), .val (.int p2), .val (.int p2), .val (.ref dd), .val (.int got), .val (.int ((e0_ ^^^ (p2 &&& (255 : Int32))) * (1540483477 : Int32))), .val (.int (255 : Int32))]) rfl ?_
            try simp only [if_pos hc120, if_pos hc126] at k
            exact k
          · show Steps p.tables e below (T5.setTop (mkF m 126 #[.val (.int p0), .val (.int p1), .val (.int p2), .val (.int p3), .val (.int (0 : Int32)), .val (.int lf), .val (.int ln), .val (.int p2), .val (.int p2), .val (.ref dd), .val (.int got), .val (.int e0_), .unset] [(.int (1 : Int32)), (.int lf)])) _
            refine XS.icmpYes X5.here hx rfl (pc0 := 126) (pc' := 135) rfl (hb hby at_126) rfl (feq hc126).2 (by decide) (by decide) ?_
            show Steps p.tables e below (T5.setTop (mkF m 135 #[.val (.int p0), .val (.int p1), .val (.int p2), .val (.int p3), .val (.int (0 : Int32)), .val (.int lf), .val (.int ln), .val (.int p2), .val (.int p2), .val (.ref dd), .val (.int got), .val (.int e0_), .unset] [])) _
            refine XS.iload X5.here hx rfl (hb hby at_135) rfl ?_
            show Steps p.tables e below (T5.setTop (mkF m 137 #[.val (.int p0), .val (.int p1), .val (.int p2), .val (.int p3), .val (.int (0 : Int32)), .val (.int lf), .val (.int ln), .val (.int p2), .val (.int p2), .val (.ref dd), .val (.int got), .val (.int e0_), .unset] [(.int lf)])) _
            refine XS.iconst X5.here hx rfl (hb hby at_137) ?_
            by_cases hc138 : lf = (2 : Int32)
            · show Steps p.tables e below (T5.setTop (mkF m 138 #[.val (.int p0), .val (.int p1), .val (.int p2), .val (.int p3), .val (.int (0 : Int32)), .val (.int lf), .val (.int ln), .val (.int p2), .val (.int p2), .val (.ref dd), .val (.int got), .val (.int e0_), .unset] [(.int (2 : Int32)), (.int lf)])) _
              refine XS.icmpNo X5.here hx rfl (hb hby at_138) rfl (teq hc138).2 ?_
              show Steps p.tables e below (T5.setTop (mkF m 141 #[.val (.int p0), .val (.int p1), .val (.int p2), .val (.int p3), .val (.int (0 : Int32)), .val (.int lf), .val (.int ln), .val (.int p2), .val (.int p2), .val (.ref dd), .val (.int got), .val (.int e0_), .unset] [])) _
              refine X5.ldcInt hx hown (mvT hZ (hw _ (List.mem_of_getElem? (i := 19) rfl))) (g := (mkF m 141 #[.val (.int p0), .val (.int p1), .val (.int p2), .val (.int p3), .val (.int (0 : Int32)), .val (.int lf), .val (.int ln), .val (.int p2), .val (.int p2), .val (.ref dd), .val (.int got), .val (.int e0_), .unset] [])) rfl (hb hby at_141) _ ?_
              show Steps p.tables e below (T5.setTop (mkF m 143 #[.val (.int p0), .val (.int p1), .val (.int p2), .val (.int p3), .val (.int (0 : Int32)), .val (.int lf), .val (.int ln), .val (.int p2), .val (.int p2), .val (.ref dd), .val (.int got), .val (.int e0_), .unset] [(.int (65535 : Int32))])) _
              refine XS.goto X5.here hx rfl (pc0 := 143) (pc' := 148) rfl (hb hby at_143) (by decide) (by decide) ?_
              show Steps p.tables e below (T5.setTop (mkF m 148 #[.val (.int p0), .val (.int p1), .val (.int p2), .val (.int p3), .val (.int (0 : Int32)), .val (.int lf), .val (.int ln), .val (.int p2), .val (.int p2), .val (.ref dd), .val (.int got), .val (.int e0_), .unset] [(.int (65535 : Int32))])) _
              refine XS.istore X5.here hx rfl (hb hby at_148) rfl (l' := #[.val (.int p0), .val (.int p1), .val (.int p2), .val (.int p3), .val (.int (0 : Int32)), .val (.int lf), .val (.int ln), .val (.int p2), .val (.int p2), .val (.ref dd), .val (.int got), .val (.int e0_), .val (.int (65535 : Int32))]) rfl ?_
              show Steps p.tables e below (T5.setTop (mkF m 150 #[.val (.int p0), .val (.int p1), .val (.int p2), .val (.int p3), .val (.int (0 : Int32)), .val (.int lf), .val (.int ln), .val (.int p2), .val (.int p2), .val (.ref dd), .val (.int got), .val (.int e0_), .val (.int (65535 : Int32))] [])) _
              refine XS.iload X5.here hx rfl (hb hby at_150) rfl ?_
              show Steps p.tables e below (T5.setTop (mkF m 152 #[.val (.int p0), .val (.int p1), .val (.int p2), .val (.int p3), .val (.int (0 : Int32)), .val (.int lf), .val (.int ln), .val (.int p2), .val (.int p2), .val (.ref dd), .val (.int got), .val (.int e0_), .val (.int (65535 : Int32))] [(.int e0_)])) _
              refine XS.iloadN X5.here hx rfl (hb hby at_152) rfl ?_
              show Steps p.tables e below (T5.setTop (mkF m 153 #[.val (.int p0), .val (.int p1), .val (.int p2), .val (.int p3), .val (.int (0 : Int32)), .val (.int lf), .val (.int ln), .val (.int p2), .val (.int p2), .val (.ref dd), .val (.int got), .val (.int e0_), .val (.int (65535 : Int32))] [(.int p2), (.int e0_)])) _
              refine XS.iload X5.here hx rfl (hb hby at_153) rfl ?_
              show Steps p.tables e below (T5.setTop (mkF m 155 #[.val (.int p0), .val (.int p1), .val (.int p2), .val (.int p3), .val (.int (0 : Int32)), .val (.int lf), .val (.int ln), .val (.int p2), .val (.int p2), .val (.ref dd), .val (.int got), .val (.int e0_), .val (.int (65535 : Int32))] [(.int (65535 : Int32)), (.int p2), (.int e0_)])) _
              refine XS.iand X5.here hx rfl (hb hby at_155) rfl ?_
              show Steps p.tables e below (T5.setTop (mkF m 156 #[.val (.int p0), .val (.int p1), .val (.int p2), .val (.int p3), .val (.int (0 : Int32)), .val (.int lf), .val (.int ln), .val (.int p2), .val (.int p2), .val (.ref dd), .val (.int got), .val (.int e0_), .val (.int (65535 : Int32))] [(.int (p2 &&& (65535 : Int32))), (.int e0_)])) _
              refine XS.ixor X5.here hx rfl (hb hby at_156) rfl ?_
              show Steps p.tables e below (T5.setTop (mkF m 157 #[.val (.int p0), .val (.int p1), .val (.int p2), .val (.int p3), .val (.int (0 : Int32)), .val (.int lf), .val (.int ln), .val (.int p2), .val (.int p2), .val (.ref dd), .val (.int got), .val (.int e0_), .val (.int (65535 : Int32))] [(.int (e0_ ^^^ (p2 &&& (65535 : Int32))))])) _
              refine XS.istore X5.here hx rfl (hb hby at_157) rfl (l' := #[.val (.int p0), .val (.int p1), .val (.int p2), .val (.int p3), .val (.int (0 : Int32)), .val (.int lf), .val (.int ln), .val (.int p2), .val (.int p2), .val (.ref dd), .val (.int got), .val (.int (e0_ ^^^ (p2 &&& (65535 : Int32)))), .val (.int (65535 : Int32))]) rfl ?_
              show Steps p.tables e below (T5.setTop (mkF m 159 #[.val (.int p0), .val (.int p1), .val (.int p2), .val (.int p3), .val (.int (0 : Int32)), .val (.int lf), .val (.int ln), .val (.int p2), .val (.int p2), .val (.ref dd), .val (.int got), .val (.int (e0_ ^^^ (p2 &&& (65535 : Int32)))), .val (.int (65535 : Int32))] [])) _
              refine XS.iload X5.here hx rfl (hb hby at_159) rfl ?_
              show Steps p.tables e below (T5.setTop (mkF m 161 #[.val (.int p0), .val (.int p1), .val (.int p2), .val (.int p3), .val (.int (0 : Int32)), .val (.int lf), .val (.int ln), .val (.int p2), .val (.int p2), .val (.ref dd), .val (.int got), .val (.int (e0_ ^^^ (p2 &&& (65535 : Int32)))), .val (.int (65535 : Int32))] [(.int (e0_ ^^^ (p2 &&& (65535 : Int32))))])) _
              refine X5.ldcInt hx hown (mvT hZ (hw _ (List.mem_of_getElem? (i := 15) rfl))) (g := (mkF m 161 #[.val (.int p0), .val (.int p1), .val (.int p2), .val (.int p3), .val (.int (0 : Int32)), .val (.int lf), .val (.int ln), .val (.int p2), .val (.int p2), .val (.ref dd), .val (.int got), .val (.int (e0_ ^^^ (p2 &&& (65535 : Int32)))), .val (.int (65535 : Int32))] [(.int (e0_ ^^^ (p2 &&& (65535 : Int32))))])) rfl (hb hby at_161) _ ?_
              show Steps p.tables e below (T5.setTop (mkF m 163 #[.val (.int p0), .val (.int p1), .val (.int p2), .val (.int p3), .val (.int (0 : Int32)), .val (.int lf), .val (.int ln), .val (.int p2), .val (.int p2), .val (.ref dd), .val (.int got), .val (.int (e0_ ^^^ (p2 &&& (65535 : Int32)))), .val (.int (65535 : Int32))] [(.int (1540483477 : Int32)), (.int (e0_ ^^^ (p2 &&& (65535 : Int32))))])) _
              refine XS.imul X5.here hx rfl (hb hby at_163) rfl ?_
              show Steps p.tables e below (T5.setTop (mkF m 164 #[.val (.int p0), .val (.int p1), .val (.int p2), .val (.int p3), .val (.int (0 : Int32)), .val (.int lf), .val (.int ln), .val (.int p2), .val (.int p2), .val (.ref dd), .val (.int got), .val (.int (e0_ ^^^ (p2 &&& (65535 : Int32)))), .val (.int (65535 : Int32))] [(.int ((e0_ ^^^ (p2 &&& (65535 : Int32))) * (1540483477 : Int32)))])) _
              refine XS.istore X5.here hx rfl (hb hby at_164) rfl (l' := #[.val (.int p0), .val (.int p1), .val (.int p2), .val (.int p3), .val (.int (0 : Int32)), .val (.int lf), .val (.int ln), .val (.int p2), .val (.int p2), .val (.ref dd), .val (.int got), .val (.int ((e0_ ^^^ (p2 &&& (65535 : Int32))) * (1540483477 : Int32))), .val (.int (65535 : Int32))]) rfl ?_
              try simp only [if_pos hc120, if_neg hc126, if_pos hc138] at k
              exact k
            · show Steps p.tables e below (T5.setTop (mkF m 138 #[.val (.int p0), .val (.int p1), .val (.int p2), .val (.int p3), .val (.int (0 : Int32)), .val (.int lf), .val (.int ln), .val (.int p2), .val (.int p2), .val (.ref dd), .val (.int got), .val (.int e0_), .unset] [(.int (2 : Int32)), (.int lf)])) _
              refine XS.icmpYes X5.here hx rfl (pc0 := 138) (pc' := 146) rfl (hb hby at_138) rfl (feq hc138).2 (by decide) (by decide) ?_
              show Steps p.tables e below (T5.setTop (mkF m 146 #[.val (.int p0), .val (.int p1), .val (.int p2), .val (.int p3), .val (.int (0 : Int32)), .val (.int lf), .val (.int ln), .val (.int p2), .val (.int p2), .val (.ref dd), .val (.int got), .val (.int e0_), .unset] [])) _
              refine X5.ldcInt hx hown (mvT hZ (hw _ (List.mem_of_getElem? (i := 20) rfl))) (g := (mkF m 146 #[.val (.int p0), .val (.int p1), .val (.int p2), .val (.int p3), .val (.int (0 : Int32)), .val (.int lf), .val (.int ln), .val (.int p2), .val (.int p2), .val (.ref dd), .val (.int got), .val (.int e0_), .unset] [])) rfl (hb hby at_146) _ ?_
              show Steps p.tables e below (T5.setTop (mkF m 148 #[.val (.int p0), .val (.int p1), .val (.int p2), .val (.int p3), .val (.int (0 : Int32)), .val (.int lf), .val (.int ln), .val (.int p2), .val (.int p2), .val (.ref dd), .val (.int got), .val (.int e0_), .unset] [(.int (16777215 : Int32))])) _
              refine XS.istore X5.here hx rfl (hb hby at_148) rfl (l' := #[.val (.int p0), .val (.int p1), .val (.int p2), .val (.int p3), .val (.int (0 : Int32)), .val (.int lf), .val (.int ln), .val (.int p2), .val (.int p2), .val (.ref dd), .val (.int got), .val (.int e0_), .val (.int (16777215 : Int32))]) rfl ?_
              show Steps p.tables e below (T5.setTop (mkF m 150 #[.val (.int p0), .val (.int p1), .val (.int p2), .val (.int p3), .val (.int (0 : Int32)), .val (.int lf), .val (.int ln), .val (.int p2), .val (.int p2), .val (.ref dd), .val (.int got), .val (.int e0_), .val (.int (16777215 : Int32))] [])) _
              refine XS.iload X5.here hx rfl (hb hby at_150) rfl ?_
              show Steps p.tables e below (T5.setTop (mkF m 152 #[.val (.int p0), .val (.int p1), .val (.int p2), .val (.int p3), .val (.int (0 : Int32)), .val (.int lf), .val (.int ln), .val (.int p2), .val (.int p2), .val (.ref dd), .val (.int got), .val (.int e0_), .val (.int (16777215 : Int32))] [(.int e0_)])) _
              refine XS.iloadN X5.here hx rfl (hb hby at_152) rfl ?_
              show Steps p.tables e below (T5.setTop (mkF m 153 #[.val (.int p0), .val (.int p1), .val (.int p2), .val (.int p3), .val (.int (0 : Int32)), .val (.int lf), .val (.int ln), .val (.int p2), .val (.int p2), .val (.ref dd), .val (.int got), .val (.int e0_), .val (.int (16777215 : Int32))] [(.int p2), (.int e0_)])) _
              refine XS.iload X5.here hx rfl (hb hby at_153) rfl ?_
              show Steps p.tables e below (T5.setTop (mkF m 155 #[.val (.int p0), .val (.int p1), .val (.int p2), .val (.int p3), .val (.int (0 : Int32)), .val (.int lf), .val (.int ln), .val (.int p2), .val (.int p2), .val (.ref dd), .val (.int got), .val (.int e0_), .val (.int (16777215 : Int32))] [(.int (16777215 : Int32)), (.int p2), (.int e0_)])) _
              refine XS.iand X5.here hx rfl (hb hby at_155) rfl ?_
              show Steps p.tables e below (T5.setTop (mkF m 156 #[.val (.int p0), .val (.int p1), .val (.int p2), .val (.int p3), .val (.int (0 : Int32)), .val (.int lf), .val (.int ln), .val (.int p2), .val (.int p2), .val (.ref dd), .val (.int got), .val (.int e0_), .val (.int (16777215 : Int32))] [(.int (p2 &&& (16777215 : Int32))), (.int e0_)])) _
              refine XS.ixor X5.here hx rfl (hb hby at_156) rfl ?_
              show Steps p.tables e below (T5.setTop (mkF m 157 #[.val (.int p0), .val (.int p1), .val (.int p2), .val (.int p3), .val (.int (0 : Int32)), .val (.int lf), .val (.int ln), .val (.int p2), .val (.int p2), .val (.ref dd), .val (.int got), .val (.int e0_), .val (.int (16777215 : Int32))] [(.int (e0_ ^^^ (p2 &&& (16777215 : Int32))))])) _
              refine XS.istore X5.here hx rfl (hb hby at_157) rfl (l' := #[.val (.int p0), .val (.int p1), .val (.int p2), .val (.int p3), .val (.int (0 : Int32)), .val (.int lf), .val (.int ln), .val (.int p2), .val (.int p2), .val (.ref dd), .val (.int got), .val (.int (e0_ ^^^ (p2 &&& (16777215 : Int32)))), .val (.int (16777215 : Int32))]) rfl ?_
              show Steps p.tables e below (T5.setTop (mkF m 159 #[.val (.int p0), .val (.int p1), .val (.int p2), .val (.int p3), .val (.int (0 : Int32)), .val (.int lf), .val (.int ln), .val (.int p2), .val (.int p2), .val (.ref dd), .val (.int got), .val (.int (e0_ ^^^ (p2 &&& (16777215 : Int32)))), .val (.int (16777215 : Int32))] [])) _
              refine XS.iload X5.here hx rfl (hb hby at_159) rfl ?_
              show Steps p.tables e below (T5.setTop (mkF m 161 #[.val (.int p0), .val (.int p1), .val (.int p2), .val (.int p3), .val (.int (0 : Int32)), .val (.int lf), .val (.int ln), .val (.int p2), .val (.int p2), .val (.ref dd), .val (.int got), .val (.int (e0_ ^^^ (p2 &&& (16777215 : Int32)))), .val (.int (16777215 : Int32))] [(.int (e0_ ^^^ (p2 &&& (16777215 : Int32))))])) _
              refine X5.ldcInt hx hown (mvT hZ (hw _ (List.mem_of_getElem? (i := 15) rfl))) (g := (mkF m 161 #[.val (.int p0), .val (.int p1), .val (.int p2), .val (.int p3), .val (.int (0 : Int32)), .val (.int lf), .val (.int ln), .val (.int p2), .val (.int p2), .val (.ref dd), .val (.int got), .val (.int (e0_ ^^^ (p2 &&& (16777215 : Int32)))), .val (.int (16777215 : Int32))] [(.int (e0_ ^^^ (p2 &&& (16777215 : Int32))))])) rfl (hb hby at_161) _ ?_
              show Steps p.tables e below (T5.setTop (mkF m 163 #[.val (.int p0), .val (.int p1), .val (.int p2), .val (.int p3), .val (.int (0 : Int32)), .val (.int lf), .val (.int ln), .val (.int p2), .val (.int p2), .val (.ref dd), .val (.int got), .val (.int (e0_ ^^^ (p2 &&& (16777215 : Int32)))), .val (.int (16777215 : Int32))] [(.int (1540483477 : Int32)), (.int (e0_ ^^^ (p2 &&& (16777215 : Int32))))])) _
              refine XS.imul X5.here hx rfl (hb hby at_163) rfl ?_
              show Steps p.tables e below (T5.setTop (mkF m 164 #[.val (.int p0), .val (.int p1), .val (.int p2), .val (.int p3), .val (.int (0 : Int32)), .val (.int lf), .val (.int ln), .val (.int p2), .val (.int p2), .val (.ref dd), .val (.int got), .val (.int (e0_ ^^^ (p2 &&& (16777215 : Int32)))), .val (.int (16777215 : Int32))] [(.int ((e0_ ^^^ (p2 &&& (16777215 : Int32))) * (1540483477 : Int32)))])) _
              refine XS.istore X5.here hx rfl (hb hby at_164) rfl (l' := #[.val (.int p0), .val (.int p1), .val (.int p2), .val (.int p3), .val (.int (0 : Int32)), .val (.int lf), .val (.int ln), .val (.int p2), .val (.int p2), .val (.ref dd), .val (.int got), .val (.int ((e0_ ^^^ (p2 &&& (16777215 : Int32))) * (1540483477 : Int32))), .val (.int (16777215 : Int32))]) rfl ?_
              try simp only [if_pos hc120, if_neg hc126, if_neg hc138] at k
              exact k
        · show Steps p.tables e below (T5.setTop (mkF m 120 #[.val (.int p0), .val (.int p1), .val (.int p2), .val (.int p3), .val (.int (0 : Int32)), .val (.int lf), .val (.int ln), .val (.int p2), .val (.int p2), .val (.ref dd), .val (.int got), .val (.int e0_), .unset] [(.int lf)])) _
          refine XS.ifYes X5.here hx rfl (pc0 := 120) (pc' := 166) rfl (hb hby at_120) rfl ((if0 _ _).trans (flt hc120).2.2.2) (by decide) (by decide) ?_
          try simp only [if_neg hc120] at k
          exact k
      show Steps p.tables e below (T5.setTop (mkF m 166 #[.val (.int p0), .val (.int p1), .val (.int p2), .val (.int p3), .val (.int (0 : Int32)), .val (.int lf), .val (.int ln), .val (.int p2), .val (.int p2), .val (.ref dd), .val (.int got), .val (.int (if (0 : Int32) < lf then (if lf = (1 : Int32) then ((e0_ ^^^ (p2 &&& (255 : Int32))) * (1540483477 : Int32)) else (if lf = (2 : Int32) then ((e0_ ^^^ (p2 &&& (65535 : Int32))) * (1540483477 : Int32)) else ((e0_ ^^^ (p2 &&& (16777215 : Int32))) * (1540483477 : Int32)))) else e0_)), ((if (0 : Int32) < lf then (if lf = (1 : Int32) then .val (.int (255 : Int32)) else (if lf = (2 : Int32) then .val (.int (65535 : Int32)) else .val (.int (16777215 : Int32)))) else .unset) : Slot)] [])) _
      rw [← h_et_]
      show Steps p.tables e below (T5.setTop (mkF m 166 #[.val (.int p0), .val (.int p1), .val (.int p2), .val (.int p3), .val (.int (0 : Int32)), .val (.int lf), .val (.int ln), .val (.int p2), .val (.int p2), .val (.ref dd), .val (.int got), .val (.int et_), ((if (0 : Int32) < lf then (if lf = (1 : Int32) then .val (.int (255 : Int32)) else (if lf = (2 : Int32) then .val (.int (65535 : Int32)) else .val (.int (16777215 : Int32)))) else .unset) : Slot)] [])) _
      refine XS.iload X5.here hx rfl (hb hby at_166) rfl ?_
      show Steps p.tables e below (T5.setTop (mkF m 168 #[.val (.int p0), .val (.int p1), .val (.int p2), .val (.int p3), .val (.int (0 : Int32)), .val (.int lf), .val (.int ln), .val (.int p2), .val (.int p2), .val (.ref dd), .val (.int got), .val (.int et_), ((if (0 : Int32) < lf then (if lf = (1 : Int32) then .val (.int (255 : Int32)) else (if lf = (2 : Int32) then .val (.int (65535 : Int32)) else .val (.int (16777215 : Int32)))) else .unset) : Slot)] [(.int et_)])) _
      refine XS.iload X5.here hx rfl (hb hby at_168) rfl ?_
      show Steps p.tables e below (T5.setTop (mkF m 170 #[.val (.int p0), .val (.int p1), .val (.int p2), .val (.int p3), .val (.int (0 : Int32)), .val (.int lf), .val (.int ln), .val (.int p2), .val (.int p2), .val (.ref dd), .val (.int got), .val (.int et_), ((if (0 : Int32) < lf then (if lf = (1 : Int32) then .val (.int (255 : Int32)) else (if lf = (2 : Int32) then .val (.int (65535 : Int32)) else .val (.int (16777215 : Int32)))) else .unset) : Slot)] [(.int et_), (.int et_)])) _
      refine XS.bipush X5.here hx rfl (hb hby at_170) ?_
      show Steps p.tables e below (T5.setTop (mkF m 172 #[.val (.int p0), .val (.int p1), .val (.int p2), .val (.int p3), .val (.int (0 : Int32)), .val (.int lf), .val (.int ln), .val (.int p2), .val (.int p2), .val (.ref dd), .val (.int got), .val (.int et_), ((if (0 : Int32) < lf then (if lf = (1 : Int32) then .val (.int (255 : Int32)) else (if lf = (2 : Int32) then .val (.int (65535 : Int32)) else .val (.int (16777215 : Int32)))) else .unset) : Slot)] [(.int (13 : Int32)), (.int et_), (.int et_)])) _
      refine XS.iushr X5.here hx rfl (hb hby at_172) rfl ?_
      show Steps p.tables e below (T5.setTop (mkF m 173 #[.val (.int p0), .val (.int p1), .val (.int p2), .val (.int p3), .val (.int (0 : Int32)), .val (.int lf), .val (.int ln), .val (.int p2), .val (.int p2), .val (.ref dd), .val (.int got), .val (.int et_), ((if (0 : Int32) < lf then (if lf = (1 : Int32) then .val (.int (255 : Int32)) else (if lf = (2 : Int32) then .val (.int (65535 : Int32)) else .val (.int (16777215 : Int32)))) else .unset) : Slot)] [(.int ((et_.toUInt32 >>> ((13 : Int32) &&& 31).toUInt32).toInt32)), (.int et_)])) _
      refine XS.ixor X5.here hx rfl (hb hby at_173) rfl ?_
      show Steps p.tables e below (T5.setTop (mkF m 174 #[.val (.int p0), .val (.int p1), .val (.int p2), .val (.int p3), .val (.int (0 : Int32)), .val (.int lf), .val (.int ln), .val (.int p2), .val (.int p2), .val (.ref dd), .val (.int got), .val (.int et_), ((if (0 : Int32) < lf then (if lf = (1 : Int32) then .val (.int (255 : Int32)) else (if lf = (2 : Int32) then .val (.int (65535 : Int32)) else .val (.int (16777215 : Int32)))) else .unset) : Slot)] [(.int (et_ ^^^ ((et_.toUInt32 >>> ((13 : Int32) &&& 31).toUInt32).toInt32)))])) _
      rw [← h_ea_]
      show Steps p.tables e below (T5.setTop (mkF m 174 #[.val (.int p0), .val (.int p1), .val (.int p2), .val (.int p3), .val (.int (0 : Int32)), .val (.int lf), .val (.int ln), .val (.int p2), .val (.int p2), .val (.ref dd), .val (.int got), .val (.int et_), ((if (0 : Int32) < lf then (if lf = (1 : Int32) then .val (.int (255 : Int32)) else (if lf = (2 : Int32) then .val (.int (65535 : Int32)) else .val (.int (16777215 : Int32)))) else .unset) : Slot)] [(.int ea_)])) _
      refine XS.istore X5.here hx rfl (hb hby at_174) rfl (l' := #[.val (.int p0), .val (.int p1), .val (.int p2), .val (.int p3), .val (.int (0 : Int32)), .val (.int lf), .val (.int ln), .val (.int p2), .val (.int p2), .val (.ref dd), .val (.int got), .val (.int ea_), ((if (0 : Int32) < lf then (if lf = (1 : Int32) then .val (.int (255 : Int32)) else (if lf = (2 : Int32) then .val (.int (65535 : Int32)) else .val (.int (16777215 : Int32)))) else .unset) : Slot)]) rfl ?_
      show Steps p.tables e below (T5.setTop (mkF m 176 #[.val (.int p0), .val (.int p1), .val (.int p2), .val (.int p3), .val (.int (0 : Int32)), .val (.int lf), .val (.int ln), .val (.int p2), .val (.int p2), .val (.ref dd), .val (.int got), .val (.int ea_), ((if (0 : Int32) < lf then (if lf = (1 : Int32) then .val (.int (255 : Int32)) else (if lf = (2 : Int32) then .val (.int (65535 : Int32)) else .val (.int (16777215 : Int32)))) else .unset) : Slot)] [])) _
      refine XS.iload X5.here hx rfl (hb hby at_176) rfl ?_
      show Steps p.tables e below (T5.setTop (mkF m 178 #[.val (.int p0), .val (.int p1), .val (.int p2), .val (.int p3), .val (.int (0 : Int32)), .val (.int lf), .val (.int ln), .val (.int p2), .val (.int p2), .val (.ref dd), .val (.int got), .val (.int ea_), ((if (0 : Int32) < lf then (if lf = (1 : Int32) then .val (.int (255 : Int32)) else (if lf = (2 : Int32) then .val (.int (65535 : Int32)) else .val (.int (16777215 : Int32)))) else .unset) : Slot)] [(.int ea_)])) _
      refine X5.ldcInt hx hown (mvT hZ (hw _ (List.mem_of_getElem? (i := 15) rfl))) (g := (mkF m 178 #[.val (.int p0), .val (.int p1), .val (.int p2), .val (.int p3), .val (.int (0 : Int32)), .val (.int lf), .val (.int ln), .val (.int p2), .val (.int p2), .val (.ref dd), .val (.int got), .val (.int ea_), ((if (0 : Int32) < lf then (if lf = (1 : Int32) then .val (.int (255 : Int32)) else (if lf = (2 : Int32) then .val (.int (65535 : Int32)) else .val (.int (16777215 : Int32)))) else .unset) : Slot)] [(.int ea_)])) rfl (hb hby at_178) _ ?_
      show Steps p.tables e below (T5.setTop (mkF m 180 #[.val (.int p0), .val (.int p1), .val (.int p2), .val (.int p3), .val (.int (0 : Int32)), .val (.int lf), .val (.int ln), .val (.int p2), .val (.int p2), .val (.ref dd), .val (.int got), .val (.int ea_), ((if (0 : Int32) < lf then (if lf = (1 : Int32) then .val (.int (255 : Int32)) else (if lf = (2 : Int32) then .val (.int (65535 : Int32)) else .val (.int (16777215 : Int32)))) else .unset) : Slot)] [(.int (1540483477 : Int32)), (.int ea_)])) _
      refine XS.imul X5.here hx rfl (hb hby at_180) rfl ?_
      show Steps p.tables e below (T5.setTop (mkF m 181 #[.val (.int p0), .val (.int p1), .val (.int p2), .val (.int p3), .val (.int (0 : Int32)), .val (.int lf), .val (.int ln), .val (.int p2), .val (.int p2), .val (.ref dd), .val (.int got), .val (.int ea_), ((if (0 : Int32) < lf then (if lf = (1 : Int32) then .val (.int (255 : Int32)) else (if lf = (2 : Int32) then .val (.int (65535 : Int32)) else .val (.int (16777215 : Int32)))) else .unset) : Slot)] [(.int (ea_ * (1540483477 : Int32)))])) _
      rw [← h_eb_]
      show Steps p.tables e below (T5.setTop (mkF m 181 #[.val (.int p0), .val (.int p1), .val (.int p2), .val (.int p3), .val (.int (0 : Int32)), .val (.int lf), .val (.int ln), .val (.int p2), .val (.int p2), .val (.ref dd), .val (.int got), .val (.int ea_), ((if (0 : Int32) < lf then (if lf = (1 : Int32) then .val (.int (255 : Int32)) else (if lf = (2 : Int32) then .val (.int (65535 : Int32)) else .val (.int (16777215 : Int32)))) else .unset) : Slot)] [(.int eb_)])) _
      refine XS.istore X5.here hx rfl (hb hby at_181) rfl (l' := #[.val (.int p0), .val (.int p1), .val (.int p2), .val (.int p3), .val (.int (0 : Int32)), .val (.int lf), .val (.int ln), .val (.int p2), .val (.int p2), .val (.ref dd), .val (.int got), .val (.int eb_), ((if (0 : Int32) < lf then (if lf = (1 : Int32) then .val (.int (255 : Int32)) else (if lf = (2 : Int32) then .val (.int (65535 : Int32)) else .val (.int (16777215 : Int32)))) else .unset) : Slot)]) rfl ?_
      show Steps p.tables e below (T5.setTop (mkF m 183 #[.val (.int p0), .val (.int p1), .val (.int p2), .val (.int p3), .val (.int (0 : Int32)), .val (.int lf), .val (.int ln), .val (.int p2), .val (.int p2), .val (.ref dd), .val (.int got), .val (.int eb_), ((if (0 : Int32) < lf then (if lf = (1 : Int32) then .val (.int (255 : Int32)) else (if lf = (2 : Int32) then .val (.int (65535 : Int32)) else .val (.int (16777215 : Int32)))) else .unset) : Slot)] [])) _
      refine XS.iload X5.here hx rfl (hb hby at_183) rfl ?_
      show Steps p.tables e below (T5.setTop (mkF m 185 #[.val (.int p0), .val (.int p1), .val (.int p2), .val (.int p3), .val (.int (0 : Int32)), .val (.int lf), .val (.int ln), .val (.int p2), .val (.int p2), .val (.ref dd), .val (.int got), .val (.int eb_), ((if (0 : Int32) < lf then (if lf = (1 : Int32) then .val (.int (255 : Int32)) else (if lf = (2 : Int32) then .val (.int (65535 : Int32)) else .val (.int (16777215 : Int32)))) else .unset) : Slot)] [(.int eb_)])) _
      refine XS.iload X5.here hx rfl (hb hby at_185) rfl ?_
      show Steps p.tables e below (T5.setTop (mkF m 187 #[.val (.int p0), .val (.int p1), .val (.int p2), .val (.int p3), .val (.int (0 : Int32)), .val (.int lf), .val (.int ln), .val (.int p2), .val (.int p2), .val (.ref dd), .val (.int got), .val (.int eb_), ((if (0 : Int32) < lf then (if lf = (1 : Int32) then .val (.int (255 : Int32)) else (if lf = (2 : Int32) then .val (.int (65535 : Int32)) else .val (.int (16777215 : Int32)))) else .unset) : Slot)] [(.int eb_), (.int eb_)])) _
      refine XS.bipush X5.here hx rfl (hb hby at_187) ?_
      show Steps p.tables e below (T5.setTop (mkF m 189 #[.val (.int p0), .val (.int p1), .val (.int p2), .val (.int p3), .val (.int (0 : Int32)), .val (.int lf), .val (.int ln), .val (.int p2), .val (.int p2), .val (.ref dd), .val (.int got), .val (.int eb_), ((if (0 : Int32) < lf then (if lf = (1 : Int32) then .val (.int (255 : Int32)) else (if lf = (2 : Int32) then .val (.int (65535 : Int32)) else .val (.int (16777215 : Int32)))) else .unset) : Slot)] [(.int (15 : Int32)), (.int eb_), (.int eb_)])) _
      refine XS.iushr X5.here hx rfl (hb hby at_189) rfl ?_
      show Steps p.tables e below (T5.setTop (mkF m 190 #[.val (.int p0), .val (.int p1), .val (.int p2), .val (.int p3), .val (.int (0 : Int32)), .val (.int lf), .val (.int ln), .val (.int p2), .val (.int p2), .val (.ref dd), .val (.int got), .val (.int eb_), ((if (0 : Int32) < lf then (if lf = (1 : Int32) then .val (.int (255 : Int32)) else (if lf = (2 : Int32) then .val (.int (65535 : Int32)) else .val (.int (16777215 : Int32)))) else .unset) : Slot)] [(.int ((eb_.toUInt32 >>> ((15 : Int32) &&& 31).toUInt32).toInt32)), (.int eb_)])) _
      refine XS.ixor X5.here hx rfl (hb hby at_190) rfl ?_
      show Steps p.tables e below (T5.setTop (mkF m 191 #[.val (.int p0), .val (.int p1), .val (.int p2), .val (.int p3), .val (.int (0 : Int32)), .val (.int lf), .val (.int ln), .val (.int p2), .val (.int p2), .val (.ref dd), .val (.int got), .val (.int eb_), ((if (0 : Int32) < lf then (if lf = (1 : Int32) then .val (.int (255 : Int32)) else (if lf = (2 : Int32) then .val (.int (65535 : Int32)) else .val (.int (16777215 : Int32)))) else .unset) : Slot)] [(.int (eb_ ^^^ ((eb_.toUInt32 >>> ((15 : Int32) &&& 31).toUInt32).toInt32)))])) _
      rw [← h_ec_]
      show Steps p.tables e below (T5.setTop (mkF m 191 #[.val (.int p0), .val (.int p1), .val (.int p2), .val (.int p3), .val (.int (0 : Int32)), .val (.int lf), .val (.int ln), .val (.int p2), .val (.int p2), .val (.ref dd), .val (.int got), .val (.int eb_), ((if (0 : Int32) < lf then (if lf = (1 : Int32) then .val (.int (255 : Int32)) else (if lf = (2 : Int32) then .val (.int (65535 : Int32)) else .val (.int (16777215 : Int32)))) else .unset) : Slot)] [(.int ec_)])) _
      refine XS.istore X5.here hx rfl (hb hby at_191) rfl (l' := #[.val (.int p0), .val (.int p1), .val (.int p2), .val (.int p3), .val (.int (0 : Int32)), .val (.int lf), .val (.int ln), .val (.int p2), .val (.int p2), .val (.ref dd), .val (.int got), .val (.int ec_), ((if (0 : Int32) < lf then (if lf = (1 : Int32) then .val (.int (255 : Int32)) else (if lf = (2 : Int32) then .val (.int (65535 : Int32)) else .val (.int (16777215 : Int32)))) else .unset) : Slot)]) rfl ?_
      show Steps p.tables e below (T5.setTop (mkF m 193 #[.val (.int p0), .val (.int p1), .val (.int p2), .val (.int p3), .val (.int (0 : Int32)), .val (.int lf), .val (.int ln), .val (.int p2), .val (.int p2), .val (.ref dd), .val (.int got), .val (.int ec_), ((if (0 : Int32) < lf then (if lf = (1 : Int32) then .val (.int (255 : Int32)) else (if lf = (2 : Int32) then .val (.int (65535 : Int32)) else .val (.int (16777215 : Int32)))) else .unset) : Slot)] [])) _
      refine XS.iload X5.here hx rfl (hb hby at_193) rfl ?_
      show Steps p.tables e below (T5.setTop (mkF m 195 #[.val (.int p0), .val (.int p1), .val (.int p2), .val (.int p3), .val (.int (0 : Int32)), .val (.int lf), .val (.int ln), .val (.int p2), .val (.int p2), .val (.ref dd), .val (.int got), .val (.int ec_), ((if (0 : Int32) < lf then (if lf = (1 : Int32) then .val (.int (255 : Int32)) else (if lf = (2 : Int32) then .val (.int (65535 : Int32)) else .val (.int (16777215 : Int32)))) else .unset) : Slot)] [(.int got)])) _
      refine XS.iload X5.here hx rfl (hb hby at_195) rfl ?_
      show Steps p.tables e below (T5.setTop (mkF m 197 #[.val (.int p0), .val (.int p1), .val (.int p2), .val (.int p3), .val (.int (0 : Int32)), .val (.int lf), .val (.int ln), .val (.int p2), .val (.int p2), .val (.ref dd), .val (.int got), .val (.int ec_), ((if (0 : Int32) < lf then (if lf = (1 : Int32) then .val (.int (255 : Int32)) else (if lf = (2 : Int32) then .val (.int (65535 : Int32)) else .val (.int (16777215 : Int32)))) else .unset) : Slot)] [(.int ec_), (.int got)])) _
      refine XS.icmpNo X5.here hx rfl (hb hby at_197) rfl (teq (by rw [h_got, h_ec_, h_eb_, h_ea_, h_et_, h_e0_]; exact own_fin0 p0 p1 p2 ln lf Bn : got = ec_)).2 ?_
      show Steps p.tables e below (T5.setTop (mkF m 200 #[.val (.int p0), .val (.int p1), .val (.int p2), .val (.int p3), .val (.int (0 : Int32)), .val (.int lf), .val (.int ln), .val (.int p2), .val (.int p2), .val (.ref dd), .val (.int got), .val (.int ec_), ((if (0 : Int32) < lf then (if lf = (1 : Int32) then .val (.int (255 : Int32)) else (if lf = (2 : Int32) then .val (.int (65535 : Int32)) else .val (.int (16777215 : Int32)))) else .unset) : Slot)] [])) _
      refine XS.iconst X5.here hx rfl (hb hby at_200) ?_
      show Steps p.tables e below (T5.setTop (mkF m 201 #[.val (.int p0), .val (.int p1), .val (.int p2), .val (.int p3), .val (.int (0 : Int32)), .val (.int lf), .val (.int ln), .val (.int p2), .val (.int p2), .val (.ref dd), .val (.int got), .val (.int ec_), ((if (0 : Int32) < lf then (if lf = (1 : Int32) then .val (.int (255 : Int32)) else (if lf = (2 : Int32) then .val (.int (65535 : Int32)) else .val (.int (16777215 : Int32)))) else .unset) : Slot)] [(.int (1 : Int32))])) _
      refine XS.goto X5.here hx rfl (pc0 := 201) (pc' := 205) rfl (hb hby at_201) (by decide) (by decide) ?_
      show Steps p.tables e below (T5.setTop (mkF m 205 #[.val (.int p0), .val (.int p1), .val (.int p2), .val (.int p3), .val (.int (0 : Int32)), .val (.int lf), .val (.int ln), .val (.int p2), .val (.int p2), .val (.ref dd), .val (.int got), .val (.int ec_), ((if (0 : Int32) < lf then (if lf = (1 : Int32) then .val (.int (255 : Int32)) else (if lf = (2 : Int32) then .val (.int (65535 : Int32)) else .val (.int (16777215 : Int32)))) else .unset) : Slot)] [(.int (1 : Int32))])) _
      exact retN X5 hx (t := .boolean) Bd.returns (by simp) (hb hby at_205) hr
    · show Qrm0 Z p0 p1 p2 p3 h0 n0 _ T5.heap _
      rw [eh5]
      exact ⟨rfl, N5⟩
  · obtain ⟨lf, h_lf⟩ : ∃ z : Int32, z = (p3 &&& (3 : Int32)) := ⟨_, rfl⟩
    obtain ⟨ln, h_ln⟩ : ∃ z : Int32, z = (((4 : Int32) * (1 : Int32)) + lf) := ⟨_, rfl⟩
    have Bn : ln.toInt = 4 + lf.toInt ∧ 0 ≤ lf.toInt ∧ lf.toInt ≤ 3 := own_ln1 p3 h_lf h_ln
    obtain ⟨T6, h6, k6, X6, e6, E6, A6, st6⟩ := newP X0 hx hZ (hw _ (List.mem_of_getElem? (i := 0) rfl)) e0 (g := (mkF m 48 #[.val (.int p0), .val (.int p1), .val (.int p2), .val (.int p3), .val (.int (1 : Int32)), .val (.int lf), .val (.int ln), .val (.int p0), .val (.int p2), .unset, .unset, .unset, .unset] [(.int ln)])) rfl (hb hby at_48) rfl (own_nn (by decide) Bn).1 (cap := 11) (own_nn (by decide) Bn).2 (by decide) (by decide) (by decide)
    obtain ⟨dd, g6⟩ : ∃ z, z = h0.size := ⟨_, rfl⟩
    rw [← g6] at A6 st6
    have g_dd : n0 ≤ dd := Nat.le_trans Z0 (Nat.le_of_eq g6.symm)
    have sz_dd : h0.size ≤ dd := Nat.le_trans K0.1 (Nat.le_of_eq g6.symm)
    have Zh6 : n0 ≤ h6.size := Nat.le_trans Z0 E6.1
    have Kh6 : Keep h0 h6 [] := K0.ext E6
    have V_dd : Arv Z h6 dd k6 .byte ln [] (.int (0 : Int32)) := Arv.new A6 (own_nn (by decide) Bn).1
    have V_dd : Arv Z h6 dd k6 .byte ln (List.replicate ln.toNatClampNeg (.int (0 : Int32))) (.int (0 : Int32)) := V_dd.pad (pad_rep [] (.int (0 : Int32)) ln.toNatClampNeg)
    obtain ⟨_, _, ⟨T7, L7, k7, n7⟩, -, X7, ⟨Lc7, hQ7, l7, y7, z7⟩, st7⟩ := Jvm.LawKit.callS X6 hx (y := (⟨"com/example/parley/parley/client/Murmur2HashPinLaw", "put", "([BII)V"⟩ : MethodName)) hown (mvT hZ (hw _ (List.mem_of_getElem? (i := 1) rfl))) (mvT hZ (hw _ (List.mem_of_getElem? (i := 2) rfl))) (mvT hZ (hw _ (List.mem_of_getElem? (i := 3) rfl))) (mvT hZ (hw _ (List.mem_of_getElem? (i := 4) rfl))) (by decide) (backOf (W := 0) (rm1_0 l Z A0 hw [] dd p0 k6 ln (List.replicate ln.toNatClampNeg (.int (0 : Int32))) (.int (0 : Int32)) h6 n0 Zh6 V_dd g_dd (by simp only [own_put_len, List.length_replicate])) hZ (hw _ (List.mem_of_getElem? (i := 4) rfl)) (hw _ (List.mem_of_getElem? (i := 3) rfl)) (by decide) (by decide)) (g := (mkF m 57 #[.val (.int p0), .val (.int p1), .val (.int p2), .val (.int p3), .val (.int (1 : Int32)), .val (.int lf), .val (.int ln), .val (.int p0), .val (.int p2), .val (.ref dd), .unset, .unset, .unset] [(.int p0), (.int (0 : Int32)), (.ref dd)])) rfl (by rw [hml]; rfl) (argsL := [(.ref dd), (.int (0 : Int32)), (.int p0)]) (rest := []) (lenOf pd_0 rfl) rfl (by show 2 * 0 + _ ≤ _; exact Nat.le_of_eq rfl) (hb hby at_57) (fun _ _ => ⟨rfl, e6, (by decide : 1 + 0 ≤ _), (by decide : 11 + 0 ≤ _)⟩)
    dsimp only [Pt.U, Pt.locs, Pt.cells, Pt.slots] at X7 l7 y7 z7 st7 hQ7
    subst l7 y7 z7
    obtain ⟨rfl, N7q, Kc7, P7_0⟩ := hQ7
    have N7 := Fr.app N0 N7q
    have ZT7_heap : n0 ≤ T7.heap.size := Nat.le_trans Zh6 Kc7.1
    have KT7_heap : Keep h0 T7.heap [] := Kh6.trans Kc7 (allS (Or.inr sz_dd) all0)
    have V_dd : Arv Z T7.heap dd k6 .byte ln (own_put (List.replicate ln.toNatClampNeg (.int (0 : Int32))) 0 p0) (.int (0 : Int32)) := P7_0
    obtain ⟨_, _, ⟨T8, L8, k8, n8⟩, -, X8, ⟨Lc8, hQ8, l8, y8, z8⟩, st8⟩ := Jvm.LawKit.callS X7 hx (y := (⟨"com/example/parley/parley/client/Murmur2HashPinLaw", "put", "([BII)V"⟩ : MethodName)) hown (mvT hZ (hw _ (List.mem_of_getElem? (i := 1) rfl))) (mvT hZ (hw _ (List.mem_of_getElem? (i := 2) rfl))) (mvT hZ (hw _ (List.mem_of_getElem? (i := 3) rfl))) (mvT hZ (hw _ (List.mem_of_getElem? (i := 4) rfl))) (by decide) (backOf (W := 0) (rm1_4 l Z A0 hw [] dd p2 k6 ln (own_put (List.replicate ln.toNatClampNeg (.int (0 : Int32))) 0 p0) (.int (0 : Int32)) T7.heap n0 ZT7_heap V_dd g_dd (by simp only [own_put_len, List.length_replicate])) hZ (hw _ (List.mem_of_getElem? (i := 4) rfl)) (hw _ (List.mem_of_getElem? (i := 3) rfl)) (by decide) (by decide)) (g := (mkF m 65 #[.val (.int p0), .val (.int p1), .val (.int p2), .val (.int p3), .val (.int (1 : Int32)), .val (.int lf), .val (.int ln), .val (.int p0), .val (.int p2), .val (.ref dd), .unset, .unset, .unset] [(.int p2), (.int (4 : Int32)), (.ref dd)])) rfl (by rw [hml]; rfl) (argsL := [(.ref dd), (.int (4 : Int32)), (.int p2)]) (rest := []) (lenOf pd_0 rfl) rfl (by show 2 * 0 + _ ≤ _; exact Nat.le_of_eq rfl) (hb hby at_65) (fun _ _ => ⟨rfl, rfl, (by decide : 1 + 0 ≤ _), (by decide : 11 + 0 ≤ _)⟩)
    dsimp only [Pt.U, Pt.locs, Pt.cells, Pt.slots] at X8 l8 y8 z8 st8 hQ8
    subst l8 y8 z8
    obtain ⟨rfl, N8q, Kc8, P8_0⟩ := hQ8
    have N8 := Fr.app N7 N8q
    have ZT8_heap : n0 ≤ T8.heap.size := Nat.le_trans ZT7_heap Kc8.1
    have KT8_heap : Keep h0 T8.heap [] := KT7_heap.trans Kc8 (allS (Or.inr sz_dd) all0)
    have V_dd : Arv Z T8.heap dd k6 .byte ln (own_put (own_put (List.replicate ln.toNatClampNeg (.int (0 : Int32))) 0 p0) 4 p2) (.int (0 : Int32)) := P8_0
    obtain ⟨_, _, ⟨T9, L9, k9, n9⟩, -, X9, ⟨Lc9, hQ9, l9, y9, z9⟩, st9⟩ := Jvm.LawKit.callS X8 hx (y := (⟨"com/example/parley/parley/client/Murmur2HashPinLaw", "put", "([BII)V"⟩ : MethodName)) hown (mvT hZ (hw _ (List.mem_of_getElem? (i := 1) rfl))) (mvT hZ (hw _ (List.mem_of_getElem? (i := 2) rfl))) (mvT hZ (hw _ (List.mem_of_getElem? (i := 3) rfl))) (mvT hZ (hw _ (List.mem_of_getElem? (i := 4) rfl))) (by decide) (backOf (W := 0) (rm1_8 l Z A0 hw [] dd p2 k6 ln (own_put (own_put (List.replicate ln.toNatClampNeg (.int (0 : Int32))) 0 p0) 4 p2) (.int (0 : Int32)) T8.heap n0 ZT8_heap V_dd g_dd (by simp only [own_put_len, List.length_replicate])) hZ (hw _ (List.mem_of_getElem? (i := 4) rfl)) (hw _ (List.mem_of_getElem? (i := 3) rfl)) (by decide) (by decide)) (g := (mkF m 73 #[.val (.int p0), .val (.int p1), .val (.int p2), .val (.int p3), .val (.int (1 : Int32)), .val (.int lf), .val (.int ln), .val (.int p0), .val (.int p2), .val (.ref dd), .unset, .unset, .unset] [(.int p2), (.int (8 : Int32)), (.ref dd)])) rfl (by rw [hml]; rfl) (argsL := [(.ref dd), (.int (8 : Int32)), (.int p2)]) (rest := []) (lenOf pd_0 rfl) rfl (by show 2 * 0 + _ ≤ _; exact Nat.le_of_eq rfl) (hb hby at_73) (fun _ _ => ⟨rfl, rfl, (by decide : 1 + 0 ≤ _), (by decide : 11 + 0 ≤ _)⟩)
    dsimp only [Pt.U, Pt.locs, Pt.cells, Pt.slots] at X9 l9 y9 z9 st9 hQ9
    subst l9 y9 z9
    obtain ⟨rfl, N9q, Kc9, P9_0⟩ := hQ9
    have N9 := Fr.app N8 N9q
    have ZT9_heap : n0 ≤ T9.heap.size := Nat.le_trans ZT8_heap Kc9.1
    have KT9_heap : Keep h0 T9.heap [] := KT8_heap.trans Kc9 (allS (Or.inr sz_dd) all0)
    have V_dd : Arv Z T9.heap dd k6 .byte ln (own_put (own_put (own_put (List.replicate ln.toNatClampNeg (.int (0 : Int32))) 0 p0) 4 p2) 8 p2) (.int (0 : Int32)) := P9_0
    obtain ⟨_, _, ⟨T10, L10, k10, n10⟩, -, X10, ⟨Lc10, hQ10, l10, y10, z10⟩, st10⟩ := Jvm.LawKit.callS X9 hx (y := (⟨"com/example/parley/parley/client/Murmur2", "hash", "([B)I"⟩ : MethodName)) hown (mvT hZ (hw _ (List.mem_of_getElem? (i := 8) rfl))) (mvT hZ (hw _ (List.mem_of_getElem? (i := 9) rfl))) (mvT hZ (hw _ (List.mem_of_getElem? (i := 10) rfl))) (mvT hZ (hw _ (List.mem_of_getElem? (i := 11) rfl))) (by decide) (backOf (W := 0) (rm3_1 l Z A0 hw [] dd k6 ln (own_put (own_put (own_put (List.replicate ln.toNatClampNeg (.int (0 : Int32))) 0 p0) 4 p2) 8 p2) (.int (0 : Int32)) (own_b0 p0) (own_b1 p0) (own_b2 p0) (own_b3 p0) (own_b0 p2) (own_b1 p2) (own_b2 p2) T9.heap n0 ZT9_heap V_dd (by omega) (own_at1_0 p0 p1 p2 Bn (by omega)) (own_at1_1 p0 p1 p2 Bn (by omega)) (own_at1_2 p0 p1 p2 Bn (by omega)) (own_at1_3 p0 p1 p2 Bn (by omega)) (fun q => own_at1_4 p0 p1 p2 Bn q) (fun q => own_at1_5 p0 p1 p2 Bn q) (fun q => own_at1_6 p0 p1 p2 Bn q)) hZ (hw _ (List.mem_of_getElem? (i := 11) rfl)) (hw _ (List.mem_of_getElem? (i := 10) rfl)) (by decide) (by decide)) (g := (mkF m 78 #[.val (.int p0), .val (.int p1), .val (.int p2), .val (.int p3), .val (.int (1 : Int32)), .val (.int lf), .val (.int ln), .val (.int p0), .val (.int p2), .val (.ref dd), .unset, .unset, .unset] [(.ref dd)])) rfl (by rw [hml]; rfl) (argsL := [(.ref dd)]) (rest := []) (lenOf pd_1 rfl) rfl (by show 2 * 0 + _ ≤ _; exact Nat.le_of_eq rfl) (hb hby at_78) (fun _ _ => ⟨rfl, rfl, (by decide : 1 + 0 ≤ _), (by decide : 11 + 0 ≤ _)⟩)
    dsimp only [Pt.U, Pt.locs, Pt.cells, Pt.slots] at X10 l10 y10 z10 st10 hQ10
    subst l10 y10 z10
    obtain ⟨rfl, N10q, eh10⟩ := hQ10
    have N10 := Fr.app N9 N10q
    obtain ⟨got, h_got⟩ : ∃ z : Int32, z = (own_h1 ln (own_b0 p0) (own_b1 p0) (own_b2 p0) (own_b3 p0) (own_b0 p2) (own_b1 p2) (own_b2 p2)) := ⟨_, rfl⟩
    obtain ⟨e0_, h_e0_⟩ : ∃ z : Int32, z = ((-1756908916 : Int32) ^^^ ln) := ⟨_, rfl⟩
    obtain ⟨_, _, ⟨T11, L11, k11, n11⟩, -, X11, ⟨Lc11, hQ11, l11, y11, z11⟩, st11⟩ := Jvm.LawKit.callS X10 hx (y := (⟨"com/example/parley/parley/client/Murmur2HashPinLaw", "block", "(II)I"⟩ : MethodName)) hown (mvT hZ (hw _ (List.mem_of_getElem? (i := 16) rfl))) (mvT hZ (hw _ (List.mem_of_getElem? (i := 17) rfl))) (mvT hZ (hw _ (List.mem_of_getElem? (i := 3) rfl))) (mvT hZ (hw _ (List.mem_of_getElem? (i := 18) rfl))) (by decide) (backOf (W := 0) (rm4 l Z A0 hw [] e0_ p0  T9.heap n0 ZT9_heap ) hZ (hw _ (List.mem_of_getElem? (i := 18) rfl)) (hw _ (List.mem_of_getElem? (i := 3) rfl)) (by decide) (by decide)) (g := (mkF m 99 #[.val (.int p0), .val (.int p1), .val (.int p2), .val (.int p3), .val (.int (1 : Int32)), .val (.int lf), .val (.int ln), .val (.int p0), .val (.int p2), .val (.ref dd), .val (.int got), .val (.int e0_), .unset] [(.int p0), (.int e0_)])) rfl (by rw [hml]; rfl) (argsL := [(.int e0_), (.int p0)]) (rest := []) (lenOf pd_2 rfl) rfl (by show 2 * 0 + _ ≤ _; exact Nat.le_of_eq rfl) (hb hby at_99) (fun _ _ => ⟨rfl, eh10, (by decide : 1 + 0 ≤ _), (by decide : 11 + 0 ≤ _)⟩)
    dsimp only [Pt.U, Pt.locs, Pt.cells, Pt.slots] at X11 l11 y11 z11 st11 hQ11
    subst l11 y11 z11
    obtain ⟨rfl, N11q, eh11⟩ := hQ11
    have N11 := Fr.app N10 N11q
    obtain ⟨e1_, h_e1_⟩ : ∃ z : Int32, z = ((e0_ * (1540483477 : Int32)) ^^^ (((p0 * (1540483477 : Int32)) ^^^ (((p0 * (1540483477 : Int32)).toUInt32 >>> ((24 : Int32) &&& 31).toUInt32).toInt32)) * (1540483477 : Int32))) := ⟨_, rfl⟩
    obtain ⟨et_, h_et_⟩ : ∃ z : Int32, z = (if (0 : Int32) < lf then (if lf = (1 : Int32) then ((e1_ ^^^ (p2 &&& (255 : Int32))) * (1540483477 : Int32)) else (if lf = (2 : Int32) then ((e1_ ^^^ (p2 &&& (65535 : Int32))) * (1540483477 : Int32)) else ((e1_ ^^^ (p2 &&& (16777215 : Int32))) * (1540483477 : Int32)))) else e1_) := ⟨_, rfl⟩
    obtain ⟨ea_, h_ea_⟩ : ∃ z : Int32, z = (et_ ^^^ ((et_.toUInt32 >>> ((13 : Int32) &&& 31).toUInt32).toInt32)) := ⟨_, rfl⟩
    obtain ⟨eb_, h_eb_⟩ : ∃ z : Int32, z = (ea_ * (1540483477 : Int32)) := ⟨_, rfl⟩
    obtain ⟨ec_, h_ec_⟩ : ∃ z : Int32, z = (eb_ ^^^ ((eb_.toUInt32 >>> ((15 : Int32) &&& 31).toUInt32).toInt32)) := ⟨_, rfl⟩
    obtain ⟨fs, hr, hrun, hended, hW, hsame⟩ := X11.leave (v := some (.int (1 : Int32))) (fun h => by rw [Bd.returns] at h; cases h)
    refine ⟨_, _, pre0 _ ?_, hrun, hended, _, _, rfl, ?_, ⟨_, rfl⟩, hW, hsame.mono (by decide) (by decide)⟩
    · show Steps p.tables e below (s₁.setTop (mkF m 0 #[.val (.int p0), .val (.int p1), .val (.int p2), .val (.int p3), .unset, .unset, .unset, .unset, .unset, .unset, .unset, .unset, .unset] [])) _
      refine XS.iloadN X0.here hx rfl (hb hby at_0) rfl ?_
      show Steps p.tables e below (s₁.setTop (mkF m 1 #[.val (.int p0), .val (.int p1), .val (.int p2), .val (.int p3), .unset, .unset, .unset, .unset, .unset, .unset, .unset, .unset, .unset] [(.int p3)])) _
      refine XS.iconst X0.here hx rfl (hb hby at_1) ?_
      show Steps p.tables e below (s₁.setTop (mkF m 2 #[.val (.int p0), .val (.int p1), .val (.int p2), .val (.int p3), .unset, .unset, .unset, .unset, .unset, .unset, .unset, .unset, .unset] [(.int (2 : Int32)), (.int p3)])) _
      refine XS.iushr X0.here hx rfl (hb hby at_2) rfl ?_
      show Steps p.tables e below (s₁.setTop (mkF m 3 #[.val (.int p0), .val (.int p1), .val (.int p2), .val (.int p3), .unset, .unset, .unset, .unset, .unset, .unset, .unset, .unset, .unset] [(.int ((p3.toUInt32 >>> ((2 : Int32) &&& 31).toUInt32).toInt32))])) _
      refine XS.iconst X0.here hx rfl (hb hby at_3) ?_
      show Steps p.tables e below (s₁.setTop (mkF m 4 #[.val (.int p0), .val (.int p1), .val (.int p2), .val (.int p3), .unset, .unset, .unset, .unset, .unset, .unset, .unset, .unset, .unset] [(.int (3 : Int32)), (.int ((p3.toUInt32 >>> ((2 : Int32) &&& 31).toUInt32).toInt32))])) _
      refine iremM X0 hx rfl (hb hby at_4) rfl (by decide) ?_
      show Steps p.tables e below (s₁.setTop (mkF m 5 #[.val (.int p0), .val (.int p1), .val (.int p2), .val (.int p3), .unset, .unset, .unset, .unset, .unset, .unset, .unset, .unset, .unset] [(.int (((p3.toUInt32 >>> ((2 : Int32) &&& 31).toUInt32).toInt32) % (3 : Int32)))])) _
      rw [← h_nb]
      show Steps p.tables e below (s₁.setTop (mkF m 5 #[.val (.int p0), .val (.int p1), .val (.int p2), .val (.int p3), .unset, .unset, .unset, .unset, .unset, .unset, .unset, .unset, .unset] [(.int (1 : Int32))])) _
      refine XS.istore X0.here hx rfl (hb hby at_5) rfl (l' := #[.val (.int p0), .val (.int p1), .val (.int p2), .val (.int p3), .val (.int (1 : Int32)), .unset, .unset, .unset, .unset, .unset, .unset, .unset, .unset]) rfl ?_
      show Steps p.tables e below (s₁.setTop (mkF m 7 #[.val (.int p0), .val (.int p1), .val (.int p2), .val (.int p3), .val (.int (1 : Int32)), .unset, .unset, .unset, .unset, .unset, .unset, .unset, .unset] [])) _
      refine XS.iloadN X0.here hx rfl (hb hby at_7) rfl ?_
      show Steps p.tables e below (s₁.setTop (mkF m 8 #[.val (.int p0), .val (.int p1), .val (.int p2), .val (.int p3), .val (.int (1 : Int32)), .unset, .unset, .unset, .unset, .unset, .unset, .unset, .unset] [(.int p3)])) _
      refine XS.iconst X0.here hx rfl (hb hby at_8) ?_
      show Steps p.tables e below (s₁.setTop (mkF m 9 #[.val (.int p0), .val (.int p1), .val (.int p2), .val (.int p3), .val (.int (1 : Int32)), .unset, .unset, .unset, .unset, .unset, .unset, .unset, .unset] [(.int (3 : Int32)), (.int p3)])) _
      refine XS.iand X0.here hx rfl (hb hby at_9) rfl ?_
      show Steps p.tables e below (s₁.setTop (mkF m 10 #[.val (.int p0), .val (.int p1), .val (.int p2), .val (.int p3), .val (.int (1 : Int32)), .unset, .unset, .unset, .unset, .unset, .unset, .unset, .unset] [(.int (p3 &&& (3 : Int32)))])) _
      rw [← h_lf]
      show Steps p.tables e below (s₁.setTop (mkF m 10 #[.val (.int p0), .val (.int p1), .val (.int p2), .val (.int p3), .val (.int (1 : Int32)), .unset, .unset, .unset, .unset, .unset, .unset, .unset, .unset] [(.int lf)])) _
      refine XS.istore X0.here hx rfl (hb hby at_10) rfl (l' := #[.val (.int p0), .val (.int p1), .val (.int p2), .val (.int p3), .val (.int (1 : Int32)), .val (.int lf), .unset, .unset, .unset, .unset, .unset, .unset, .unset]) rfl ?_
      show Steps p.tables e below (s₁.setTop (mkF m 12 #[.val (.int p0), .val (.int p1), .val (.int p2), .val (.int p3), .val (.int (1 : Int32)), .val (.int lf), .unset, .unset, .unset, .unset, .unset, .unset, .unset] [])) _
      refine XS.iconst X0.here hx rfl (hb hby at_12) ?_
      show Steps p.tables e below (s₁.setTop (mkF m 13 #[.val (.int p0), .val (.int p1), .val (.int p2), .val (.int p3), .val (.int (1 : Int32)), .val (.int lf), .unset, .unset, .unset, .unset, .unset, .unset, .unset] [(.int (4 : Int32))])) _
      refine XS.iload X0.here hx rfl (hb hby at_13) rfl ?_
      show Steps p.tables e below (s₁.setTop (mkF m 15 #[.val (.int p0), .val (.int p1), .val (.int p2), .val (.int p3), .val (.int (1 : Int32)), .val (.int lf), .unset, .unset, .unset, .unset, .unset, .unset, .unset] [(.int (1 : Int32)), (.int (4 : Int32))])) _
      refine XS.imul X0.here hx rfl (hb hby at_15) rfl ?_
      show Steps p.tables e below (s₁.setTop (mkF m 16 #[.val (.int p0), .val (.int p1), .val (.int p2), .val (.int p3), .val (.int (1 : Int32)), .val (.int lf), .unset, .unset, .unset, .unset, .unset, .unset, .unset] [(.int ((4 : Int32) * (1 : Int32)))])) _
      refine XS.iload X0.here hx rfl (hb hby at_16) rfl ?_
      show Steps p.tables e below (s₁.setTop (mkF m 18 #[.val (.int p0), .val (.int p1), .val (.int p2), .val (.int p3), .val (.int (1 : Int32)), .val (.int lf), .unset, .unset, .unset, .unset, .unset, .unset, .unset] [(.int lf), (.int ((4 : Int32) * (1 : Int32)))])) _
      refine XS.iadd X0.here hx rfl (hb hby at_18) rfl ?_
      show Steps p.tables e below (s₁.setTop (mkF m 19 #[.val (.int p0), .val (.int p1), .val (.int p2), .val (.int p3), .val (.int (1 : Int32)), .val (.int lf), .unset, .unset, .unset, .unset, .unset, .unset, .unset] [(.int (((4 : Int32) * (1 : Int32)) + lf))])) _
      rw [← h_ln]
      show Steps p.tables e below (s₁.setTop (mkF m 19 #[.val (.int p0), .val (.int p1), .val (.int p2), .val (.int p3), .val (.int (1 : Int32)), .val (.int lf), .unset, .unset, .unset, .unset, .unset, .unset, .unset] [(.int ln)])) _
      refine XS.istore X0.here hx rfl (hb hby at_19) rfl (l' := #[.val (.int p0), .val (.int p1), .val (.int p2), .val (.int p3), .val (.int (1 : Int32)), .val (.int lf), .val (.int ln), .unset, .unset, .unset, .unset, .unset, .unset]) rfl ?_
      show Steps p.tables e below (s₁.setTop (mkF m 21 #[.val (.int p0), .val (.int p1), .val (.int p2), .val (.int p3), .val (.int (1 : Int32)), .val (.int lf), .val (.int ln), .unset, .unset, .unset, .unset, .unset, .unset] [])) _
      refine XS.iload X0.here hx rfl (hb hby at_21) rfl ?_
      show Steps p.tables e below (s₁.setTop (mkF m 23 #[.val (.int p0), .val (.int p1), .val (.int p2), .val (.int p3), .val (.int (1 : Int32)), .val (.int lf), .val (.int ln), .unset, .unset, .unset, .unset, .unset, .unset] [(.int (1 : Int32))])) _
      refine XS.ifNo X0.here hx rfl (hb hby at_23) rfl ((if0 _ _).trans (tlt (by decide : (0 : Int32) < (1 : Int32))).2.2.2) ?_
      show Steps p.tables e below (s₁.setTop (mkF m 26 #[.val (.int p0), .val (.int p1), .val (.int p2), .val (.int p3), .val (.int (1 : Int32)), .val (.int lf), .val (.int ln), .unset, .unset, .unset, .unset, .unset, .unset] [])) _
      refine XS.iloadN X0.here hx rfl (hb hby at_26) rfl ?_
      show Steps p.tables e below (s₁.setTop (mkF m 27 #[.val (.int p0), .val (.int p1), .val (.int p2), .val (.int p3), .val (.int (1 : Int32)), .val (.int lf), .val (.int ln), .unset, .unset, .unset, .unset, .unset, .unset] [(.int p0)])) _
      refine XS.goto X0.here hx rfl (pc0 := 27) (pc' := 31) rfl (hb hby at_27) (by decide) (by decide) ?_
      show Steps p.tables e below (s₁.setTop (mkF m 31 #[.val (.int p0), .val (.int p1), .val (.int p2), .val (.int p3), .val (.int (1 : Int32)), .val (.int lf), .val (.int ln), .unset, .unset, .unset, .unset, .unset, .unset] [(.int p0)])) _
      refine XS.istore X0.here hx rfl (hb hby at_31) rfl (l' := #[.val (.int p0), .val (.int p1), .val (.int p2), .val (.int p3), .val (.int (1 : Int32)), .val (.int lf), .val (.int ln), .val (.int p0), .unset, .unset, .unset, .unset, .unset]) rfl ?_
      show Steps p.tables e below (s₁.setTop (mkF m 33 #[.val (.int p0), .val (.int p1), .val (.int p2), .val (.int p3), .val (.int (1 : Int32)), .val (.int lf), .val (.int ln), .val (.int p0), .unset, .unset, .unset, .unset, .unset] [])) _
      refine XS.iload X0.here hx rfl (hb hby at_33) rfl ?_
      show Steps p.tables e below (s₁.setTop (mkF m 35 #[.val (.int p0), .val (.int p1), .val (.int p2), .val (.int p3), .val (.int (1 : Int32)), .val (.int lf), .val (.int ln), .val (.int p0), .unset, .unset, .unset, .unset, .unset] [(.int (1 : Int32))])) _
      refine XS.iconst X0.here hx rfl (hb hby at_35) ?_
      show Steps p.tables e below (s₁.setTop (mkF m 36 #[.val (.int p0), .val (.int p1), .val (.int p2), .val (.int p3), .val (.int (1 : Int32)), .val (.int lf), .val (.int ln), .val (.int p0), .unset, .unset, .unset, .unset, .unset] [(.int (1 : Int32)), (.int (1 : Int32))])) _
      refine XS.icmpYes X0.here hx rfl (pc0 := 36) (pc' := 43) rfl (hb hby at_36) rfl (flt (by decide : ¬ ((1 : Int32) < (1 : Int32)))).2.2.2 (by decide) (by decide) ?_
      show Steps p.tables e below (s₁.setTop (mkF m 43 #[.val (.int p0), .val (.int p1), .val (.int p2), .val (.int p3), .val (.int (1 : Int32)), .val (.int lf), .val (.int ln), .val (.int p0), .unset, .unset, .unset, .unset, .unset] [])) _
      refine XS.iloadN X0.here hx rfl (hb hby at_43) rfl ?_
      show Steps p.tables e below (s₁.setTop (mkF m 44 #[.val (.int p0), .val (.int p1), .val (.int p2), .val (.int p3), .val (.int (1 : Int32)), .val (.int lf), .val (.int ln), .val (.int p0), .unset, .unset, .unset, .unset, .unset] [(.int p2)])) _
      refine XS.istore X0.here hx rfl (hb hby at_44) rfl (l' := #[.val (.int p0), .val (.int p1), .val (.int p2), .val (.int p3), .val (.int (1 : Int32)), .val (.int lf), .val (.int ln), .val (.int p0), .val (.int p2), .unset, .unset, .unset, .unset]) rfl ?_
      show Steps p.tables e below (s₁.setTop (mkF m 46 #[.val (.int p0), .val (.int p1), .val (.int p2), .val (.int p3), .val (.int (1 : Int32)), .val (.int lf), .val (.int ln), .val (.int p0), .val (.int p2), .unset, .unset, .unset, .unset] [])) _
      refine XS.iload X0.here hx rfl (hb hby at_46) rfl ?_
      show Steps p.tables e below (s₁.setTop (mkF m 48 #[.val (.int p0), .val (.int p1), .val (.int p2), .val (.int p3), .val (.int (1 : Int32)), .val (.int lf), .val (.int ln), .val (.int p0), .val (.int p2), .unset, .unset, .unset, .unset] [(.int ln)])) _
      refine st6 _ ?_
      show Steps p.tables e below (T6.setTop (mkF m 50 #[.val (.int p0), .val (.int p1), .val (.int p2), .val (.int p3), .val (.int (1 : Int32)), .val (.int lf), .val (.int ln), .val (.int p0), .val (.int p2), .unset, .unset, .unset, .unset] [(.ref dd)])) _
      refine XS.astore X6.here hx rfl (hb hby at_50) rfl rfl (l' := #[.val (.int p0), .val (.int p1), .val (.int p2), .val (.int p3), .val (.int (1 : Int32)), .val (.int lf), .val (.int ln), .val (.int p0), .val (.int p2), .val (.ref dd), .unset, .unset, .unset]) rfl ?_
      show Steps p.tables e below (T6.setTop (mkF m 52 #[.val (.int p0), .val (.int p1), .val (.int p2), .val (.int p3), .val (.int (1 : Int32)), .val (.int lf), .val (.int ln), .val (.int p0), .val (.int p2), .val (.ref dd), .unset, .unset, .unset] [])) _
      refine XS.aload X6.here hx rfl (hb hby at_52) rfl rfl ?_
      show Steps p.tables e below (T6.setTop (mkF m 54 #[.val (.int p0), .val (.int p1), .val (.int p2), .val (.int p3), .val (.int (1 : Int32)), .val (.int lf), .val (.int ln), .val (.int p0), .val (.int p2), .val (.ref dd), .unset, .unset, .unset] [(.ref dd)])) _
      refine XS.iconst X6.here hx rfl (hb hby at_54) ?_
      show Steps p.tables e below (T6.setTop (mkF m 55 #[.val (.int p0), .val (.int p1), .val (.int p2), .val (.int p3), .val (.int (1 : Int32)), .val (.int lf), .val (.int ln), .val (.int p0), .val (.int p2), .val (.ref dd), .unset, .unset, .unset] [(.int (0 : Int32)), (.ref dd)])) _
      refine XS.iload X6.here hx rfl (hb hby at_55) rfl ?_
      show Steps p.tables e below (T6.setTop (mkF m 57 #[.val (.int p0), .val (.int p1), .val (.int p2), .val (.int p3), .val (.int (1 : Int32)), .val (.int lf), .val (.int ln), .val (.int p0), .val (.int p2), .val (.ref dd), .unset, .unset, .unset] [(.int p0), (.int (0 : Int32)), (.ref dd)])) _
      refine st7 _ ?_
      show Steps p.tables e below (T7.setTop (mkF m 60 #[.val (.int p0), .val (.int p1), .val (.int p2), .val (.int p3), .val (.int (1 : Int32)), .val (.int lf), .val (.int ln), .val (.int p0), .val (.int p2), .val (.ref dd), .unset, .unset, .unset] [])) _
      refine XS.aload X7.here hx rfl (hb hby at_60) rfl rfl ?_
      show Steps p.tables e below (T7.setTop (mkF m 62 #[.val (.int p0), .val (.int p1), .val (.int p2), .val (.int p3), .val (.int (1 : Int32)), .val (.int lf), .val (.int ln), .val (.int p0), .val (.int p2), .val (.ref dd), .unset, .unset, .unset] [(.ref dd)])) _
      refine XS.iconst X7.here hx rfl (hb hby at_62) ?_
      show Steps p.tables e below (T7.setTop (mkF m 63 #[.val (.int p0), .val (.int p1), .val (.int p2), .val (.int p3), .val (.int (1 : Int32)), .val (.int lf), .val (.int ln), .val (.int p0), .val (.int p2), .val (.ref dd), .unset, .unset, .unset] [(.int (4 : Int32)), (.ref dd)])) _
      refine XS.iload X7.here hx rfl (hb hby at_63) rfl ?_
      show Steps p.tables e below (T7.setTop (mkF m 65 #[.val (.int p0), .val (.int p1), .val (.int p2), .val (.int p3), .val (.int (1 : Int32)), .val (.int lf), .val (.int ln), .val (.int p0), .val (.int p2), .val (.ref dd), .unset, .unset, .unset] [(.int p2), (.int (4 : Int32)), (.ref dd)])) _
      refine st8 _ ?_
      show Steps p.tables e below (T8.setTop (mkF m 68 #[.val (.int p0), .val (.int p1), .val (.int p2), .val (.int p3), .val (.int (1 : Int32)), .val (.int lf), .val (.int ln), .val (.int p0), .val (.int p2), .val (.ref dd), .unset, .unset, .unset] [])) _
      refine XS.aload X8.here hx rfl (hb hby at_68) rfl rfl ?_
      show Steps p.tables e below (T8.setTop (mkF m 70 #[.val (.int p0), .val (.int p1), .val (.int p2), .val (.int p3), .val (.int (1 : Int32)), .val (.int lf), .val (.int ln), .val (.int p0), .val (.int p2), .val (.ref dd), .unset, .unset, .unset] [(.ref dd)])) _
      refine XS.bipush X8.here hx rfl (hb hby at_70) ?_
      show Steps p.tables e below (T8.setTop (mkF m 72 #[.val (.int p0), .val (.int p1), .val (.int p2), .val (.int p3), .val (.int (1 : Int32)), .val (.int lf), .val (.int ln), .val (.int p0), .val (.int p2), .val (.ref dd), .unset, .unset, .unset] [(.int (8 : Int32)), (.ref dd)])) _
      refine XS.iloadN X8.here hx rfl (hb hby at_72) rfl ?_
      show Steps p.tables e below (T8.setTop (mkF m 73 #[.val (.int p0), .val (.int p1), .val (.int p2), .val (.int p3), .val (.int (1 : Int32)), .val (.int lf), .val (.int ln), .val (.int p0), .val (.int p2), .val (.ref dd), .unset, .unset, .unset] [(.int p2), (.int (8 : Int32)), (.ref dd)])) _
      refine st9 _ ?_
      show Steps p.tables e below (T9.setTop (mkF m 76 #[.val (.int p0), .val (.int p1), .val (.int p2), .val (.int p3), .val (.int (1 : Int32)), .val (.int lf), .val (.int ln), .val (.int p0), .val (.int p2), .val (.ref dd), .unset, .unset, .unset] [])) _
      refine XS.aload X9.here hx rfl (hb hby at_76) rfl rfl ?_
      show Steps p.tables e below (T9.setTop (mkF m 78 #[.val (.int p0), .val (.int p1), .val (.int p2), .val (.int p3), .val (.int (1 : Int32)), .val (.int lf), .val (.int ln), .val (.int p0), .val (.int p2), .val (.ref dd), .unset, .unset, .unset] [(.ref dd)])) _
      refine st10 _ ?_
      show Steps p.tables e below (T10.setTop (mkF m 81 #[.val (.int p0), .val (.int p1), .val (.int p2), .val (.int p3), .val (.int (1 : Int32)), .val (.int lf), .val (.int ln), .val (.int p0), .val (.int p2), .val (.ref dd), .unset, .unset, .unset] [(.int (own_h1 ln (own_b0 p0) (own_b1 p0) (own_b2 p0) (own_b3 p0) (own_b0 p2) (own_b1 p2) (own_b2 p2)))])) _
      rw [← h_got]
      show Steps p.tables e below (T10.setTop (mkF m 81 #[.val (.int p0), .val (.int p1), .val (.int p2), .val (.int p3), .val (.int (1 : Int32)), .val (.int lf), .val (.int ln), .val (.int p0), .val (.int p2), .val (.ref dd), .unset, .unset, .unset] [(.int got)])) _
      refine XS.istore X10.here hx rfl (hb hby at_81) rfl (l' := #[.val (.int p0), .val (.int p1), .val (.int p2), .val (.int p3), .val (.int (1 : Int32)), .val (.int lf), .val (.int ln), .val (.int p0), .val (.int p2), .val (.ref dd), .val (.int got), .unset, .unset]) rfl ?_
      show Steps p.tables e below (T10.setTop (mkF m 83 #[.val (.int p0), .val (.int p1), .val (.int p2), .val (.int p3), .val (.int (1 : Int32)), .val (.int lf), .val (.int ln), .val (.int p0), .val (.int p2), .val (.ref dd), .val (.int got), .unset, .unset] [])) _
      refine X10.ldcInt hx hown (mvT hZ (hw _ (List.mem_of_getElem? (i := 14) rfl))) (g := (mkF m 83 #[.val (.int p0), .val (.int p1), .val (.int p2), .val (.int p3), .val (.int (1 : Int32)), .val (.int lf), .val (.int ln), .val (.int p0), .val (.int p2), .val (.ref dd), .val (.int got), .unset, .unset] [])) rfl (hb hby at_83) _ ?_
      show Steps p.tables e below (T10.setTop (mkF m 85 #[.val (.int p0), .val (.int p1), .val (.int p2), .val (.int p3), .val (.int (1 : Int32)), .val (.int lf), .val (.int ln), .val (.int p0), .val (.int p2), .val (.ref dd), .val (.int got), .unset, .unset] [(.int (-1756908916 : Int32))])) _
      refine XS.iload X10.here hx rfl (hb hby at_85) rfl ?_
      show Steps p.tables e below (T10.setTop (mkF m 87 #[.val (.int p0), .val (.int p1), .val (.int p2), .val (.int p3), .val (.int (1 : Int32)), .val (.int lf), .val (.int ln), .val (.int p0), .val (.int p2), .val (.ref dd), .val (.int got), .unset, .unset] [(.int ln), (.int (-1756908916 : Int32))])) _
      refine XS.ixor X10.here hx rfl (hb hby at_87) rfl ?_
      show Steps p.tables e below (T10.setTop (mkF m 88 #[.val (.int p0), .val (.int p1), .val (.int p2), .val (.int p3), .val (.int (1 : Int32)), .val (.int lf), .val (.int ln), .val (.int p0), .val (.int p2), .val (.ref dd), .val (.int got), .unset, .unset] [(.int ((-1756908916 : Int32) ^^^ ln))])) _
      rw [← h_e0_]
      show Steps p.tables e below (T10.setTop (mkF m 88 #[.val (.int p0), .val (.int p1), .val (.int p2), .val (.int p3), .val (.int (1 : Int32)), .val (.int lf), .val (.int ln), .val (.int p0), .val (.int p2), .val (.ref dd), .val (.int got), .unset, .unset] [(.int e0_)])) _
      refine XS.istore X10.here hx rfl (hb hby at_88) rfl (l' := #[.val (.int p0), .val (.int p1), .val (.int p2), .val (.int p3), .val (.int (1 : Int32)), .val (.int lf), .val (.int ln), .val (.int p0), .val (.int p2), .val (.ref dd), .val (.int got), .val (.int e0_), .unset]) rfl ?_
      show Steps p.tables e below (T10.setTop (mkF m 90 #[.val (.int p0), .val (.int p1), .val (.int p2), .val (.int p3), .val (.int (1 : Int32)), .val (.int lf), .val (.int ln), .val (.int p0), .val (.int p2), .val (.ref dd), .val (.int got), .val (.int e0_), .unset] [])) _
      refine XS.iload X10.here hx rfl (hb hby at_90) rfl ?_
      show Steps p.tables e below (T10.setTop (mkF m 92 #[.val (.int p0), .val (.int p1), .val (.int p2), .val (.int p3), .val (.int (1 : Int32)), .val (.int lf), .val (.int ln), .val (.int p0), .val (.int p2), .val (.ref dd), .val (.int got), .val (.int e0_), .unset] [(.int (1 : Int32))])) _
      refine XS.iconst X10.here hx rfl (hb hby at_92) ?_
      show Steps p.tables e below (T10.setTop (mkF m 93 #[.val (.int p0), .val (.int p1), .val (.int p2), .val (.int p3), .val (.int (1 : Int32)), .val (.int lf), .val (.int ln), .val (.int p0), .val (.int p2), .val (.ref dd), .val (.int got), .val (.int e0_), .unset] [(.int (1 : Int32)), (.int (1 : Int32))])) _
      refine XS.icmpNo X10.here hx rfl (hb hby at_93) rfl (flt (by decide : ¬ ((1 : Int32) < (1 : Int32)))).1 ?_
      show Steps p.tables e below (T10.setTop (mkF m 96 #[.val (.int p0), .val (.int p1), .val (.int p2), .val (.int p3), .val (.int (1 : Int32)), .val (.int lf), .val (.int ln), .val (.int p0), .val (.int p2), .val (.ref dd), .val (.int got), .val (.int e0_), .unset] [])) _
      refine XS.iload X10.here hx rfl (hb hby at_96) rfl ?_
      show Steps p.tables e below (T10.setTop (mkF m 98 #[.val (.int p0), .val (.int p1), .val (.int p2), .val (.int p3), .val (.int (1 : Int32)), .val (.int lf), .val (.int ln), .val (.int p0), .val (.int p2), .val (.ref dd), .val (.int got), .val (.int e0_), .unset] [(.int e0_)])) _
      refine XS.iloadN X10.here hx rfl (hb hby at_98) rfl ?_
      show Steps p.tables e below (T10.setTop (mkF m 99 #[.val (.int p0), .val (.int p1), .val (.int p2), .val (.int p3), .val (.int (1 : Int32)), .val (.int lf), .val (.int ln), .val (.int p0), .val (.int p2), .val (.ref dd), .val (.int got), .val (.int e0_), .unset] [(.int p0), (.int e0_)])) _
      refine st11 _ ?_
      show Steps p.tables e below (T11.setTop (mkF m 102 #[.val (.int p0), .val (.int p1), .val (.int p2), .val (.int p3), .val (.int (1 : Int32)), .val (.int lf), .val (.int ln), .val (.int p0), .val (.int p2), .val (.ref dd), .val (.int got), .val (.int e0_), .unset] [(.int ((e0_ * (1540483477 : Int32)) ^^^ (((p0 * (1540483477 : Int32)) ^^^ (((p0 * (1540483477 : Int32)).toUInt32 >>> ((24 : Int32) &&& 31).toUInt32).toInt32)) * (1540483477 : Int32))))])) _
      rw [← h_e1_]
      show Steps p.tables e below (T11.setTop (mkF m 102 #[.val (.int p0), .val (.int p1), .val (.int p2), .val (.int p3), .val (.int (1 : Int32)), .val (.int lf), .val (.int ln), .val (.int p0), .val (.int p2), .val (.ref dd), .val (.int got), .val (.int e0_), .unset] [(.int e1_)])) _
      refine XS.istore X11.here hx rfl (hb hby at_102) rfl (l' := #[.val (.int p0), .val (.int p1), .val (.int p2), .val (.int p3), .val (.int (1 : Int32)), .val (.int lf), .val (.int ln), .val (.int p0), .val (.int p2), .val (.ref dd), .val (.int got), .val (.int e1_), .unset]) rfl ?_
      show Steps p.tables e below (T11.setTop (mkF m 104 #[.val (.int p0), .val (.int p1), .val (.int p2), .val (.int p3), .val (.int (1 : Int32)), .val (.int lf), .val (.int ln), .val (.int p0), .val (.int p2), .val (.ref dd), .val (.int got), .val (.int e1_), .unset] [])) _
      refine XS.iload X11.here hx rfl (hb hby at_104) rfl ?_
      show Steps p.tables e below (T11.setTop (mkF m 106 #[.val (.int p0), .val (.int p1), .val (.int p2), .val (.int p3), .val (.int (1 : Int32)), .val (.int lf), .val (.int ln), .val (.int p0), .val (.int p2), .val (.ref dd), .val (.int got), .val (.int e1_), .unset] [(.int (1 : Int32))])) _
      refine XS.iconst X11.here hx rfl (hb hby at_106) ?_
      show Steps p.tables e below (T11.setTop (mkF m 107 #[.val (.int p0), .val (.int p1), .val (.int p2), .val (.int p3), .val (.int (1 : Int32)), .val (.int lf), .val (.int ln), .val (.int p0), .val (.int p2), .val (.ref dd), .val (.int got), .val (.int e1_), .unset] [(.int (2 : Int32)), (.int (1 : Int32))])) _
      refine XS.icmpYes X11.here hx rfl (pc0 := 107) (pc' := 118) rfl (hb hby at_107) rfl (tlt (by decide : (1 : Int32) < (2 : Int32))).1 (by decide) (by decide) ?_
      show Steps p.tables e below (T11.setTop (mkF m 118 #[.val (.int p0), .val (.int p1), .val (.int p2), .val (.int p3), .val (.int (1 : Int32)), .val (.int lf), .val (.int ln), .val (.int p0), .val (.int p2), .val (.ref dd), .val (.int got), .val (.int e1_), .unset] [])) _
      refine XS.iload X11.here hx rfl (hb hby at_118) rfl ?_
      refine own_via (T11.setTop (mkF m 166 #[.val (.int p0), .val (.int p1), .val (.int p2), .val (.int p3), .val (.int (1 : Int32)), .val (.int lf), .val (.int ln), .val (.int p0), .val (.int p2), .val (.ref dd), .val (.int got), .val (.int (if (0 : Int32) < lf then (if lf = (1 : Int32) then ((e1_ ^^^ (p2 &&& (255 : Int32))) * (1540483477 : Int32)) else (if lf = (2 : Int32) then ((e1_ ^^^ (p2 &&& (65535 : Int32))) * (1540483477 : Int32)) else ((e1_ ^^^ (p2 &&& (16777215 : Int32))) * (1540483477 : Int32)))) else e1_)), ((if (0 : Int32) < lf then (if lf = (1 : Int32) then .val (.int (255 : Int32)) else (if lf = (2 : Int32) then .val (.int (65535 : Int32)) else .val (.int (16777215 : Int32)))) else .unset) : Slot)] [])) (fun k => ?_) ?_
      · by_cases hc120 : (0 : Int32) < lf
        · show Steps p.tables e below (T11.setTop (mkF m 120 #[.val (.int p0), .val (.int p1), .val (.int p2), .val (.int p3), .val (.int (1 : Int32)), .val (.int lf), .val (.int ln), .val (.int p0), .val (.int p2), .val (.ref dd), .val (.int got), .val (.int e1_), .unset] [(.int lf)])) _
          refine XS.ifNo X11.here hx rfl (hb hby at_120) rfl ((if0 _ _).trans (tlt hc120).2.2.2) ?_
          show Steps p.tables e below (T11.setTop (mkF m 123 #[.val (.int p0), .val (.int p1), .val (.int p2), .val (.int p3), .val (.int (1 : Int32)), .val (.int lf), .val (.int ln), .val (.int p0), .val (.int p2), .val (.ref dd), .val (.int got), .val (.int e1_), .unset] [])) _
          refine XS.iload X11.here hx rfl (hb hby at_123) rfl ?_
          show Steps p.tables e below (T11.setTop (mkF m 125 #[.val (.int p0), .val (.int p1), .val (.int p2), .val (.int p3), .val (.int (1 : Int32)), .val (.int lf), .val (.int ln), .val (.int p0), .val (.int p2), .val (.ref dd), .val (.int got), .val (.int e1_), .unset] [(.int lf)])) _
          refine XS.iconst X11.here hx rfl (hb hby at_125) ?_
          by_cases hc126 : lf = (1 : Int32)
          · show Steps p.tables e below (T11.setTop (mkF m 126 #[.val (.int p0), .val (.int p1), .val (.int p2), .val (.int p3), .val (.int (1 : Int32)), .val (.int lf), .val (.int ln), .val (.int p0), .val (.int p2), .val (.ref dd), .val (.int got), .val (.int e1_), .unset] [(.int (1 : Int32)), (.int lf)])) _
            refine XS.icmpNo X11.here hx rfl (hb hby at_126) rfl (teq hc126).2 ?_
            show Steps p.tables e below (T11.setTop (mkF m 129 #[.val (.int p0), .val (.int p1), .val (.int p2), .val (.int p3), .val (.int (1 : Int32)), .val (.int lf), .val (.int ln), .val (.int p0), .val (.int p2), .val (.ref dd), .val (.int got), .val (.int e1_), .unset] [])) _
            refine XS.sipush X11.here hx rfl (hb hby at_129) ?_
            show Steps p.tables e below (T11.setTop (mkF m 132 #[.val (.int p0), .val (.int p1), .val (.int p2), .val (.int p3), .val (.int (1 : Int32)), .val (.int lf), .val (.int ln), .val (.int p0), .val (.int p2), .val (.ref dd), .val (.int got), .val (.int e1_), .unset] [(.int (255 : Int32))])) _
            refine XS.goto X11.here hx rfl (pc0 := 132) (pc' := 148) rfl (hb hby at_132) (by decide) (by decide) ?_
            show Steps p.tables e below (T11.setTop (mkF m 148 #[.val (.int p0), .val (.int p1), .val (.int p2), .val (.int p3), .val (.int (1 : Int32)), .val (.int lf), .val (.int ln), .val (.int p0), .val (.int p2), .val (.ref dd), .val (.int got), .val (.int e1_), .unset] [(.int (255 : Int32))])) _
            refine XS.istore X11.here hx rfl (hb hby at_148) rfl (l' := #[.val (.int p0), .val (.int p1), .val (.int p2), .val (.int p3), .val (.int (1 : Int32)), .val (.int lf), .val (.int ln), .val (.int p0), .val (.int p2), .val (.ref dd), .val (.int got), .val (.int e1_), .val (.int (255 : Int32))]) rfl ?_
            show Steps p.tables e below (T11.setTop (mkF m 150 #[.val (.int p0), .val (.int p1), .val (.int p2), .val (.int p3), .val (.int (1 : Int32)), .val (.int lf), .val (.int ln), .val (.int p0), .val (.int p2), .val (.ref dd), .val (.int got), .val (.int e1_), .val (.int (255 : Int32))] [])) _
            refine XS.iload X11.here hx rfl (hb hby at_150) rfl ?_
            show Steps p.tables e below (T11.setTop (mkF m 152 #[.val (.int p0), .val (.int p1), .val (.int p2), .val (.int p3), .val (.int (1 : Int32)), .val (.int lf), .val (.int ln), .val (.int p0), .val (.int p2), .val (.ref dd), .val (.int got), .val (.int e1_), .val (.int (255 : Int32))] [(.int e1_)])) _
            refine XS.iloadN X11.here hx rfl (hb hby at_152) rfl ?_
            show Steps p.tables e below (T11.setTop (mkF m 153 #[.val (.int p0), .val (.int p1), .val (.int p2), .val (.int p3), .val (.int (1 : Int32)), .val (.int lf), .val (.int ln), .val (.int p0), .val (.int p2), .val (.ref dd), .val (.int got), .val (.int e1_), .val (.int (255 : Int32))] [(.int p2), (.int e1_)])) _
            refine XS.iload X11.here hx rfl (hb hby at_153) rfl ?_
            show Steps p.tables e below (T11.setTop (mkF m 155 #[.val (.int p0), .val (.int p1), .val (.int p2), .val (.int p3), .val (.int (1 : Int32)), .val (.int lf), .val (.int ln), .val (.int p0), .val (.int p2), .val (.ref dd), .val (.int got), .val (.int e1_), .val (.int (255 : Int32))] [(.int (255 : Int32)), (.int p2), (.int e1_)])) _
            refine XS.iand X11.here hx rfl (hb hby at_155) rfl ?_
            show Steps p.tables e below (T11.setTop (mkF m 156 #[.val (.int p0), .val (.int p1), .val (.int p2), .val (.int p3), .val (.int (1 : Int32)), .val (.int lf), .val (.int ln), .val (.int p0), .val (.int p2), .val (.ref dd), .val (.int got), .val (.int e1_), .val (.int (255 : Int32))] [(.int (p2 &&& (255 : Int32))), (.int e1_)])) _
            refine XS.ixor X11.here hx rfl (hb hby at_156) rfl ?_
            show Steps p.tables e below (T11.setTop (mkF m 157 #[.val (.int p0), .val (.int p1), .val (.int p2), .val (.int p3), .val (.int (1 : Int32)), .val (.int lf), .val (.int ln), .val (.int p0), .val (.int p2), .val (.ref dd), .val (.int got), .val (.int e1_), .val (.int (255 : Int32))] [(.int (e1_ ^^^ (p2 &&& (255 : Int32))))])) _
            refine XS.istore X11.here hx rfl (hb hby at_157) rfl (l' := #[.val (.int p0), .val (.int p1), .val (.int p2), .val (.int p3), .val (.int (1 : Int32)), .val (.int lf), .val (.int ln), .val (.int p0), .val (.int p2), .val (.ref dd), .val (.int got), .val (.int (e1_ ^^^ (p2 &&& (255 : Int32)))), .val (.int (255 : Int32))]) rfl ?_
            show Steps p.tables e below (T11.setTop (mkF m 159 #[.val (.int p0), .val (.int p1), .val (.int p2), .val (.int p3), .val (.int (1 : Int32)), .val (.int lf), .val (.int ln), .val (.int p0), .val (.int p2), .val (.ref dd), .val (.int got), .val (.int (e1_ ^^^ (p2 &&& (255 : Int32)))), .val (.int (255 : Int32))] [])) _
            refine XS.iload X11.here hx rfl (hb hby at_159) rfl ?_
            show Steps p.tables e below (T11.setTop (mkF m 161 #[.val (.int p0), .val (.int p1), .val (.int p2), .val (.int p3), .val (.int (1 : Int32)), .val (.int lf), .val (.int ln), .val (.int p0), .val (.int p2), .val (.ref dd), .val (.int got), .val (.int (e1_ ^^^ (p2 &&& (255 : Int32)))), .val (.int (255 : Int32))] [(.int (e1_ ^^^ (p2 &&& (255 : Int32))))])) _
            refine X11.ldcInt hx hown (mvT hZ (hw _ (List.mem_of_getElem? (i := 15) rfl))) (g := (mkF m 161 #[.val (.int p0), .val (.int p1), .val (.int p2), .val (.int p3), .val (.int (1 : Int32)), .val (.int lf), .val (.int ln), .val (.int p0), .val (.int p2), .val (.ref dd), .val (.int got), .val (.int (e1_ ^^^ (p2 &&& (255 : Int32)))), .val (.int (255 : Int32))] [(.int (e1_ ^^^ (p2 &&& (255 : Int32))))])) rfl (hb hby at_161) _ ?_
            show Steps p.tables e below (T11.setTop (mkF m 163 #[.val (.int p0), .val (.int p1), .val (.int p2), .val (.int p3), .val (.int (1 : Int32)), .val (.int lf), .val (.int ln), .val (.int p0), .val (.int p2), .val (.ref dd), .val (.int got), .val (.int (e1_ ^^^ (p2 &&& (255 : Int32)))), .val (.int (255 : Int32))] [(.int (1540483477 : Int32)), (.int (e1_ ^^^ (p2 &&& (255 : Int32))))])) _
            refine XS.imul X11.here hx rfl (hb hby at_163) rfl ?_
            show Steps p.tables e below (T11.setTop (mkF m 164 #[.val (.int p0), .val (.int p1), .val (.int p2), .val (.int p3), .val (.int (1 : Int32)), .val (.int lf), .val (.int ln), .val (.int p0), .val (.int p2), .val (.ref dd), .val (.int got), .val (.int (e1_ ^^^ (p2 &&& (255 : Int32)))), .val (.int (255 : Int32))] [(.int ((e1_ ^^^ (p2 &&& (255 : Int32))) * (1540483477 : Int32)))])) _
            refine XS.istore X11.here hx rfl (hb hby at_164) rfl (l' := #[.val (.int p0), .val (.int p1), .val (.int p2), .val (.int p3), .val (.int (1 : Int32)), .val (.int lf), .val (.int ln), .val (.int p0), .val (.int p2), .val (.ref dd), .val (.int got), .val (.int ((e1_ ^^^ (p2 &&& (255 : Int32))) * (1540483477 : Int32))), .val (.int (255 : Int32))]) rfl ?_
            try simp only [if_pos hc120, if_pos hc126] at k
            exact k
          · show Steps p.tables e below (T11.setTop (mkF m 126 #[.val (.int p0), .val (.int p1), .val (.int p2), .val (.int p3), .val (.int (1 : Int32)), .val (.int lf), .val (.int ln), .val (.int p0), .val (.int p2), .val (.ref dd), .val (.int got), .val (.int e1_), .unset] [(.int (1 : Int32)), (.int lf)])) _
            refine XS.icmpYes X11.here hx rfl (pc0 := 126) (pc' := 135) rfl (hb hby at_126) rfl (feq hc126).2 (by decide) (by decide) ?_
            show Steps p.tables e below (T11.setTop (mkF m 135 #[.val (.int p0), .val (.int p1), .val (.int p2), .val (.int p3), .val (.int (1 : Int32)), .val (.int lf), .val (.int ln), .val (.int p0), .val (.int p2), .val (.ref dd), .val (.int got), .val (.int e1_), .unset] [])) _
            refine XS.iload X11.here hx rfl (hb hby at_135) rfl ?_
            show Steps p.tables e below (T11.setTop (mkF m 137 #[.val (.int p0), .val (.int p1), .val (.int p2), .val (.int p3), .val (.int (1 : Int32)), .val (.int lf), .val (.int ln), .val (.int p0), .val (.int p2), .val (.ref dd), .val (.int got), .val (.int e1_), .unset] [(.int lf)])) _
            refine XS.iconst X11.here hx rfl (hb hby at_137) ?_
            by_cases hc138 : lf = (2 : Int32)
            · show Steps p.tables e below (T11.setTop (mkF m 138 #[.val (.int p0), .val (.int p1), .val (.int p2), .val (.int p3), .val (.int (1 : Int32)), .val (.int lf), .val (.int ln), .val (.int p0), .val (.int p2), .val (.ref dd), .val (.int got), .val (.int e1_), .unset] [(.int (2 : Int32)), (.int lf)])) _
              refine XS.icmpNo X11.here hx rfl (hb hby at_138) rfl (teq hc138).2 ?_
              show Steps p.tables e below (T11.setTop (mkF m 141 #[.val (.int p0), .val (.int p1), .val (.int p2), .val (.int p3), .val (.int (1 : Int32)), .val (.int lf), .val (.int ln), .val (.int p0), .val (.int p2), .val (.ref dd), .val (.int got), .val (.int e1_), .unset] [])) _
              refine X11.ldcInt hx hown (mvT hZ (hw _ (List.mem_of_getElem? (i := 19) rfl))) (g := (mkF m 141 #[.val (.int p0), .val (.int p1), .val (.int p2), .val (.int p3), .val (.int (1 : Int32)), .val (.int lf), .val (.int ln), .val (.int p0), .val (.int p2), .val (.ref dd), .val (.int got), .val (.int e1_), .unset] [])) rfl (hb hby at_141) _ ?_
              show Steps p.tables e below (T11.setTop (mkF m 143 #[.val (.int p0), .val (.int p1), .val (.int p2), .val (.int p3), .val (.int (1 : Int32)), .val (.int lf), .val (.int ln), .val (.int p0), .val (.int p2), .val (.ref dd), .val (.int got), .val (.int e1_), .unset] [(.int (65535 : Int32))])) _
              refine XS.goto X11.here hx rfl (pc0 := 143) (pc' := 148) rfl (hb hby at_143) (by decide) (by decide) ?_
              show Steps p.tables e below (T11.setTop (mkF m 148 #[.val (.int p0), .val (.int p1), .val (.int p2), .val (.int p3), .val (.int (1 : Int32)), .val (.int lf), .val (.int ln), .val (.int p0), .val (.int p2), .val (.ref dd), .val (.int got), .val (.int e1_), .unset] [(.int (65535 : Int32))])) _
              refine XS.istore X11.here hx rfl (hb hby at_148) rfl (l' := #[.val (.int p0), .val (.int p1), .val (.int p2), .val (.int p3), .val (.int (1 : Int32)), .val (.int lf), .val (.int ln), .val (.int p0), .val (.int p2), .val (.ref dd), .val (.int got), .val (.int e1_), .val (.int (65535 : Int32))]) rfl ?_
              show Steps p.tables e below (T11.setTop (mkF m 150 #[.val (.int p0), .val (.int p1), .val (.int p2), .val (.int p3), .val (.int (1 : Int32)), .val (.int lf), .val (.int ln), .val (.int p0), .val (.int p2), .val (.ref dd), .val (.int got), .val (.int e1_), .val (.int (65535 : Int32))] [])) _
              refine XS.iload X11.here hx rfl (hb hby at_150) rfl ?_
              show Steps p.tables e below (T11.setTop (mkF m 152 #[.val (.int p0), .val (.int p1), .val (.int p2), .val (.int p3), .val (.int (1 : Int32)), .val (.int lf), .val (.int ln), .val (.int p0), .val (.int p2), .val (.ref dd), .val (.int got), .val (.int e1_), .val (.int (65535 : Int32))] [(.int e1_)])) _
              refine XS.iloadN X11.here hx rfl (hb hby at_152) rfl ?_
              show Steps p.tables e below (T11.setTop (mkF m 153 #[.val (.int p0), .val (.int p1), .val (.int p2), .val (.int p3), .val (.int (1 : Int32)), .val (.int lf), .val (.int ln), .val (.int p0), .val (.int p2), .val (.ref dd), .val (.int got), .val (.int e1_), .val (.int (65535 : Int32))] [(.int p2), (.int e1_)])) _
              refine XS.iload X11.here hx rfl (hb hby at_153) rfl ?_
              show Steps p.tables e below (T11.setTop (mkF m 155 #[.val (.int p0), .val (.int p1), .val (.int p2), .val (.int p3), .val (.int (1 : Int32)), .val (.int lf), .val (.int ln), .val (.int p0), .val (.int p2), .val (.ref dd), .val (.int got), .val (.int e1_), .val (.int (65535 : Int32))] [(.int (65535 : Int32)), (.int p2), (.int e1_)])) _
              refine XS.iand X11.here hx rfl (hb hby at_155) rfl ?_
              show Steps p.tables e below (T11.setTop (mkF m 156 #[.val (.int p0), .val (.int p1), .val (.int p2), .val (.int p3), .val (.int (1 : Int32)), .val (.int lf), .val (.int ln), .val (.int p0), .val (.int p2), .val (.ref dd), .val (.int got), .val (.int e1_), .val (.int (65535 : Int32))] [(.int (p2 &&& (65535 : Int32))), (.int e1_)])) _
              refine XS.ixor X11.here hx rfl (hb hby at_156) rfl ?_
              show Steps p.tables e below (T11.setTop (mkF m 157 #[.val (.int p0), .val (.int p1), .val (.int p2), .val (.int p3), .val (.int (1 : Int32)), .val (.int lf), .val (.int ln), .val (.int p0), .val (.int p2), .val (.ref dd), .val (.int got), .val (.int e1_), .val (.int (65535 : Int32))] [(.int (e1_ ^^^ (p2 &&& (65535 : Int32))))])) _
              refine XS.istore X11.here hx rfl (hb hby at_157) rfl (l' := #[.val (.int p0), .val (.int p1), .val (.int p2), .val (.int p3), .val (.int (1 : Int32)), .val (.int lf), .val (.int ln), .val (.int p0), .val (.int p2), .val (.ref dd), .val (.int got), .val (.int (e1_ ^^^ (p2 &&& (65535 : Int32)))), .val (.int (65535 : Int32))]) rfl ?_
              show Steps p.tables e below (T11.setTop (mkF m 159 #[.val (.int p0), .val (.int p1), .val (.int p2), .val (.int p3), .val (.int (1 : Int32)), .val (.int lf), .val (.int ln), .val (.int p0), .val (.int p2), .val (.ref dd), .val (.int got), .val (.int (e1_ ^^^ (p2 &&& (65535 : Int32)))), .val (.int (65535 : Int32))] [])) _
              refine XS.iload X11.here hx rfl (hb hby at_159) rfl ?_
              show Steps p.tables e below (T11.setTop (mkF m 161 #[.val (.int p0), .val (.int p1), .val (.int p2), .val (.int p3), .val (.int (1 : Int32)), .val (.int lf), .val (.int ln), .val (.int p0), .val (.int p2), .val (.ref dd), .val (.int got), .val (.int (e1_ ^^^ (p2 &&& (65535 : Int32)))), .val (.int (65535 : Int32))] [(.int (e1_ ^^^ (p2 &&& (65535 : Int32))))])) _
              refine X11.ldcInt hx hown (mvT hZ (hw _ (List.mem_of_getElem? (i := 15) rfl))) (g := (mkF m 161 #[.val (.int p0), .val (.int p1), .val (.int p2), .val (.int p3), .val (.int (1 : Int32)), .val (.int lf), .val (.int ln), .val (.int p0), .val (.int p2), .val (.ref dd), .val (.int got), .val (.int (e1_ ^^^ (p2 &&& (65535 : Int32)))), .val (.int (65535 : Int32))] [(.int (e1_ ^^^ (p2 &&& (65535 : Int32))))])) rfl (hb hby at_161) _ ?_
              show Steps p.tables e below (T11.setTop (mkF m 163 #[.val (.int p0), .val (.int p1), .val (.int p2), .val (.int p3), .val (.int (1 : Int32)), .val (.int lf), .val (.int ln), .val (.int p0), .val (.int p2), .val (.ref dd), .val (.int got), .val (.int (e1_ ^^^ (p2 &&& (65535 : Int32)))), .val (.int (65535 : Int32))] [(.int (1540483477 : Int32)), (.int (e1_ ^^^ (p2 &&& (65535 : Int32))))])) _
              refine XS.imul X11.here hx rfl (hb hby at_163) rfl ?_
              show Steps p.tables e below (T11.setTop (mkF m 164 #[.val (.int p0), .val (.int p1), .val (.int p2), .val (.int p3), .val (.int (1 : Int32)), .val (.int lf), .val (.int ln), .val (.int p0), .val (.int p2), .val (.ref dd), .val (.int got), .val (.int (e1_ ^^^ (p2 &&& (65535 : Int32)))), .val (.int (65535 : Int32))] [(.int ((e1_ ^^^ (p2 &&& (65535 : Int32))) * (1540483477 : Int32)))])) _
              refine XS.istore X11.here hx rfl (hb hby at_164) rfl (l' := #[.val (.int p0), .val (.int p1), .val (.int p2), .val (.int p3), .val (.int (1 : Int32)), .val (.int lf), .val (.int ln), .val (.int p0), .val (.int p2), .val (.ref dd), .val (.int got), .val (.int ((e1_ ^^^ (p2 &&& (65535 : Int32))) * (1540483477 : Int32))), .val (.int (65535 : Int32))]) rfl ?_
              try simp only [if_pos hc120, if_neg hc126, if_pos hc138] at k
              exact k
            · show Steps p.tables e below (T11.setTop (mkF m 138 #[.val (.int p0), .val (.int p1), .val (.int p2), .val (.int p3), .val (.int (1 : Int32)), .val (.int lf), .val (.int ln), .val (.int p0), .val (.int p2), .val (.ref dd), .val (.int got), .val (.int e1_), .unset] [(.int (2 : Int32)), (.int lf)])) _
              refine XS.icmpYes X11.here hx rfl (pc0 := 138) (pc' := 146) rfl (hb hby at_138) rfl (feq hc138).2 (by decide) (by decide) ?_
              show Steps p.tables e below (T11.setTop (mkF m 146 #[.val (.int p0), .val (.int p1), .val (.int p2), .val (.int p3), .val (.int (1 : Int32)), .val (.int lf), .val (.int ln), .val (.int p0), .val (.int p2), .val (.ref dd), .val (.int got), .val (.int e1_), .unset] [])) _
              refine X11.ldcInt hx hown (mvT hZ (hw _ (List.mem_of_getElem? (i := 20) rfl))) (g := (mkF m 146 #[.val (.int p0), .val (.int p1), .val (.int p2), .val (.int p3), .val (.int (1 : Int32)), .val (.int lf), .val (.int ln), .val (.int p0), .val (.int p2), .val (.ref dd), .val (.int got), .val (.int e1_), .unset] [])) rfl (hb hby at_146) _ ?_
              show Steps p.tables e below (T11.setTop (mkF m 148 #[.val (.int p0), .val (.int p1), .val (.int p2), .val (.int p3), .val (.int (1 : Int32)), .val (.int lf), .val (.int ln), .val (.int p0), .val (.int p2), .val (.ref dd), .val (.int got), .val (.int e1_), .unset] [(.int (16777215 : Int32))])) _
              refine XS.istore X11.here hx rfl (hb hby at_148) rfl (l' := #[.val (.int p0), .val (.int p1), .val (.int p2), .val (.int p3), .val (.int (1 : Int32)), .val (.int lf), .val (.int ln), .val (.int p0), .val (.int p2), .val (.ref dd), .val (.int got), .val (.int e1_), .val (.int (16777215 : Int32))]) rfl ?_
              show Steps p.tables e below (T11.setTop (mkF m 150 #[.val (.int p0), .val (.int p1), .val (.int p2), .val (.int p3), .val (.int (1 : Int32)), .val (.int lf), .val (.int ln), .val (.int p0), .val (.int p2), .val (.ref dd), .val (.int got), .val (.int e1_), .val (.int (16777215 : Int32))] [])) _
              refine XS.iload X11.here hx rfl (hb hby at_150) rfl ?_
              show Steps p.tables e below (T11.setTop (mkF m 152 #[.val (.int p0), .val (.int p1), .val (.int p2), .val (.int p3), .val (.int (1 : Int32)), .val (.int lf), .val (.int ln), .val (.int p0), .val (.int p2), .val (.ref dd), .val (.int got), .val (.int e1_), .val (.int (16777215 : Int32))] [(.int e1_)])) _
              refine XS.iloadN X11.here hx rfl (hb hby at_152) rfl ?_
              show Steps p.tables e below (T11.setTop (mkF m 153 #[.val (.int p0), .val (.int p1), .val (.int p2), .val (.int p3), .val (.int (1 : Int32)), .val (.int lf), .val (.int ln), .val (.int p0), .val (.int p2), .val (.ref dd), .val (.int got), .val (.int e1_), .val (.int (16777215 : Int32))] [(.int p2), (.int e1_)])) _
              refine XS.iload X11.here hx rfl (hb hby at_153) rfl ?_
              show Steps p.tables e below (T11.setTop (mkF m 155 #[.val (.int p0), .val (.int p1), .val (.int p2), .val (.int p3), .val (.int (1 : Int32)), .val (.int lf), .val (.int ln), .val (.int p0), .val (.int p2), .val (.ref dd), .val (.int got), .val (.int e1_), .val (.int (16777215 : Int32))] [(.int (16777215 : Int32)), (.int p2), (.int e1_)])) _
              refine XS.iand X11.here hx rfl (hb hby at_155) rfl ?_
              show Steps p.tables e below (T11.setTop (mkF m 156 #[.val (.int p0), .val (.int p1), .val (.int p2), .val (.int p3), .val (.int (1 : Int32)), .val (.int lf), .val (.int ln), .val (.int p0), .val (.int p2), .val (.ref dd), .val (.int got), .val (.int e1_), .val (.int (16777215 : Int32))] [(.int (p2 &&& (16777215 : Int32))), (.int e1_)])) _
              refine XS.ixor X11.here hx rfl (hb hby at_156) rfl ?_
              show Steps p.tables e below (T11.setTop (mkF m 157 #[.val (.int p0), .val (.int p1), .val (.int p2), .val (.int p3), .val (.int (1 : Int32)), .val (.int lf), .val (.int ln), .val (.int p0), .val (.int p2), .val (.ref dd), .val (.int got), .val (.int e1_), .val (.int (16777215 : Int32))] [(.int (e1_ ^^^ (p2 &&& (16777215 : Int32))))])) _
              refine XS.istore X11.here hx rfl (hb hby at_157) rfl (l' := #[.val (.int p0), .val (.int p1), .val (.int p2), .val (.int p3), .val (.int (1 : Int32)), .val (.int lf), .val (.int ln), .val (.int p0), .val (.int p2), .val (.ref dd), .val (.int got), .val (.int (e1_ ^^^ (p2 &&& (16777215 : Int32)))), .val (.int (16777215 : Int32))]) rfl ?_
              show Steps p.tables e below (T11.setTop (mkF m 159 #[.val (.int p0), .val (.int p1), .val (.int p2), .val (.int p3), .val (.int (1 : Int32)), .val (.int lf), .val (.int ln), .val (.int p0), .val (.int p2), .val (.ref dd), .val (.int got), .val (.int (e1_ ^^^ (p2 &&& (16777215 : Int32)))), .val (.int (16777215 : Int32))] [])) _
              refine XS.iload X11.here hx rfl (hb hby at_159) rfl ?_
              show Steps p.tables e below (T11.setTop (mkF m 161 #[.val (.int p0), .val (.int p1), .val (.int p2), .val (.int p3), .val (.int (1 : Int32)), .val (.int lf), .val (.int ln), .val (.int p0), .val (.int p2), .val (.ref dd), .val (.int got), .val (.int (e1_ ^^^ (p2 &&& (16777215 : Int32)))), .val (.int (16777215 : Int32))] [(.int (e1_ ^^^ (p2 &&& (16777215 : Int32))))])) _
              refine X11.ldcInt hx hown (mvT hZ (hw _ (List.mem_of_getElem? (i := 15) rfl))) (g := (mkF m 161 #[.val (.int p0), .val (.int p1), .val (.int p2), .val (.int p3), .val (.int (1 : Int32)), .val (.int lf), .val (.int ln), .val (.int p0), .val (.int p2), .val (.ref dd), .val (.int got), .val (.int (e1_ ^^^ (p2 &&& (16777215 : Int32)))), .val (.int (16777215 : Int32))] [(.int (e1_ ^^^ (p2 &&& (16777215 : Int32))))])) rfl (hb hby at_161) _ ?_
              show Steps p.tables e below (T11.setTop (mkF m 163 #[.val (.int p0), .val (.int p1), .val (.int p2), .val (.int p3), .val (.int (1 : Int32)), .val (.int lf), .val (.int ln), .val (.int p0), .val (.int p2), .val (.ref dd), .val (.int got), .val (.int (e1_ ^^^ (p2 &&& (16777215 : Int32)))), .val (.int (16777215 : Int32))] [(.int (1540483477 : Int32)), (.int (e1_ ^^^ (p2 &&& (16777215 : Int32))))])) _
              refine XS.imul X11.here hx rfl (hb hby at_163) rfl ?_
              show Steps p.tables e below (T11.setTop (mkF m 164 #[.val (.int p0), .val (.int p1), .val (.int p2), .val (.int p3), .val (.int (1 : Int32)), .val (.int lf), .val (.int ln), .val (.int p0), .val (.int p2), .val (.ref dd), .val (.int got), .val (.int (e1_ ^^^ (p2 &&& (16777215 : Int32)))), .val (.int (16777215 : Int32))] [(.int ((e1_ ^^^ (p2 &&& (16777215 : Int32))) * (1540483477 : Int32)))])) _
              refine XS.istore X11.here hx rfl (hb hby at_164) rfl (l' := #[.val (.int p0), .val (.int p1), .val (.int p2), .val (.int p3), .val (.int (1 : Int32)), .val (.int lf), .val (.int ln), .val (.int p0), .val (.int p2), .val (.ref dd), .val (.int got), .val (.int ((e1_ ^^^ (p2 &&& (16777215 : Int32))) * (1540483477 : Int32))), .val (.int (16777215 : Int32))]) rfl ?_
              try simp only [if_pos hc120, if_neg hc126, if_neg hc138] at k
              exact k
        · show Steps p.tables e below (T11.setTop (mkF m 120 #[.val (.int p0), .val (.int p1), .val (.int p2), .val (.int p3), .val (.int (1 : Int32)), .val (.int lf), .val (.int ln), .val (.int p0), .val (.int p2), .val (.ref dd), .val (.int got), .val (.int e1_), .unset] [(.int lf)])) _
          refine XS.ifYes X11.here hx rfl (pc0 := 120) (pc' := 166) rfl (hb hby at_120) rfl ((if0 _ _).trans (flt hc120).2.2.2) (by decide) (by decide) ?_
          try simp only [if_neg hc120] at k
          exact k
      show Steps p.tables e below (T11.setTop (mkF m 166 #[.val (.int p0), .val (.int p1), .val (.int p2), .val (.int p3), .val (.int (1 : Int32)), .val (.int lf), .val (.int ln), .val (.int p0), .val (.int p2), .val (.ref dd), .val (.int got), .val (.int (if (0 : Int32) < lf then (if lf = (1 : Int32) then ((e1_ ^^^ (p2 &&& (255 : Int32))) * (1540483477 : Int32)) else (if lf = (2 : Int32) then ((e1_ ^^^ (p2 &&& (65535 : Int32))) * (1540483477 : Int32)) else ((e1_ ^^^ (p2 &&& (16777215 : Int32))) * (1540483477 : Int32)))) else e1_)), ((if (0 : Int32) < lf then (if lf = (1 : Int32) then .val (.int (255 : Int32)) else (if lf = (2 : Int32) then .val (.int (65535 : Int32)) else .val (.int (16777215 : Int32)))) else .unset) : Slot)] [])) _
      rw [← h_et_]
      show Steps p.tables e below (T11.setTop (mkF m 166 #[.val (.int p0), .val (.int p1), .val (.int p2), .val (.int p3), .val (.int (1 : Int32)), .val (.int lf), .val (.int ln), .val (.int p0), .val (.int p2), .val (.ref dd), .val (.int got), .val (.int et_), ((if (0 : Int32) < lf then (if lf = (1 : Int32) then .val (.int (255 : Int32)) else (if lf = (2 : Int32) then .val (.int (65535 : Int32)) else .val (.int (16777215 : Int32)))) else .unset) : Slot)] [])) _
      refine XS.iload X11.here hx rfl (hb hby at_166) rfl ?_
      show Steps p.tables e below (T11.setTop (mkF m 168 #[.val (.int p0), .val (.int p1), .val (.int p2), .val (.int p3), .val (.int (1 : Int32)), .val (.int lf), .val (.int ln), .val (.int p0), .val (.int p2), .val (.ref dd), .val (.int got), .val (.int et_), ((if (0 : Int32) < lf then (if lf = (1 : Int32) then .val (.int (255 : Int32)) else (if lf = (2 : Int32) then .val (.int (65535 : Int32)) else .val (.int (16777215 : Int32)))) else .unset) : Slot)] [(.int et_)])) _
      refine XS.iload X11.here hx rfl (hb hby at_168) rfl ?_
      show Steps p.tables e below (T11.setTop (mkF m 170 #[.val (.int p0), .val (.int p1), .val (.int p2), .val (.int p3), .val (.int (1 : Int32)), .val (.int lf), .val (.int ln), .val (.int p0), .val (.int p2), .val (.ref dd), .val (.int got), .val (.int et_), ((if (0 : Int32) < lf then (if lf = (1 : Int32) then .val (.int (255 : Int32)) else (if lf = (2 : Int32) then .val (.int (65535 : Int32)) else .val (.int (16777215 : Int32)))) else .unset) : Slot)] [(.int et_), (.int et_)])) _
      refine XS.bipush X11.here hx rfl (hb hby at_170) ?_
      show Steps p.tables e below (T11.setTop (mkF m 172 #[.val (.int p0), .val (.int p1), .val (.int p2), .val (.int p3), .val (.int (1 : Int32)), .val (.int lf), .val (.int ln), .val (.int p0), .val (.int p2), .val (.ref dd), .val (.int got), .val (.int et_), ((if (0 : Int32) < lf then (if lf = (1 : Int32) then .val (.int (255 : Int32)) else (if lf = (2 : Int32) then .val (.int (65535 : Int32)) else .val (.int (16777215 : Int32)))) else .unset) : Slot)] [(.int (13 : Int32)), (.int et_), (.int et_)])) _
      refine XS.iushr X11.here hx rfl (hb hby at_172) rfl ?_
      show Steps p.tables e below (T11.setTop (mkF m 173 #[.val (.int p0), .val (.int p1), .val (.int p2), .val (.int p3), .val (.int (1 : Int32)), .val (.int lf), .val (.int ln), .val (.int p0), .val (.int p2), .val (.ref dd), .val (.int got), .val (.int et_), ((if (0 : Int32) < lf then (if lf = (1 : Int32) then .val (.int (255 : Int32)) else (if lf = (2 : Int32) then .val (.int (65535 : Int32)) else .val (.int (16777215 : Int32)))) else .unset) : Slot)] [(.int ((et_.toUInt32 >>> ((13 : Int32) &&& 31).toUInt32).toInt32)), (.int et_)])) _
      refine XS.ixor X11.here hx rfl (hb hby at_173) rfl ?_
      show Steps p.tables e below (T11.setTop (mkF m 174 #[.val (.int p0), .val (.int p1), .val (.int p2), .val (.int p3), .val (.int (1 : Int32)), .val (.int lf), .val (.int ln), .val (.int p0), .val (.int p2), .val (.ref dd), .val (.int got), .val (.int et_), ((if (0 : Int32) < lf then (if lf = (1 : Int32) then .val (.int (255 : Int32)) else (if lf = (2 : Int32) then .val (.int (65535 : Int32)) else .val (.int (16777215 : Int32)))) else .unset) : Slot)] [(.int (et_ ^^^ ((et_.toUInt32 >>> ((13 : Int32) &&& 31).toUInt32).toInt32)))])) _
      rw [← h_ea_]
      show Steps p.tables e below (T11.setTop (mkF m 174 #[.val (.int p0), .val (.int p1), .val (.int p2), .val (.int p3), .val (.int (1 : Int32)), .val (.int lf), .val (.int ln), .val (.int p0), .val (.int p2), .val (.ref dd), .val (.int got), .val (.int et_), ((if (0 : Int32) < lf then (if lf = (1 : Int32) then .val (.int (255 : Int32)) else (if lf = (2 : Int32) then .val (.int (65535 : Int32)) else .val (.int (16777215 : Int32)))) else .unset) : Slot)] [(.int ea_)])) _
      refine XS.istore X11.here hx rfl (hb hby at_174) rfl (l' := #[.val (.int p0), .val (.int p1), .val (.int p2), .val (.int p3), .val (.int (1 : Int32)), .val (.int lf), .val (.int ln), .val (.int p0), .val (.int p2), .val (.ref dd), .val (.int got), .val (.int ea_), ((if (0 : Int32) < lf then (if lf = (1 : Int32) then .val (.int (255 : Int32)) else (if lf = (2 : Int32) then .val (.int (65535 : Int32)) else .val (.int (16777215 : Int32)))) else .unset) : Slot)]) rfl ?_
      show Steps p.tables e below (T11.setTop (mkF m 176 #[.val (.int p0), .val (.int p1), .val (.int p2), .val (.int p3), .val (.int (1 : Int32)), .val (.int lf), .val (.int ln), .val (.int p0), .val (.int p2), .val (.ref dd), .val (.int got), .val (.int ea_), ((if (0 : Int32) < lf then (if lf = (1 : Int32) then .val (.int (255 : Int32)) else (if lf = (2 : Int32) then .val (.int (65535 : Int32)) else .val (.int (16777215 : Int32)))) else .unset) : Slot)] [])) _
      refine XS.iload X11.here hx rfl (hb hby at_176) rfl ?_
      show Steps p.tables e below (T11.setTop (mkF m 178 #[.val (.int p0), .val (.int p1), .val (.int p2), .val (.int p3), .val (.int (1 : Int32)), .val (.int lf), .val (.int ln), .val (.int p0), .val (.int p2), .val (.ref dd), .val (.int got), .val (.int ea_), ((if (0 : Int32) < lf then (if lf = (1 : Int32) then .val (.int (255 : Int32)) else (if lf = (2 : Int32) then .val (.int (65535 : Int32)) else .val (.int (16777215 : Int32)))) else .unset) : Slot)] [(.int ea_)])) _
      refine X11.ldcInt hx hown (mvT hZ (hw _ (List.mem_of_getElem? (i := 15) rfl))) (g := (mkF m 178 #[.val (.int p0), .val (.int p1), .val (.int p2), .val (.int p3), .val (.int (1 : Int32)), .val (.int lf), .val (.int ln), .val (.int p0), .val (.int p2), .val (.ref dd), .val (.int got), .val (.int ea_), ((if (0 : Int32) < lf then (if lf = (1 : Int32) then .val (.int (255 : Int32)) else (if lf = (2 : Int32) then .val (.int (65535 : Int32)) else .val (.int (16777215 : Int32)))) else .unset) : Slot)] [(.int ea_)])) rfl (hb hby at_178) _ ?_
      show Steps p.tables e below (T11.setTop (mkF m 180 #[.val (.int p0), .val (.int p1), .val (.int p2), .val (.int p3), .val (.int (1 : Int32)), .val (.int lf), .val (.int ln), .val (.int p0), .val (.int p2), .val (.ref dd), .val (.int got), .val (.int ea_), ((if (0 : Int32) < lf then (if lf = (1 : Int32) then .val (.int (255 : Int32)) else (if lf = (2 : Int32) then .val (.int (65535 : Int32)) else .val (.int (16777215 : Int32)))) else .unset) : Slot)] [(.int (1540483477 : Int32)), (.int ea_)])) _
      refine XS.imul X11.here hx rfl (hb hby at_180) rfl ?_
      show Steps p.tables e below (T11.setTop (mkF m 181 #[.val (.int p0), .val (.int p1), .val (.int p2), .val (.int p3), .val (.int (1 : Int32)), .val (.int lf), .val (.int ln), .val (.int p0), .val (.int p2), .val (.ref dd), .val (.int got), .val (.int ea_), ((if (0 : Int32) < lf then (if lf = (1 : Int32) then .val (.int (255 : Int32)) else (if lf = (2 : Int32) then .val (.int (65535 : Int32)) else .val (.int (16777215 : Int32)))) else .unset) : Slot)] [(.int (ea_ * (1540483477 : Int32)))])) _
      rw [← h_eb_]
      show Steps p.tables e below (T11.setTop (mkF m 181 #[.val (.int p0), .val (.int p1), .val (.int p2), .val (.int p3), .val (.int (1 : Int32)), .val (.int lf), .val (.int ln), .val (.int p0), .val (.int p2), .val (.ref dd), .val (.int got), .val (.int ea_), ((if (0 : Int32) < lf then (if lf = (1 : Int32) then .val (.int (255 : Int32)) else (if lf = (2 : Int32) then .val (.int (65535 : Int32)) else .val (.int (16777215 : Int32)))) else .unset) : Slot)] [(.int eb_)])) _
      refine XS.istore X11.here hx rfl (hb hby at_181) rfl (l' := #[.val (.int p0), .val (.int p1), .val (.int p2), .val (.int p3), .val (.int (1 : Int32)), .val (.int lf), .val (.int ln), .val (.int p0), .val (.int p2), .val (.ref dd), .val (.int got), .val (.int eb_), ((if (0 : Int32) < lf then (if lf = (1 : Int32) then .val (.int (255 : Int32)) else (if lf = (2 : Int32) then .val (.int (65535 : Int32)) else .val (.int (16777215 : Int32)))) else .unset) : Slot)]) rfl ?_
      show Steps p.tables e below (T11.setTop (mkF m 183 #[.val (.int p0), .val (.int p1), .val (.int p2), .val (.int p3), .val (.int (1 : Int32)), .val (.int lf), .val (.int ln), .val (.int p0), .val (.int p2), .val (.ref dd), .val (.int got), .val (.int eb_), ((if (0 : Int32) < lf then (if lf = (1 : Int32) then .val (.int (255 : Int32)) else (if lf = (2 : Int32) then .val (.int (65535 : Int32)) else .val (.int (16777215 : Int32)))) else .unset) : Slot)] [])) _
      refine XS.iload X11.here hx rfl (hb hby at_183) rfl ?_
      show Steps p.tables e below (T11.setTop (mkF m 185 #[.val (.int p0), .val (.int p1), .val (.int p2), .val (.int p3), .val (.int (1 : Int32)), .val (.int lf), .val (.int ln), .val (.int p0), .val (.int p2), .val (.ref dd), .val (.int got), .val (.int eb_), ((if (0 : Int32) < lf then (if lf = (1 : Int32) then .val (.int (255 : Int32)) else (if lf = (2 : Int32) then .val (.int (65535 : Int32)) else .val (.int (16777215 : Int32)))) else .unset) : Slot)] [(.int eb_)])) _
      refine XS.iload X11.here hx rfl (hb hby at_185) rfl ?_
      show Steps p.tables e below (T11.setTop (mkF m 187 #[.val (.int p0), .val (.int p1), .val (.int p2), .val (.int p3), .val (.int (1 : Int32)), .val (.int lf), .val (.int ln), .val (.int p0), .val (.int p2), .val (.ref dd), .val (.int got), .val (.int eb_), ((if (0 : Int32) < lf then (if lf = (1 : Int32) then .val (.int (255 : Int32)) else (if lf = (2 : Int32) then .val (.int (65535 : Int32)) else .val (.int (16777215 : Int32)))) else .unset) : Slot)] [(.int eb_), (.int eb_)])) _
      refine XS.bipush X11.here hx rfl (hb hby at_187) ?_
      show Steps p.tables e below (T11.setTop (mkF m 189 #[.val (.int p0), .val (.int p1), .val (.int p2), .val (.int p3), .val (.int (1 : Int32)), .val (.int lf), .val (.int ln), .val (.int p0), .val (.int p2), .val (.ref dd), .val (.int got), .val (.int eb_), ((if (0 : Int32) < lf then (if lf = (1 : Int32) then .val (.int (255 : Int32)) else (if lf = (2 : Int32) then .val (.int (65535 : Int32)) else .val (.int (16777215 : Int32)))) else .unset) : Slot)] [(.int (15 : Int32)), (.int eb_), (.int eb_)])) _
      refine XS.iushr X11.here hx rfl (hb hby at_189) rfl ?_
      show Steps p.tables e below (T11.setTop (mkF m 190 #[.val (.int p0), .val (.int p1), .val (.int p2), .val (.int p3), .val (.int (1 : Int32)), .val (.int lf), .val (.int ln), .val (.int p0), .val (.int p2), .val (.ref dd), .val (.int got), .val (.int eb_), ((if (0 : Int32) < lf then (if lf = (1 : Int32) then .val (.int (255 : Int32)) else (if lf = (2 : Int32) then .val (.int (65535 : Int32)) else .val (.int (16777215 : Int32)))) else .unset) : Slot)] [(.int ((eb_.toUInt32 >>> ((15 : Int32) &&& 31).toUInt32).toInt32)), (.int eb_)])) _
      refine XS.ixor X11.here hx rfl (hb hby at_190) rfl ?_
      show Steps p.tables e below (T11.setTop (mkF m 191 #[.val (.int p0), .val (.int p1), .val (.int p2), .val (.int p3), .val (.int (1 : Int32)), .val (.int lf), .val (.int ln), .val (.int p0), .val (.int p2), .val (.ref dd), .val (.int got), .val (.int eb_), ((if (0 : Int32) < lf then (if lf = (1 : Int32) then .val (.int (255 : Int32)) else (if lf = (2 : Int32) then .val (.int (65535 : Int32)) else .val (.int (16777215 : Int32)))) else .unset) : Slot)] [(.int (eb_ ^^^ ((eb_.toUInt32 >>> ((15 : Int32) &&& 31).toUInt32).toInt32)))])) _
      rw [← h_ec_]
      show Steps p.tables e below (T11.setTop (mkF m 191 #[.val (.int p0), .val (.int p1), .val (.int p2), .val (.int p3), .val (.int (1 : Int32)), .val (.int lf), .val (.int ln), .val (.int p0), .val (.int p2), .val (.ref dd), .val (.int got), .val (.int eb_), ((if (0 : Int32) < lf then (if lf = (1 : Int32) then .val (.int (255 : Int32)) else (if lf = (2 : Int32) then .val (.int (65535 : Int32)) else .val (.int (16777215 : Int32)))) else .unset) : Slot)] [(.int ec_)])) _
      refine XS.istore X11.here hx rfl (hb hby at_191) rfl (l' := #[.val (.int p0), .val (.int p1), .val (.int p2), .val (.int p3), .val (.int (1 : Int32)), .val (.int lf), .val (.int ln), .val (.int p0), .val (.int p2), .val (.ref dd), .val (.int got), .val (.int ec_), ((if (0 : Int32) < lf then (if lf = (1 : Int32) then .val (.int (255 : Int32)) else (if lf = (2 : Int32) then .val (.int (65535 : Int32)) else .val (.int (16777215 : Int32)))) else .unset) : Slot)]) rfl ?_
      show Steps p.tables e below (T11.setTop (mkF m 193 #[.val (.int p0), .val (.int p1), .val (.int p2), .val (.int p3), .val (.int (1 : Int32)), .val (.int lf), .val (.int ln), .val (.int p0), .val (.int p2), .val (.ref dd), .val (.int got), .val (.int ec_), ((if (0 : Int32) < lf then (if lf = (1 : Int32) then .val (.int (255 : Int32)) else (if lf = (2 : Int32) then .val (.int (65535 : Int32)) else .val (.int (16777215 : Int32)))) else .unset) : Slot)] [])) _
      refine XS.iload X11.here hx rfl (hb hby at_193) rfl ?_
      show Steps p.tables e below (T11.setTop (mkF m 195 #[.val (.int p0), .val (.int p1), .val (.int p2), .val (.int p3), .val (.int (1 : Int32)), .val (.int lf), .val (.int ln), .val (.int p0), .val (.int p2), .val (.ref dd), .val (.int got), .val (.int ec_), ((if (0 : Int32) < lf then (if lf = (1 : Int32) then .val (.int (255 : Int32)) else (if lf = (2 : Int32) then .val (.int (65535 : Int32)) else .val (.int (16777215 : Int32)))) else .unset) : Slot)] [(.int got)])) _
      refine XS.iload X11.here hx rfl (hb hby at_195) rfl ?_
      show Steps p.tables e below (T11.setTop (mkF m 197 #[.val (.int p0), .val (.int p1), .val (.int p2), .val (.int p3), .val (.int (1 : Int32)), .val (.int lf), .val (.int ln), .val (.int p0), .val (.int p2), .val (.ref dd), .val (.int got), .val (.int ec_), ((if (0 : Int32) < lf then (if lf = (1 : Int32) then .val (.int (255 : Int32)) else (if lf = (2 : Int32) then .val (.int (65535 : Int32)) else .val (.int (16777215 : Int32)))) else .unset) : Slot)] [(.int ec_), (.int got)])) _
      refine XS.icmpNo X11.here hx rfl (hb hby at_197) rfl (teq (by rw [h_got, h_ec_, h_eb_, h_ea_, h_et_, h_e1_, h_e0_]; exact own_fin1 p0 p1 p2 ln lf Bn : got = ec_)).2 ?_
      show Steps p.tables e below (T11.setTop (mkF m 200 #[.val (.int p0), .val (.int p1), .val (.int p2), .val (.int p3), .val (.int (1 : Int32)), .val (.int lf), .val (.int ln), .val (.int p0), .val (.int p2), .val (.ref dd), .val (.int got), .val (.int ec_), ((if (0 : Int32) < lf then (if lf = (1 : Int32) then .val (.int (255 : Int32)) else (if lf = (2 : Int32) then .val (.int (65535 : Int32)) else .val (.int (16777215 : Int32)))) else .unset) : Slot)] [])) _
      refine XS.iconst X11.here hx rfl (hb hby at_200) ?_
      show Steps p.tables e below (T11.setTop (mkF m 201 #[.val (.int p0), .val (.int p1), .val (.int p2), .val (.int p3), .val (.int (1 : Int32)), .val (.int lf), .val (.int ln), .val (.int p0), .val (.int p2), .val (.ref dd), .val (.int got), .val (.int ec_), ((if (0 : Int32) < lf then (if lf = (1 : Int32) then .val (.int (255 : Int32)) else (if lf = (2 : Int32) then .val (.int (65535 : Int32)) else .val (.int (16777215 : Int32)))) else .unset) : Slot)] [(.int (1 : Int32))])) _
      refine XS.goto X11.here hx rfl (pc0 := 201) (pc' := 205) rfl (hb hby at_201) (by decide) (by decide) ?_
      show Steps p.tables e below (T11.setTop (mkF m 205 #[.val (.int p0), .val (.int p1), .val (.int p2), .val (.int p3), .val (.int (1 : Int32)), .val (.int lf), .val (.int ln), .val (.int p0), .val (.int p2), .val (.ref dd), .val (.int got), .val (.int ec_), ((if (0 : Int32) < lf then (if lf = (1 : Int32) then .val (.int (255 : Int32)) else (if lf = (2 : Int32) then .val (.int (65535 : Int32)) else .val (.int (16777215 : Int32)))) else .unset) : Slot)] [(.int (1 : Int32))])) _
      exact retN X11 hx (t := .boolean) Bd.returns (by simp) (hb hby at_205) hr
    · show Qrm0 Z p0 p1 p2 p3 h0 n0 _ T11.heap _
      rw [eh11]
      exact ⟨rfl, N11⟩
  · obtain ⟨lf, h_lf⟩ : ∃ z : Int32, z = (p3 &&& (3 : Int32)) := ⟨_, rfl⟩
    obtain ⟨ln, h_ln⟩ : ∃ z : Int32, z = (((4 : Int32) * (2 : Int32)) + lf) := ⟨_, rfl⟩
    have Bn : ln.toInt = 8 + lf.toInt ∧ 0 ≤ lf.toInt ∧ lf.toInt ≤ 3 := own_ln2 p3 h_lf h_ln
    obtain ⟨T12, h12, k12, X12, e12, E12, A12, st12⟩ := newP X0 hx hZ (hw _ (List.mem_of_getElem? (i := 0) rfl)) e0 (g := (mkF m 48 #[.val (.int p0), .val (.int p1), .val (.int p2), .val (.int p3), .val (.int (2 : Int32)), .val (.int lf), .val (.int ln), .val (.int p0), .val (.int p1), .unset, .unset, .unset, .unset] [(.int ln)])) rfl (hb hby at_48) rfl (own_nn (by decide) Bn).1 (cap := 11) (own_nn (by decide) Bn).2 (by decide) (by decide) (by decide)
    obtain ⟨dd, g12⟩ : ∃ z, z = h0.size := ⟨_, rfl⟩
    rw [← g12] at A12 st12
    have g_dd : n0 ≤ dd := Nat.le_trans Z0 (Nat.le_of_eq g12.symm)
    have sz_dd : h0.size ≤ dd := Nat.le_trans K0.1 (Nat.le_of_eq g12.symm)
    have Zh12 : n0 ≤ h12.size := Nat.le_trans Z0 E12.1
    have Kh12 : Keep h0 h12 [] := K0.ext E12
    have V_dd : Arv Z h12 dd k12 .byte ln [] (.int (0 : Int32)) := Arv.new A12 (own_nn (by decide) Bn).1
    have V_dd : Arv Z h12 dd k12 .byte ln (List.replicate ln.toNatClampNeg (.int (0 : Int32))) (.int (0 : Int32)) := V_dd.pad (pad_rep [] (.int (0 : Int32)) ln.toNatClampNeg)
    obtain ⟨_, _, ⟨T13, L13, k13, n13⟩, -, X13, ⟨Lc13, hQ13, l13, y13, z13⟩, st13⟩ := Jvm.LawKit.callS X12 hx (y := (⟨"com/example/parley/parley/client/Murmur2HashPinLaw", "put", "([BII)V"⟩ : MethodName)) hown (mvT hZ (hw _ (List.mem_of_getElem? (i := 1) rfl))) (mvT hZ (hw _ (List.mem_of_getElem? (i := 2) rfl))) (mvT hZ (hw _ (List.mem_of_getElem? (i := 3) rfl))) (mvT hZ (hw _ (List.mem_of_getElem? (i := 4) rfl))) (by decide) (backOf (W := 0) (rm1_0 l Z A0 hw [] dd p0 k12 ln (List.replicate ln.toNatClampNeg (.int (0 : Int32))) (.int (0 : Int32)) h12 n0 Zh12 V_dd g_dd (by simp only [own_put_len, List.length_replicate])) hZ (hw _ (List.mem_of_getElem? (i := 4) rfl)) (hw _ (List.mem_of_getElem? (i := 3) rfl)) (by decide) (by decide)) (g := (mkF m 57 #[.val (.int p0), .val (.int p1), .val (.int p2), .val (.int p3), .val (.int (2 : Int32)), .val (.int lf), .val (.int ln), .val (.int p0), .val (.int p1), .val (.ref dd), .unset, .unset, .unset] [(.int p0), (.int (0 : Int32)), (.ref dd)])) rfl (by rw [hml]; rfl) (argsL := [(.ref dd), (.int (0 : Int32)), (.int p0)]) (rest := []) (lenOf pd_0 rfl) rfl (by show 2 * 0 + _ ≤ _; exact Nat.le_of_eq rfl) (hb hby at_57) (fun _ _ => ⟨rfl, e12, (by decide : 1 + 0 ≤ _), (by decide : 11 + 0 ≤ _)⟩)
    dsimp only [Pt.U, Pt.locs, Pt.cells, Pt.slots] at X13 l13 y13 z13 st13 hQ13
    subst l13 y13 z13
    obtain ⟨rfl, N13q, Kc13, P13_0⟩ := hQ13
    have N13 := Fr.app N0 N13q
    have ZT13_heap : n0 ≤ T13.heap.size := Nat.le_trans Zh12 Kc13.1
    have KT13_heap : Keep h0 T13.heap [] := Kh12.trans Kc13 (allS (Or.inr sz_dd) all0)
    have V_dd : Arv Z T13.heap dd k12 .byte ln (own_put (List.replicate ln.toNatClampNeg (.int (0 : Int32))) 0 p0) (.int (0 : Int32)) := P13_0
    obtain ⟨_, _, ⟨T14, L14, k14, n14⟩, -, X14, ⟨Lc14, hQ14, l14, y14, z14⟩, st14⟩ := Jvm.LawKit.callS X13 hx (y := (⟨"com/example/parley/parley/client/Murmur2HashPinLaw", "put", "([BII)V"⟩ : MethodName)) hown (mvT hZ (hw _ (List.mem_of_getElem? (i := 1) rfl))) (mvT hZ (hw _ (List.mem_of_getElem? (i := 2) rfl))) (mvT hZ (hw _ (List.mem_of_getElem? (i := 3) rfl))) (mvT hZ (hw _ (List.mem_of_getElem? (i := 4) rfl))) (by decide) (backOf (W := 0) (rm1_4 l Z A0 hw [] dd p1 k12 ln (own_put (List.replicate ln.toNatClampNeg (.int (0 : Int32))) 0 p0) (.int (0 : Int32)) T13.heap n0 ZT13_heap V_dd g_dd (by simp only [own_put_len, List.length_replicate])) hZ (hw _ (List.mem_of_getElem? (i := 4) rfl)) (hw _ (List.mem_of_getElem? (i := 3) rfl)) (by decide) (by decide)) (g := (mkF m 65 #[.val (.int p0), .val (.int p1), .val (.int p2), .val (.int p3), .val (.int (2 : Int32)), .val (.int lf), .val (.int ln), .val (.int p0), .val (.int p1), .val (.ref dd), .unset, .unset, .unset] [(.int p1), (.int (4 : Int32)), (.ref dd)])) rfl (by rw [hml]; rfl) (argsL := [(.ref dd), (.int (4 : Int32)), (.int p1)]) (rest := []) (lenOf pd_0 rfl) rfl (by show 2 * 0 + _ ≤ _; exact Nat.le_of_eq rfl) (hb hby at_65) (fun _ _ => ⟨rfl, rfl, (by decide : 1 + 0 ≤ _), (by decide : 11 + 0 ≤ _)⟩)
    dsimp only [Pt.U, Pt.locs, Pt.cells, Pt.slots] at X14 l14 y14 z14 st14 hQ14
    subst l14 y14 z14
    obtain ⟨rfl, N14q, Kc14, P14_0⟩ := hQ14
    have N14 := Fr.app N13 N14q
    have ZT14_heap : n0 ≤ T14.heap.size := Nat.le_trans ZT13_heap Kc14.1
    have KT14_heap : Keep h0 T14.heap [] := KT13_heap.trans Kc14 (allS (Or.inr sz_dd) all0)
    have V_dd : Arv Z T14.heap dd k12 .byte ln (own_put (own_put (List.replicate ln.toNatClampNeg (.int (0 : Int32))) 0 p0) 4 p1) (.int (0 : Int32)) := P14_0
    obtain ⟨_, _, ⟨T15, L15, k15, n15⟩, -, X15, ⟨Lc15, hQ15, l15, y15, z15⟩, st15⟩ := Jvm.LawKit.callS X14 hx (y := (⟨"com/example/parley/parley/client/Murmur2HashPinLaw", "put", "([BII)V"⟩ : MethodName)) hown (mvT hZ (hw _ (List.mem_of_getElem? (i := 1) rfl))) (mvT hZ (hw _ (List.mem_of_getElem? (i := 2) rfl))) (mvT hZ (hw _ (List.mem_of_getElem? (i := 3) rfl))) (mvT hZ (hw _ (List.mem_of_getElem? (i := 4) rfl))) (by decide) (backOf (W := 0) (rm1_8 l Z A0 hw [] dd p2 k12 ln (own_put (own_put (List.replicate ln.toNatClampNeg (.int (0 : Int32))) 0 p0) 4 p1) (.int (0 : Int32)) T14.heap n0 ZT14_heap V_dd g_dd (by simp only [own_put_len, List.length_replicate])) hZ (hw _ (List.mem_of_getElem? (i := 4) rfl)) (hw _ (List.mem_of_getElem? (i := 3) rfl)) (by decide) (by decide)) (g := (mkF m 73 #[.val (.int p0), .val (.int p1), .val (.int p2), .val (.int p3), .val (.int (2 : Int32)), .val (.int lf), .val (.int ln), .val (.int p0), .val (.int p1), .val (.ref dd), .unset, .unset, .unset] [(.int p2), (.int (8 : Int32)), (.ref dd)])) rfl (by rw [hml]; rfl) (argsL := [(.ref dd), (.int (8 : Int32)), (.int p2)]) (rest := []) (lenOf pd_0 rfl) rfl (by show 2 * 0 + _ ≤ _; exact Nat.le_of_eq rfl) (hb hby at_73) (fun _ _ => ⟨rfl, rfl, (by decide : 1 + 0 ≤ _), (by decide : 11 + 0 ≤ _)⟩)
    dsimp only [Pt.U, Pt.locs, Pt.cells, Pt.slots] at X15 l15 y15 z15 st15 hQ15
    subst l15 y15 z15
    obtain ⟨rfl, N15q, Kc15, P15_0⟩ := hQ15
    have N15 := Fr.app N14 N15q
    have ZT15_heap : n0 ≤ T15.heap.size := Nat.le_trans ZT14_heap Kc15.1
    have KT15_heap : Keep h0 T15.heap [] := KT14_heap.trans Kc15 (allS (Or.inr sz_dd) all0)
    have V_dd : Arv Z T15.heap dd k12 .byte ln (own_put (own_put (own_put (List.replicate ln.toNatClampNeg (.int (0 : Int32))) 0 p0) 4 p1) 8 p2) (.int (0 : Int32)) := P15_0
    obtain ⟨_, _, ⟨T16, L16, k16, n16⟩, -, X16, ⟨Lc16, hQ16, l16, y16, z16⟩, st16⟩ := Jvm.LawKit.callS X15 hx (y := (⟨"com/example/parley/parley/client/Murmur2", "hash", "([B)I"⟩ : MethodName)) hown (mvT hZ (hw _ (List.mem_of_getElem? (i := 8) rfl))) (mvT hZ (hw _ (List.mem_of_getElem? (i := 9) rfl))) (mvT hZ (hw _ (List.mem_of_getElem? (i := 10) rfl))) (mvT hZ (hw _ (List.mem_of_getElem? (i := 11) rfl))) (by decide) (backOf (W := 0) (rm3_2 l Z A0 hw [] dd k12 ln (own_put (own_put (own_put (List.replicate ln.toNatClampNeg (.int (0 : Int32))) 0 p0) 4 p1) 8 p2) (.int (0 : Int32)) (own_b0 p0) (own_b1 p0) (own_b2 p0) (own_b3 p0) (own_b0 p1) (own_b1 p1) (own_b2 p1) (own_b3 p1) (own_b0 p2) (own_b1 p2) (own_b2 p2) T15.heap n0 ZT15_heap V_dd (by omega) (own_at2_0 p0 p1 p2 Bn (by omega)) (own_at2_1 p0 p1 p2 Bn (by omega)) (own_at2_2 p0 p1 p2 Bn (by omega)) (own_at2_3 p0 p1 p2 Bn (by omega)) (own_at2_4 p0 p1 p2 Bn (by omega)) (own_at2_5 p0 p1 p2 Bn (by omega)) (own_at2_6 p0 p1 p2 Bn (by omega)) (own_at2_7 p0 p1 p2 Bn (by omega)) (fun q => own_at2_8 p0 p1 p2 Bn q) (fun q => own_at2_9 p0 p1 p2 Bn q) (fun q => own_at2_10 p0 p1 p2 Bn q)) hZ (hw _ (List.mem_of_getElem? (i := 11) rfl)) (hw _ (List.mem_of_getElem? (i := 10) rfl)) (by decide) (by decide)) (g := (mkF m 78 #[.val (.int p0), .val (.int p1), .val (.int p2), .val (.int p3), .val (.int (2 : Int32)), .val (.int lf), .val (.int ln), .val (.int p0), .val (.int p1), .val (.ref dd), .unset, .unset, .unset] [(.ref dd)])) rfl (by rw [hml]; rfl) (argsL := [(.ref dd)]) (rest := []) (lenOf pd_1 rfl) rfl (by show 2 * 0 + _ ≤ _; exact Nat.le_of_eq rfl) (hb hby at_78) (fun _ _ => ⟨rfl, rfl, (by decide : 1 + 0 ≤ _), (by decide : 11 + 0 ≤ _)⟩)
    dsimp only [Pt.U, Pt.locs, Pt.cells, Pt.slots] at X16 l16 y16 z16 st16 hQ16
    subst l16 y16 z16
    obtain ⟨rfl, N16q, eh16⟩ := hQ16
    have N16 := Fr.app N15 N16q
    obtain ⟨got, h_got⟩ : ∃ z : Int32, z = (own_h2 ln (own_b0 p0) (own_b1 p0) (own_b2 p0) (own_b3 p0) (own_b0 p1) (own_b1 p1) (own_b2 p1) (own_b3 p1) (own_b0 p2) (own_b1 p2) (own_b2 p2)) := ⟨_, rfl⟩
    obtain ⟨e0_, h_e0_⟩ : ∃ z : Int32, z = ((-1756908916 : Int32) ^^^ ln) := ⟨_, rfl⟩
    obtain ⟨_, _, ⟨T17, L17, k17, n17⟩, -, X17, ⟨Lc17, hQ17, l17, y17, z17⟩, st17⟩ := Jvm.LawKit.callS X16 hx (y := (⟨"com/example/parley/parley/client/Murmur2HashPinLaw", "block", "(II)I"⟩ : MethodName)) hown (mvT hZ (hw _ (List.mem_of_getElem? (i := 16) rfl))) (mvT hZ (hw _ (List.mem_of_getElem? (i := 17) rfl))) (mvT hZ (hw _ (List.mem_of_getElem? (i := 3) rfl))) (mvT hZ (hw _ (List.mem_of_getElem? (i := 18) rfl))) (by decide) (backOf (W := 0) (rm4 l Z A0 hw [] e0_ p0  T15.heap n0 ZT15_heap ) hZ (hw _ (List.mem_of_getElem? (i := 18) rfl)) (hw _ (List.mem_of_getElem? (i := 3) rfl)) (by decide) (by decide)) (g := (mkF m 99 #[.val (.int p0), .val (.int p1), .val (.int p2), .val (.int p3), .val (.int (2 : Int32)), .val (.int lf), .val (.int ln), .val (.int p0), .val (.int p1), .val (.ref dd), .val (.int got), .val (.int e0_), .unset] [(.int p0), (.int e0_)])) rfl (by rw [hml]; rfl) (argsL := [(.int e0_), (.int p0)]) (rest := []) (lenOf pd_2 rfl) rfl (by show 2 * 0 + _ ≤ _; exact Nat.le_of_eq rfl) (hb hby at_99) (fun _ _ => ⟨rfl, eh16, (by decide : 1 + 0 ≤ _), (by decide : 11 + 0 ≤ _)⟩)
    dsimp only [Pt.U, Pt.locs, Pt.cells, Pt.slots] at X17 l17 y17 z17 st17 hQ17
    subst l17 y17 z17
    obtain ⟨rfl, N17q, eh17⟩ := hQ17
    have N17 := Fr.app N16 N17q
    obtain ⟨e1_, h_e1_⟩ : ∃ z : Int32, z = ((e0_ * (1540483477 : Int32)) ^^^ (((p0 * (1540483477 : Int32)) ^^^ (((p0 * (1540483477 : Int32)).toUInt32 >>> ((24 : Int32) &&& 31).toUInt32).toInt32)) * (1540483477 : Int32))) := ⟨_, rfl⟩
    obtain ⟨_, _, ⟨T18, L18, k18, n18⟩, -, X18, ⟨Lc18, hQ18, l18, y18, z18⟩, st18⟩ := Jvm.LawKit.callS X17 hx (y := (⟨"com/example/parley/parley/client/Murmur2HashPinLaw", "block", "(II)I"⟩ : MethodName)) hown (mvT hZ (hw _ (List.mem_of_getElem? (i := 16) rfl))) (mvT hZ (hw _ (List.mem_of_getElem? (i := 17) rfl))) (mvT hZ (hw _ (List.mem_of_getElem? (i := 3) rfl))) (mvT hZ (hw _ (List.mem_of_getElem? (i := 18) rfl))) (by decide) (backOf (W := 0) (rm4 l Z A0 hw [] e1_ p1  T15.heap n0 ZT15_heap ) hZ (hw _ (List.mem_of_getElem? (i := 18) rfl)) (hw _ (List.mem_of_getElem? (i := 3) rfl)) (by decide) (by decide)) (g := (mkF m 113 #[.val (.int p0), .val (.int p1), .val (.int p2), .val (.int p3), .val (.int (2 : Int32)), .val (.int lf), .val (.int ln), .val (.int p0), .val (.int p1), .val (.ref dd), .val (.int got), .val (.int e1_), .unset] [(.int p1), (.int e1_)])) rfl (by rw [hml]; rfl) (argsL := [(.int e1_), (.int p1)]) (rest := []) (lenOf pd_2 rfl) rfl (by show 2 * 0 + _ ≤ _; exact Nat.le_of_eq rfl) (hb hby at_113) (fun _ _ => ⟨rfl, eh17, (by decide : 1 + 0 ≤ _), (by decide : 11 + 0 ≤ _)⟩)
    dsimp only [Pt.U, Pt.locs, Pt.cells, Pt.slots] at X18 l18 y18 z18 st18 hQ18
    subst l18 y18 z18
    obtain ⟨rfl, N18q, eh18⟩ := hQ18
    have N18 := Fr.app N17 N18q
    obtain ⟨e2_, h_e2_⟩ : ∃ z : Int32, z = ((e1_ * (1540483477 : Int32)) ^^^ (((p1 * (1540483477 : Int32)) ^^^ (((p1 * (1540483477 : Int32)).toUInt32 >>> ((24 : Int32) &&& 31).toUInt32).toInt32)) * (1540483477 : Int32))) := ⟨_, rfl⟩
    obtain ⟨et_, h_et_⟩ : ∃ z : Int32, z = (if (0 : Int32) < lf then (if lf = (1 : Int32) then ((e2_ ^^^ (p2 &&& (255 : Int32))) * (1540483477 : Int32)) else (if lf = (2 : Int32) then ((e2_ ^^^ (p2 &&& (65535 : Int32))) * (1540483477 : Int32)) else ((e2_ ^^^ (p2 &&& (16777215 : Int32))) * (1540483477 : Int32)))) else e2_) := ⟨_, rfl⟩
    obtain ⟨ea_, h_ea_⟩ : ∃ z : Int32, z = (et_ ^^^ ((et_.toUInt32 >>> ((13 : Int32) &&& 31).toUInt32).toInt32)) := ⟨_, rfl⟩
    obtain ⟨eb_, h_eb_⟩ : ∃ z : Int32, z = (ea_ * (1540483477 : Int32)) := ⟨_, rfl⟩
    obtain ⟨ec_, h_ec_⟩ : ∃ z : Int32, z = (eb_ ^^^ ((eb_.toUInt32 >>> ((15 : Int32) &&& 31).toUInt32).toInt32)) := ⟨_, rfl⟩
    obtain ⟨fs, hr, hrun, hended, hW, hsame⟩ := X18.leave (v := some (.int (1 : Int32))) (fun h => by rw [Bd.returns] at h; cases h)
    refine ⟨_, _, pre0 _ ?_, hrun, hended, _, _, rfl, ?_, ⟨_, rfl⟩, hW, hsame.mono (by decide) (by decide)⟩
    · show Steps p.tables e below (s₁.setTop (mkF m 0 #[.val (.int p0), .val (.int p1), .val (.int p2), .val (.int p3), .unset, .unset, .unset, .unset, .unset, .unset, .unset, .unset, .unset] [])) _
      refine XS.iloadN X0.here hx rfl (hb hby at_0) rfl ?_
      show Steps p.tables e below (s₁.setTop (mkF m 1 #[.val (.int p0), .val (.int p1), .val (.int p2), .val (.int p3), .unset, .unset, .unset, .unset, .unset, .unset, .unset, .unset, .unset] [(.int p3)])) _
      refine XS.iconst X0.here hx rfl (hb hby at_1) ?_
      show Steps p.tables e below (s₁.setTop (mkF m 2 #[.val (.int p0), .val (.int p1), .val (.int p2), .val (.int p3), .unset, .unset, .unset, .unset, .unset, .unset, .unset, .unset, .unset] [(.int (2 : Int32)), (.int p3)])) _
      refine XS.iushr X0.here hx rfl (hb hby at_2) rfl ?_
      show Steps p.tables e below (s₁.setTop (mkF m 3 #[.val (.int p0), .val (.int p1), .val (.int p2), .val (.int p3), .unset, .unset, .unset, .unset, .unset, .unset, .unset, .unset, .unset] [(.int ((p3.toUInt32 >>> ((2 : Int32) &&& 31).toUInt32).toInt32))])) _
      refine XS.iconst X0.here hx rfl (hb hby at_3) ?_
      show Steps p.tables e below (s₁.setTop (mkF m 4 #[.val (.int p0), .val (.int p1), .val (.int p2), .val (.int p3), .unset, .unset, .unset, .unset, .unset, .unset, .unset, .unset, .unset] [(.int (3 : Int32)), (.int ((p3.toUInt32 >>> ((2 : Int32) &&& 31).toUInt32).toInt32))])) _
      refine iremM X0 hx rfl (hb hby at_4) rfl (by decide) ?_
      show Steps p.tables e below (s₁.setTop (mkF m 5 #[.val (.int p0), .val (.int p1), .val (.int p2), .val (.int p3), .unset, .unset, .unset, .unset, .unset, .unset, .unset, .unset, .unset] [(.int (((p3.toUInt32 >>> ((2 : Int32) &&& 31).toUInt32).toInt32) % (3 : Int32)))])) _
      rw [← h_nb]
      show Steps p.tables e below (s₁.setTop (mkF m 5 #[.val (.int p0), .val (.int p1), .val (.int p2), .val (.int p3), .unset, .unset, .unset, .unset, .unset, .unset, .unset, .unset, .unset] [(.int (2 : Int32))])) _
      refine XS.istore X0.here hx rfl (hb hby at_5) rfl (l' := #[.val (.int p0), .val (.int p1), .val (.int p2), .val (.int p3), .val (.int (2 : Int32)), .unset, .unset, .unset, .unset, .unset, .unset, .unset, .unset]) rfl ?_
      show Steps p.tables e below (s₁.setTop (mkF m 7 #[.val (.int p0), .val (.int p1), .val (.int p2), .val (.int p3), .val (.int (2 : Int32)), .unset, .unset, .unset, .unset, .unset, .unset, .unset, .unset] [])) _
      refine XS.iloadN X0.here hx rfl (hb hby at_7) rfl ?_
      show Steps p.tables e below (s₁.setTop (mkF m 8 #[.val (.int p0), .val (.int p1), .val (.int p2), .val (.int p3), .val (.int (2 : Int32)), .unset, .unset, .unset, .unset, .unset, .unset, .unset, .unset] [(.int p3)])) _
      refine XS.iconst X0.here hx rfl (hb hby at_8) ?_
      show Steps p.tables e below (s₁.setTop (mkF m 9 #[.val (.int p0), .val (.int p1), .val (.int p2), .val (.int p3), .val (.int (2 : Int32)), .unset, .unset, .unset, .unset, .unset, .unset, .unset, .unset] [(.int (3 : Int32)), (.int p3)])) _
      refine XS.iand X0.here hx rfl (hb hby at_9) rfl ?_
      show Steps p.tables e below (s₁.setTop (mkF m 10 #[.val (.int p0), .val (.int p1), .val (.int p2), .val (.int p3), .val (.int (2 : Int32)), .unset, .unset, .unset, .unset, .unset, .unset, .unset, .unset] [(.int (p3 &&& (3 : Int32)))])) _
      rw [← h_lf]
      show Steps p.tables e below (s₁.setTop (mkF m 10 #[.val (.int p0), .val (.int p1), .val (.int p2), .val (.int p3), .val (.int (2 : Int32)), .unset, .unset, .unset, .unset, .unset, .unset, .unset, .unset] [(.int lf)])) _
      refine XS.istore X0.here hx rfl (hb hby at_10) rfl (l' := #[.val (.int p0), .val (.int p1), .val (.int p2), .val (.int p3), .val (.int (2 : Int32)), .val (.int lf), .unset, .unset, .unset, .unset, .unset, .unset, .unset]) rfl ?_
      show Steps p.tables e below (s₁.setTop (mkF m 12 #[.val (.int p0), .val (.int p1), .val (.int p2), .val (.int p3), .val (.int (2 : Int32)), .val (.int lf), .unset, .unset, .unset, .unset, .unset, .unset, .unset] [])) _
      refine XS.iconst X0.here hx rfl (hb hby at_12) ?_
      show Steps p.tables e below (s₁.setTop (mkF m 13 #[.val (.int p0), .val (.int p1), .val (.int p2), .val (.int p3), .val (.int (2 : Int32)), .val (.int lf), .unset, .unset, .unset, .unset, .unset, .unset, .unset] [(.int (4 : Int32))])) _
      refine XS.iload X0.here hx rfl (hb hby at_13) rfl ?_
      show Steps p.tables e below (s₁.setTop (mkF m 15 #[.val (.int p0), .val (.int p1), .val (.int p2), .val (.int p3), .val (.int (2 : Int32)), .val (.int lf), .unset, .unset, .unset, .unset, .unset, .unset, .unset] [(.int (2 : Int32)), (.int (4 : Int32))])) _
      refine XS.imul X0.here hx rfl (hb hby at_15) rfl ?_
      show Steps p.tables e below (s₁.setTop (mkF m 16 #[.val (.int p0), .val (.int p1), .val (.int p2), .val (.int p3), .val (.int (2 : Int32)), .val (.int lf), .unset, .unset, .unset, .unset, .unset, .unset, .unset] [(.int ((4 : Int32) * (2 : Int32)))])) _
      refine XS.iload X0.here hx rfl (hb hby at_16) rfl ?_
      show Steps p.tables e below (s₁.setTop (mkF m 18 #[.val (.int p0), .val (.int p1), .val (.int p2), .val (.int p3), .val (.int (2 : Int32)), .val (.int lf), .unset, .unset, .unset, .unset, .unset, .unset, .unset] [(.int lf), (.int ((4 : Int32) * (2 : Int32)))])) _
      refine XS.iadd X0.here hx rfl (hb hby at_18) rfl ?_
      show Steps p.tables e below (s₁.setTop (mkF m 19 #[.val (.int p0), .val (.int p1), .val (.int p2), .val (.int p3), .val (.int (2 : Int32)), .val (.int lf), .unset, .unset, .unset, .unset, .unset, .unset, .unset] [(.int (((4 : Int32) * (2 : Int32)) + lf))])) _
      rw [← h_ln]
      show Steps p.tables e below (s₁.setTop (mkF m 19 #[.val (.int p0), .val (.int p1), .val (.int p2), .val (.int p3), .val (.int (2 : Int32)), .val (.int lf), .unset, .unset, .unset, .unset, .unset, .unset, .unset] [(.int ln)])) _
      refine XS.istore X0.here hx rfl (hb hby at_19) rfl (l' := #[.val (.int p0), .val (.int p1), .val (.int p2), .val (.int p3), .val (.int (2 : Int32)), .val (.int lf), .val (.int ln), .unset, .unset, .unset, .unset, .unset, .unset]) rfl ?_
      show Steps p.tables e below (s₁.setTop (mkF m 21 #[.val (.int p0), .val (.int p1), .val (.int p2), .val (.int p3), .val (.int (2 : Int32)), .val (.int lf), .val (.int ln), .unset, .unset, .unset, .unset, .unset, .unset] [])) _
      refine XS.iload X0.here hx rfl (hb hby at_21) rfl ?_
      show Steps p.tables e below (s₁.setTop (mkF m 23 #[.val (.int p0), .val (.int p1), .val (.int p2), .val (.int p3), .val (.int (2 : Int32)), .val (.int lf), .val (.int ln), .unset, .unset, .unset, .unset, .unset, .unset] [(.int (2 : Int32))])) _
      refine XS.ifNo X0.here hx rfl (hb hby at_23) rfl ((if0 _ _).trans (tlt (by decide : (0 : Int32) < (2 : Int32))).2.2.2) ?_
      show Steps p.tables e below (s₁.setTop (mkF m 26 #[.val (.int p0), .val (.int p1), .val (.int p2), .val (.int p3), .val (.int (2 : Int32)), .val (.int lf), .val (.int ln), .unset, .unset, .unset, .unset, .unset, .unset] [])) _
      refine XS.iloadN X0.here hx rfl (hb hby at_26) rfl ?_
      show Steps p.tables e below (s₁.setTop (mkF m 27 #[.val (.int p0), .val (.int p1), .val (.int p2), .val (.int p3), .val (.int (2 : Int32)), .val (.int lf), .val (.int ln), .unset, .unset, .unset, .unset, .unset, .unset] [(.int p0)])) _
      refine XS.goto X0.here hx rfl (pc0 := 27) (pc' := 31) rfl (hb hby at_27) (by decide) (by decide) ?_
      show Steps p.tables e below (s₁.setTop (mkF m 31 #[.val (.int p0), .val (.int p1), .val (.int p2), .val (.int p3), .val (.int (2 : Int32)), .val (.int lf), .val (.int ln), .unset, .unset, .unset, .unset, .unset, .unset] [(.int p0)])) _
      refine XS.istore X0.here hx rfl (hb hby at_31) rfl (l' := #[.val (.int p0), .val (.int p1), .val (.int p2), .val (.int p3), .val (.int (2 : Int32)), .val (.int lf), .val (.int ln), .val (.int p0), .unset, .unset, .unset, .unset, .unset]) rfl ?_
      show Steps p.tables e below (s₁.setTop (mkF m 33 #[.val (.int p0), .val (.int p1), .val (.int p2), .val (.int p3), .val (.int (2 : Int32)), .val (.int lf), .val (.int ln), .val (.int p0), .unset, .unset, .unset, .unset, .unset] [])) _
      refine XS.iload X0.here hx rfl (hb hby at_33) rfl ?_
      show Steps p.tables e below (s₁.setTop (mkF m 35 #[.val (.int p0), .val (.int p1), .val (.int p2), .val (.int p3), .val (.int (2 : Int32)), .val (.int lf), .val (.int ln), .val (.int p0), .unset, .unset, .unset, .unset, .unset] [(.int (2 : Int32))])) _
      refine XS.iconst X0.here hx rfl (hb hby at_35) ?_
      show Steps p.tables e below (s₁.setTop (mkF m 36 #[.val (.int p0), .val (.int p1), .val (.int p2), .val (.int p3), .val (.int (2 : Int32)), .val (.int lf), .val (.int ln), .val (.int p0), .unset, .unset, .unset, .unset, .unset] [(.int (1 : Int32)), (.int (2 : Int32))])) _
      refine XS.icmpNo X0.here hx rfl (hb hby at_36) rfl (tlt (by decide : (1 : Int32) < (2 : Int32))).2.2.2 ?_
      show Steps p.tables e below (s₁.setTop (mkF m 39 #[.val (.int p0), .val (.int p1), .val (.int p2), .val (.int p3), .val (.int (2 : Int32)), .val (.int lf), .val (.int ln), .val (.int p0), .unset, .unset, .unset, .unset, .unset] [])) _
      refine XS.iloadN X0.here hx rfl (hb hby at_39) rfl ?_
      show Steps p.tables e below (s₁.setTop (mkF m 40 #[.val (.int p0), .val (.int p1), .val (.int p2), .val (.int p3), .val (.int (2 : Int32)), .val (.int lf), .val (.int ln), .val (.int p0), .unset, .unset, .unset, .unset, .unset] [(.int p1)])) _
      refine XS.goto X0.here hx rfl (pc0 := 40) (pc' := 44) rfl (hb hby at_40) (by decide) (by decide) ?_
      show Steps p.tables e below (s₁.setTop (mkF m 44 #[.val (.int p0), .val (.int p1), .val (.int p2), .val (.int p3), .val (.int (2 : Int32)), .val (.int lf), .val (.int ln), .val (.int p0), .unset, .unset, .unset, .unset, .unset] [(.int p1)])) _
      refine XS.istore X0.here hx rfl (hb hby at_44) rfl (l' := #[.val (.int p0), .val (.int p1), .val (.int p2), .val (.int p3), .val (.int (2 : Int32)), .val (.int lf), .val (.int ln), .val (.int p0), .val (.int p1), .unset, .unset, .unset, .unset]) rfl ?_
      show Steps p.tables e below (s₁.setTop (mkF m 46 #[.val (.int p0), .val (.int p1), .val (.int p2), .val (.int p3), .val (.int (2 : Int32)), .val (.int lf), .val (.int ln), .val (.int p0), .val (.int p1), .unset, .unset, .unset, .unset] [])) _
      refine XS.iload X0.here hx rfl (hb hby at_46) rfl ?_
      show Steps p.tables e below (s₁.setTop (mkF m 48 #[.val (.int p0), .val (.int p1), .val (.int p2), .val (.int p3), .val (.int (2 : Int32)), .val (.int lf), .val (.int ln), .val (.int p0), .val (.int p1), .unset, .unset, .unset, .unset] [(.int ln)])) _
      refine st12 _ ?_
      show Steps p.tables e below (T12.setTop (mkF m 50 #[.val (.int p0), .val (.int p1), .val (.int p2), .val (.int p3), .val (.int (2 : Int32)), .val (.int lf), .val (.int ln), .val (.int p0), .val (.int p1), .unset, .unset, .unset, .unset] [(.ref dd)])) _
      refine XS.astore X12.here hx rfl (hb hby at_50) rfl rfl (l' := #[.val (.int p0), .val (.int p1), .val (.int p2), .val (.int p3), .val (.int (2 : Int32)), .val (.int lf), .val (.int ln), .val (.int p0), .val (.int p1), .val (.ref dd), .unset, .unset, .unset]) rfl ?_
      show Steps p.tables e below (T12.setTop (mkF m 52 #[.val (.int p0), .val (.int p1), .val (.int p2), .val (.int p3), .val (.int (2 : Int32)), .val (.int lf), .val (.int ln), .val (.int p0), .val (.int p1), .val (.ref dd), .unset, .unset, .unset] [])) _
      refine XS.aload X12.here hx rfl (hb hby at_52) rfl rfl ?_
      show Steps p.tables e below (T12.setTop (mkF m 54 #[.val (.int p0), .val (.int p1), .val (.int p2), .val (.int p3), .val (.int (2 : Int32)), .val (.int lf), .val (.int ln), .val (.int p0), .val (.int p1), .val (.ref dd), .unset, .unset, .unset] [(.ref dd)])) _
      refine XS.iconst X12.here hx rfl (hb hby at_54) ?_
      show Steps p.tables e below (T12.setTop (mkF m 55 #[.val (.int p0), .val (.int p1), .val (.int p2), .val (.int p3), .val (.int (2 : Int32)), .val (.int lf), .val (.int ln), .val (.int p0), .val (.int p1), .val (.ref dd), .unset, .unset, .unset] [(.int (0 : Int32)), (.ref dd)])) _
      refine XS.iload X12.here hx rfl (hb hby at_55) rfl ?_
      show Steps p.tables e below (T12.setTop (mkF m 57 #[.val (.int p0), .val (.int p1), .val (.int p2), .val (.int p3), .val (.int (2 : Int32)), .val (.int lf), .val (.int ln), .val (.int p0), .val (.int p1), .val (.ref dd), .unset, .unset, .unset] [(.int p0), (.int (0 : Int32)), (.ref dd)])) _
      refine st13 _ ?_
      show Steps p.tables e below (T13.setTop (mkF m 60 #[.val (.int p0), .val (.int p1), .val (.int p2), .val (.int p3), .val (.int (2 : Int32)), .val (.int lf), .val (.int ln), .val (.int p0), .val (.int p1), .val (.ref dd), .unset, .unset, .unset] [])) _
      refine XS.aload X13.here hx rfl (hb hby at_60) rfl rfl ?_
      show Steps p.tables e below (T13.setTop (mkF m 62 #[.val (.int p0), .val (.int p1), .val (.int p2), .val (.int p3), .val (.int (2 : Int32)), .val (.int lf), .val (.int ln), .val (.int p0), .val (.int p1), .val (.ref dd), .unset, .unset, .unset] [(.ref dd)])) _
      refine XS.iconst X13.here hx rfl (hb hby at_62) ?_
      show Steps p.tables e below (T13.setTop (mkF m 63 #[.val (.int p0), .val (.int p1), .val (.int p2), .val (.int p3), .val (.int (2 : Int32)), .val (.int lf), .val (.int ln), .val (.int p0), .val (.int p1), .val (.ref dd), .unset, .unset, .unset] [(.int (4 : Int32)), (.ref dd)])) _
      refine XS.iload X13.here hx rfl (hb hby at_63) rfl ?_
      show Steps p.tables e below (T13.setTop (mkF m 65 #[.val (.int p0), .val (.int p1), .val (.int p2), .val (.int p3), .val (.int (2 : Int32)), .val (.int lf), .val (.int ln), .val (.int p0), .val (.int p1), .val (.ref dd), .unset, .unset, .unset] [(.int p1), (.int (4 : Int32)), (.ref dd)])) _
      refine st14 _ ?_
      show Steps p.tables e below (T14.setTop (mkF m 68 #[.val (.int p0), .val (.int p1), .val (.int p2), .val (.int p3), .val (.int (2 : Int32)), .val (.int lf), .val (.int ln), .val (.int p0), .val (.int p1), .val (.ref dd), .unset, .unset, .unset] [])) _
      refine XS.aload X14.here hx rfl (hb hby at_68) rfl rfl ?_
      show Steps p.tables e below (T14.setTop (mkF m 70 #[.val (.int p0), .val (.int p1), .val (.int p2), .val (.int p3), .val (.int (2 : Int32)), .val (.int lf), .val (.int ln), .val (.int p0), .val (.int p1), .val (.ref dd), .unset, .unset, .unset] [(.ref dd)])) _
      refine XS.bipush X14.here hx rfl (hb hby at_70) ?_
      show Steps p.tables e below (T14.setTop (mkF m 72 #[.val (.int p0), .val (.int p1), .val (.int p2), .val (.int p3), .val (.int (2 : Int32)), .val (.int lf), .val (.int ln), .val (.int p0), .val (.int p1), .val (.ref dd), .unset, .unset, .unset] [(.int (8 : Int32)), (.ref dd)])) _
      refine XS.iloadN X14.here hx rfl (hb hby at_72) rfl ?_
      show Steps p.tables e below (T14.setTop (mkF m 73 #[.val (.int p0), .val (.int p1), .val (.int p2), .val (.int p3), .val (.int (2 : Int32)), .val (.int lf), .val (.int ln), .val (.int p0), .val (.int p1), .val (.ref dd), .unset, .unset, .unset] [(.int p2), (.int (8 : Int32)), (.ref dd)])) _
      refine st15 _ ?_
      show Steps p.tables e below (T15.setTop (mkF m 76 #[.val (.int p0), .val (.int p1), .val (.int p2), .val (.int p3), .val (.int (2 : Int32)), .val (.int lf), .val (.int ln), .val (.int p0), .val (.int p1), .val (.ref dd), .unset, .unset, .unset] [])) _
      refine XS.aload X15.here hx rfl (hb hby at_76) rfl rfl ?_
      show Steps p.tables e below (T15.setTop (mkF m 78 #[.val (.int p0), .val (.int p1), .val (.int p2), .val (.int p3), .val (.int (2 : Int32)), .val (.int lf), .val (.int ln), .val (.int p0), .val (.int p1), .val (.ref dd), .unset, .unset, .unset] [(.ref dd)])) _
      refine st16 _ ?_
      show Steps p.tables e below (T16.setTop (mkF m 81 #[.val (.int p0), .val (.int p1), .val (.int p2), .val (.int p3), .val (.int (2 : Int32)), .val (.int lf), .val (.int ln), .val (.int p0), .val (.int p1), .val (.ref dd), .unset, .unset, .unset] [(.int (own_h2 ln (own_b0 p0) (own_b1 p0) (own_b2 p0) (own_b3 p0) (own_b0 p1) (own_b1 p1) (own_b2 p1) (own_b3 p1) (own_b0 p2) (own_b1 p2) (own_b2 p2)))])) _
      rw [← h_got]
      show Steps p.tables e below (T16.setTop (mkF m 81 #[.val (.int p0), .val (.int p1), .val (.int p2), .val (.int p3), .val (.int (2 : Int32)), .val (.int lf), .val (.int ln), .val (.int p0), .val (.int p1), .val (.ref dd), .unset, .unset, .unset] [(.int got)])) _
      refine XS.istore X16.here hx rfl (hb hby at_81) rfl (l' := #[.val (.int p0), .val (.int p1), .val (.int p2), .val (.int p3), .val (.int (2 : Int32)), .val (.int lf), .val (.int ln), .val (.int p0), .val (.int p1), .val (.ref dd), .val (.int got), .unset, .unset]) rfl ?_
      show Steps p.tables e below (T16.setTop (mkF m 83 #[.val (.int p0), .val (.int p1), .val (.int p2), .val (.int p3), .val (.int (2 : Int32)), .val (.int lf), .val (.int ln), .val (.int p0), .val (.int p1), .val (.ref dd), .val (.int got), .unset, .unset] [])) _
      refine X16.ldcInt hx hown (mvT hZ (hw _ (List.mem_of_getElem? (i := 14) rfl))) (g := (mkF m 83 #[.val (.int p0), .val (.int p1), .val (.int p2), .val (.int p3), .val (.int (2 : Int32)), .val (.int lf), .val (.int ln), .val (.int p0), .val (.int p1), .val (.ref dd), .val (.int got), .unset, .unset] [])) rfl (hb hby at_83) _ ?_
      show Steps p.tables e below (T16.setTop (mkF m 85 #[.val (.int p0), .val (.int p1), .val (.int p2), .val (.int p3), .val (.int (2 : Int32)), .val (.int lf), .val (.int ln), .val (.int p0), .val (.int p1), .val (.ref dd), .val (.int got), .unset, .unset] [(.int (-1756908916 : Int32))])) _
      refine XS.iload X16.here hx rfl (hb hby at_85) rfl ?_
      show Steps p.tables e below (T16.setTop (mkF m 87 #[.val (.int p0), .val (.int p1), .val (.int p2), .val (.int p3), .val (.int (2 : Int32)), .val (.int lf), .val (.int ln), .val (.int p0), .val (.int p1), .val (.ref dd), .val (.int got), .unset, .unset] [(.int ln), (.int (-1756908916 : Int32))])) _
      refine XS.ixor X16.here hx rfl (hb hby at_87) rfl ?_
      show Steps p.tables e below (T16.setTop (mkF m 88 #[.val (.int p0), .val (.int p1), .val (.int p2), .val (.int p3), .val (.int (2 : Int32)), .val (.int lf), .val (.int ln), .val (.int p0), .val (.int p1), .val (.ref dd), .val (.int got), .unset, .unset] [(.int ((-1756908916 : Int32) ^^^ ln))])) _
      rw [← h_e0_]
      show Steps p.tables e below (T16.setTop (mkF m 88 #[.val (.int p0), .val (.int p1), .val (.int p2), .val (.int p3), .val (.int (2 : Int32)), .val (.int lf), .val (.int ln), .val (.int p0), .val (.int p1), .val (.ref dd), .val (.int got), .unset, .unset] [(.int e0_)])) _
      refine XS.istore X16.here hx rfl (hb hby at_88) rfl (l' := #[.val (.int p0), .val (.int p1), .val (.int p2), .val (.int p3), .val (.int (2 : Int32)), .val (.int lf), .val (.int ln), .val (.int p0), .val (.int p1), .val (.ref dd), .val (.int got), .val (.int e0_), .unset]) rfl ?_
      show Steps p.tables e below (T16.setTop (mkF m 90 #[.val (.int p0), .val (.int p1), .val (.int p2), .val (.int p3), .val (.int (2 : Int32)), .val (.int lf), .val (.int ln), .val (.int p0), .val (.int p1), .val (.ref dd), .val (.int got), .val (.int e0_), .unset] [])) _
      refine XS.iload X16.here hx rfl (hb hby at_90) rfl ?_
      show Steps p.tables e below (T16.setTop (mkF m 92 #[.val (.int p0), .val (.int p1), .val (.int p2), .val (.int p3), .val (.int (2 : Int32)), .val (.int lf), .val (.int ln), .val (.int p0), .val (.int p1), .val (.ref dd), .val (.int got), .val (.int e0_), .unset] [(.int (2 : Int32))])) _
      refine XS.iconst X16.here hx rfl (hb hby at_92) ?_
      show Steps p.tables e below (T16.setTop (mkF m 93 #[.val (.int p0), .val (.int p1), .val (.int p2), .val (.int p3), .val (.int (2 : Int32)), .val (.int lf), .val (.int ln), .val (.int p0), .val (.int p1), .val (.ref dd), .val (.int got), .val (.int e0_), .unset] [(.int (1 : Int32)), (.int (2 : Int32))])) _
      refine XS.icmpNo X16.here hx rfl (hb hby at_93) rfl (flt (by decide : ¬ ((2 : Int32) < (1 : Int32)))).1 ?_
      show Steps p.tables e below (T16.setTop (mkF m 96 #[.val (.int p0), .val (.int p1), .val (.int p2), .val (.int p3), .val (.int (2 : Int32)), .val (.int lf), .val (.int ln), .val (.int p0), .val (.int p1), .val (.ref dd), .val (.int got), .val (.int e0_), .unset] [])) _
      refine XS.iload X16.here hx rfl (hb hby at_96) rfl ?_
      show Steps p.tables e below (T16.setTop (mkF m 98 #[.val (.int p0), .val (.int p1), .val (.int p2), .val (.int p3), .val (.int (2 : Int32)), .val (.int lf), .val (.int ln), .val (.int p0), .val (.int p1), .val (.ref dd), .val (.int got), .val (.int e0_), .unset] [(.int e0_)])) _
      refine XS.iloadN X16.here hx rfl (hb hby at_98) rfl ?_
      show Steps p.tables e below (T16.setTop (mkF m 99 #[.val (.int p0), .val (.int p1), .val (.int p2), .val (.int p3), .val (.int (2 : Int32)), .val (.int lf), .val (.int ln), .val (.int p0), .val (.int p1), .val (.ref dd), .val (.int got), .val (.int e0_), .unset] [(.int p0), (.int e0_)])) _
      refine st17 _ ?_
      show Steps p.tables e below (T17.setTop (mkF m 102 #[.val (.int p0), .val (.int p1), .val (.int p2), .val (.int p3), .val (.int (2 : Int32)), .val (.int lf), .val (.int ln), .val (.int p0), .val (.int p1), .val (.ref dd), .val (.int got), .val (.int e0_), .unset] [(.int ((e0_ * (1540483477 : Int32)) ^^^ (((p0 * (1540483477 : Int32)) ^^^ (((p0 * (1540483477 : Int32)).toUInt32 >>> ((24 : Int32) &&& 31).toUInt32).toInt32)) * (1540483477 : Int32))))])) _
      rw [← h_e1_]
      show Steps p.tables e below (T17.setTop (mkF m 102 #[.val (.int p0), .val (.int p1), .val (.int p2), .val (.int p3), .val (.int (2 : Int32)), .val (.int lf), .val (.int ln), .val (.int p0), .val (.int p1), .val (.ref dd), .val (.int got), .val (.int e0_), .unset] [(.int e1_)])) _
      refine XS.istore X17.here hx rfl (hb hby at_102) rfl (l' := #[.val (.int p0), .val (.int p1), .val (.int p2), .val (.int p3), .val (.int (2 : Int32)), .val (.int lf), .val (.int ln), .val (.int p0), .val (.int p1), .val (.ref dd), .val (.int got), .val (.int e1_), .unset]) rfl ?_
      show Steps p.tables e below (T17.setTop (mkF m 104 #[.val (.int p0), .val (.int p1), .val (.int p2), .val (.int p3), .val (.int (2 : Int32)), .val (.int lf), .val (.int ln), .val (.int p0), .val (.int p1), .val (.ref dd), .val (.int got), .val (.int e1_), .unset] [])) _
      refine XS.iload X17.here hx rfl (hb hby at_104) rfl ?_
      show Steps p.tables e below (T17.setTop (mkF m 106 #[.val (.int p0), .val (.int p1), .val (.int p2), .val (.int p3), .val (.int (2 : Int32)), .val (.int lf), .val (.int ln), .val (.int p0), .val (.int p1), .val (.ref dd), .val (.int got), .val (.int e1_), .unset] [(.int (2 : Int32))])) _
      refine XS.iconst X17.here hx rfl (hb hby at_106) ?_
      show Steps p.tables e below (T17.setTop (mkF m 107 #[.val (.int p0), .val (.int p1), .val (.int p2), .val (.int p3), .val (.int (2 : Int32)), .val (.int lf), .val (.int ln), .val (.int p0), .val (.int p1), .val (.ref dd), .val (.int got), .val (.int e1_), .unset] [(.int (2 : Int32)), (.int (2 : Int32))])) _
      refine XS.icmpNo X17.here hx rfl (hb hby at_107) rfl (flt (by decide : ¬ ((2 : Int32) < (2 : Int32)))).1 ?_
      show Steps p.tables e below (T17.setTop (mkF m 110 #[.val (.int p0), .val (.int p1), .val (.int p2), .val (.int p3), .val (.int (2 : Int32)), .val (.int lf), .val (.int ln), .val (.int p0), .val (.int p1), .val (.ref dd), .val (.int got), .val (.int e1_), .unset] [])) _
      refine XS.iload X17.here hx rfl (hb hby at_110) rfl ?_
      show Steps p.tables e below (T17.setTop (mkF m 112 #[.val (.int p0), .val (.int p1), .val (.int p2), .val (.int p3), .val (.int (2 : Int32)), .val (.int lf), .val (.int ln), .val (.int p0), .val (.int p1), .val (.ref dd), .val (.int got), .val (.int e1_), .unset] [(.int e1_)])) _
      refine XS.iloadN X17.here hx rfl (hb hby at_112) rfl ?_
      show Steps p.tables e below (T17.setTop (mkF m 113 #[.val (.int p0), .val (.int p1), .val (.int p2), .val (.int p3), .val (.int (2 : Int32)), .val (.int lf), .val (.int ln), .val (.int p0), .val (.int p1), .val (.ref dd), .val (.int got), .val (.int e1_), .unset] [(.int p1), (.int e1_)])) _
      refine st18 _ ?_
      show Steps p.tables e below (T18.setTop (mkF m 116 #[.val (.int p0), .val (.int p1), .val (.int p2), .val (.int p3), .val (.int (2 : Int32)), .val (.int lf), .val (.int ln), .val (.int p0), .val (.int p1), .val (.ref dd), .val (.int got), .val (.int e1_), .unset] [(.int ((e1_ * (1540483477 : Int32)) ^^^ (((p1 * (1540483477 : Int32)) ^^^ (((p1 * (1540483477 : Int32)).toUInt32 >>> ((24 : Int32) &&& 31).toUInt32).toInt32)) * (1540483477 : Int32))))])) _
      rw [← h_e2_]
      show Steps p.tables e below (T18.setTop (mkF m 116 #[.val (.int p0), .val (.int p1), .val (.int p2), .val (.int p3), .val (.int (2 : Int32)), .val (.int lf), .val (.int ln), .val (.int p0), .val (.int p1), .val (.ref dd), .val (.int got), .val (.int e1_), .unset] [(.int e2_)])) _
      refine XS.istore X18.here hx rfl (hb hby at_116) rfl (l' := #[.val (.int p0), .val (.int p1), .val (.int p2), .val (.int p3), .val (.int (2 : Int32)), .val (.int lf), .val (.int ln), .val (.int p0), .val (.int p1), .val (.ref dd), .val (.int got), .val (.int e2_), .unset]) rfl ?_
      show Steps p.tables e below (T18.setTop (mkF m 118 #[.val (.int p0), .val (.int p1), .val (.int p2), .val (.int p3), .val (.int (2 : Int32)), .val (.int lf), .val (.int ln), .val (.int p0), .val (.int p1), .val (.ref dd), .val (.int got), .val (.int e2_), .unset] [])) _
      refine XS.iload X18.here hx rfl (hb hby at_118) rfl ?_
      refine own_via (T18.setTop (mkF m 166 #[.val (.int p0), .val (.int p1), .val (.int p2), .val (.int p3), .val (.int (2 : Int32)), .val (.int lf), .val (.int ln), .val (.int p0), .val (.int p1), .val (.ref dd), .val (.int got), .val (.int (if (0 : Int32) < lf then (if lf = (1 : Int32) then ((e2_ ^^^ (p2 &&& (255 : Int32))) * (1540483477 : Int32)) else (if lf = (2 : Int32) then ((e2_ ^^^ (p2 &&& (65535 : Int32))) * (1540483477 : Int32)) else ((e2_ ^^^ (p2 &&& (16777215 : Int32))) * (1540483477 : Int32)))) else e2_)), ((if (0 : Int32) < lf then (if lf = (1 : Int32) then .val (.int (255 : Int32)) else (if lf = (2 : Int32) then .val (.int (65535 : Int32)) else .val (.int (16777215 : Int32)))) else .unset) : Slot)] [])) (fun k => ?_) ?_
      · by_cases hc120 : (0 : Int32) < lf
        · show Steps p.tables e below (T18.setTop (mkF m 120 #[.val (.int p0), .val (.int p1), .val (.int p2), .val (.int p3), .val (.int (2 : Int32)), .val (.int lf), .val (.int ln), .val (.int p0), .val (.int p1), .val (.ref dd), .val (.int got), .val (.int e2_), .unset] [(.int lf)])) _
          refine XS.ifNo X18.here hx rfl (hb hby at_120) rfl ((if0 _ _).trans (tlt hc120).2.2.2) ?_
          show Steps p.tables e below (T18.setTop (mkF m 123 #[.val (.int p0), .val (.int p1), .val (.int p2), .val (.int p3), .val (.int (2 : Int32)), .val (.int lf), .val (.int ln), .val (.int p0), .val (.int p1), .val (.ref dd), .val (.int got), .val (.int e2_), .unset] [])) _
          refine XS.iload X18.here hx rfl (hb hby at_123) rfl ?_
          show Steps p.tables e below (T18.setTop (mkF m 125 #[.val (.int p0), .val (.int p1), .val (.int p2), .val (.int p3), .val (.int (2 : Int32)), .val (.int lf), .val (.int ln), .val (.int p0), .val (.int p1), .val (.ref dd), .val (.int got), .val (.int e2_), .unset] [(.int lf)])) _
          refine XS.iconst X18.here hx rfl (hb hby at_125) ?_
          by_cases hc126 : lf = (1 : Int32)
          · show Steps p.tables e below (T18.setTop (mkF m 126 #[.val (.int p0), .val (.int p1), .val (.int p2), .val (.int p3), .val (.int (2 : Int32)), .val (.int lf), .val (.int ln), .val (.int p0), .val (.int p1), .val (.ref dd), .val (.int got), .val (.int e2_), .unset] [(.int (1 : Int32)), (.int lf)])) _
            refine XS.icmpNo X18.here hx rfl (hb hby at_126) rfl (teq hc126).2 ?_
            show Steps p.tables e below (T18.setTop (mkF m 129 #[.val (.int p0), .val (.int p1), .val (.int p2), .val (.int p3), .val (.int (2 : Int32)), .val (.int lf), .val (.int ln), .val (.int p0), .val (.int p1), .val (.ref dd), .val (.int got), .val (.int e2_), .unset] [])) _
            refine XS.sipush X18.here hx rfl (hb hby at_129) ?_
            show Steps p.tables e below (T18.setTop (mkF m 132 #[.val (.int p0), .val (.int p1), .val (.int p2), .val (.int p3), .val (.int (2 : Int32)), .val (.int lf), .val (.int ln), .val (.int p0), .val (.int p1), .val (.ref dd), .val (.int got), .val (.int e2_), .unset] [(.int (255 : Int32))])) _
            refine XS.goto X18.here hx rfl (pc0 := 132) (pc' := 148) rfl (hb hby at_132) (by decide) (by decide) ?_
            show Steps p.tables e below (T18.setTop (mkF m 148 #[.val (.int p0), .val (.int p1), .val (.int p2), .val (.int p3), .val (.int (2 : Int32)), .val (.int lf), .val (.int ln), .val (.int p0), .val (.int p1), .val (.ref dd), .val (.int got), .val (.int e2_), .unset] [(.int (255 : Int32))])) _
            refine XS.istore X18.here hx rfl (hb hby at_148) rfl (l' := #[.val (.int p0), .val (.int p1), .val (.int p2), .val (.int p3), .val (.int (2 : Int32)), .val (.int lf), .val (.int ln), .val (.int p0), .val (.int p1), .val (.ref dd), .val (.int got), .val (.int e2_), .val (.int (255 : Int32))]) rfl ?_
            show Steps p.tables e below (T18.setTop (mkF m 150 #[.val (.int p0), .val (.int p1), .val (.int p2), .val (.int p3), .val (.int (2 : Int32)), .val (.int lf), .val (.int ln), .val (.int p0), .val (.int p1), .val (.ref dd), .val (.int got), .val (.int e2_), .val (.int (255 : Int32))] [])) _
            refine XS.iload X18.here hx rfl (hb hby at_150) rfl ?_
            show Steps p.tables e below (T18.setTop (mkF m 152 #[.val (.int p0), .val (.int p1), .val (.int p2), .val (.int p3), .val (.int (2 : Int32)), .val (.int lf), .val (.int ln), .val (.int p0), .val (.int p1), .val (.ref dd), .val (.int got), .val (.int e2_), .val (.int (255 : Int32))] [(.int e2_)])) _
            refine XS.iloadN X18.here hx rfl (hb hby at_152) rfl ?_
            show Steps p.tables e below (T18.setTop (mkF m 153 #[.val (.int p0), .val (.int p1), .val (.int p2), .val (.int p3), .val (.int (2 : Int32)), .val (.int lf), .val (.int ln), .val (.int p0), .val (.int p1), .val (.ref dd), .val (.int got), .val (.int e2_), .val (.int (255 : Int32))] [(.int p2), (.int e2_)])) _
            refine XS.iload X18.here hx rfl (hb hby at_153) rfl ?_
            show Steps p.tables e below (T18.setTop (mkF m 155 #[.val (.int p0), .val (.int p1), .val (.int p2), .val (.int p3), .val (.int (2 : Int32)), .val (.int lf), .val (.int ln), .val (.int p0), .val (.int p1), .val (.ref dd), .val (.int got), .val (.int e2_), .val (.int (255 : Int32))] [(.int (255 : Int32)), (.int p2), (.int e2_)])) _
            refine XS.iand X18.here hx rfl (hb hby at_155) rfl ?_
            show Steps p.tables e below (T18.setTop (mkF m 156 #[.val (.int p0), .val (.int p1), .val (.int p2), .val (.int p3), .val (.int (2 : Int32)), .val (.int lf), .val (.int ln), .val (.int p0), .val (.int p1), .val (.ref dd), .val (.int got), .val (.int e2_), .val (.int (255 : Int32))] [(.int (p2 &&& (255 : Int32))), (.int e2_)])) _
            refine XS.ixor X18.here hx rfl (hb hby at_156) rfl ?_
            show Steps p.tables e below (T18.setTop (mkF m 157 #[.val (.int p0), .val (.int p1), .val (.int p2), .val (.int p3), .val (.int (2 : Int32)), .val (.int lf), .val (.int ln), .val (.int p0), .val (.int p1), .val (.ref dd), .val (.int got), .val (.int e2_), .val (.int (255 : Int32))] [(.int (e2_ ^^^ (p2 &&& (255 : Int32))))])) _
            refine XS.istore X18.here hx rfl (hb hby at_157) rfl (l' := #[.val (.int p0), .val (.int p1), .val (.int p2), .val (.int p3), .val (.int (2 : Int32)), .val (.int lf), .val (.int ln), .val (.int p0), .val (.int p1), .val (.ref dd), .val (.int got), .val (.int (e2_ ^^^ (p2 &&& (255 : Int32)))), .val (.int (255 : Int32))]) rfl ?_
            show Steps p.tables e below (T18.setTop (mkF m 159 #[.val (.int p0), .val (.int p1), .val (.int p2), .val (.int p3), .val (.int (2 : Int32)), .val (.int lf), .val (.int ln), .val (.int p0), .val (.int p1), .val (.ref dd), .val (.int got), .val (.int (e2_ ^^^ (p2 &&& (255 : Int32)))), .val (.int (255 : Int32))] [])) _
            refine XS.iload X18.here hx rfl (hb hby at_159) rfl ?_
            show Steps p.tables e below (T18.setTop (mkF m 161 #[.val (.int p0), .val (.int p1), .val (.int p2), .val (.int p3), .val (.int (2 : Int32)), .val (.int lf), .val (.int ln), .val (.int p0), .val (.int p1), .val (.ref dd), .val (.int got), .val (.int (e2_ ^^^ (p2 &&& (255 : Int32)))), .val (.int (255 : Int32))] [(.int (e2_ ^^^ (p2 &&& (255 : Int32))))])) _
            refine X18.ldcInt hx hown (mvT hZ (hw _ (List.mem_of_getElem? (i := 15) rfl))) (g := (mkF m 161 #[.val (.int p0), .val (.int p1), .val (.int p2), .val (.int p3), .val (.int (2 : Int32)), .val (.int lf), .val (.int ln), .val (.int p0), .val (.int p1), .val (.ref dd), .val (.int got), .val (.int (e2_ ^^^ (p2 &&& (255 : Int32)))), .val (.int (255 : Int32))] [(.int (e2_ ^^^ (p2 &&& (255 : Int32))))])) rfl (hb hby at_161) _ ?_
            show Steps p.tables e below (T18.setTop (mkF m 163 #[.val (.int p0), .val (.int p1), .val (.int p2), .val (.int p3), .val (.int (2 : Int32)), .val (.int lf), .val (.int ln), .val (.int p0), .val (.int p1), .val (.ref dd), .val (.int got), .val (.int (e2_ ^^^ (p2 &&& (255 : Int32)))), .val (.int (255 : Int32))] [(.int (1540483477 : Int32)), (.int (e2_ ^^^ (p2 &&& (255 : Int32))))])) _
            refine XS.imul X18.here hx rfl (hb hby at_163) rfl ?_
            show Steps p.tables e below (T18.setTop (mkF m 164 #[.val (.int p0), .val (.int p1), .val (.int p2), .val (.int p3), .val (.int (2 : Int32)), .val (.int lf), .val (.int ln), .val (.int p0), .val (.int p1), .val (.ref dd), .val (.int got), .val (.int (e2_ ^^^ (p2 &&& (255 : Int32)))), .val (.int (255 : Int32))] [(.int ((e2_ ^^^ (p2 &&& (255 : Int32))) * (1540483477 : Int32)))])) _
            refine XS.istore X18.here hx rfl (hb hby at_164) rfl (l' := #[.val (.int p0), .val (.int p1), .val (.int p2), .val (.int p3), .val (.int (2 : Int32)), .val (.int lf), .val (.int ln), .val (.int p0), .val (.int p1), .val (.ref dd), .val (.int got), .val (.int ((e2_ ^^^ (p2 &&& (255 : Int32))) * (1540483477 : Int32))), .val (.int (255 : Int32))]) rfl ?_
            try simp only [if_pos hc120, if_pos hc126] at k
            exact k
          · show Steps p.tables e below (T18.setTop (mkF m 126 #[.val (.int p0), .val (.int p1), .val (.int p2), .val (.int p3), .val (.int (2 : Int32)), .val (.int lf), .val (.int ln), .val (.int p0), .val (.int p1), .val (.ref dd), .val (.int got), .val (.int e2_), .unset] [(.int (1 : Int32)), (.int lf)])) _
            refine XS.icmpYes X18.here hx rfl (pc0 := 126) (pc' := 135) rfl (hb hby at_126) rfl (feq hc126).2 (by decide) (by decide) ?_
            show Steps p.tables e below (T18.setTop (mkF m 135 #[.val (.int p0), .val (.int p1), .val (.int p2), .val (.int p3), .val (.int (2 : Int32)), .val (.int lf), .val (.int ln), .val (.int p0), .val (.int p1), .val (.ref dd), .val (.int got), .val (.int e2_), .unset] [])) _
            refine XS.iload X18.here hx rfl (hb hby at_135) rfl ?_
            show Steps p.tables e below (T18.setTop (mkF m 137 #[.val (.int p0), .val (.int p1), .val (.int p2), .val (.int p3), .val (.int (2 : Int32)), .val (.int lf), .val (.int ln), .val (.int p0), .val (.int p1), .val (.ref dd), .val (.int got), .val (.int e2_), .unset] [(.int lf)])) _
            refine XS.iconst X18.here hx rfl (hb hby at_137) ?_
            by_cases hc138 : lf = (2 : Int32)
            · show Steps p.tables e below (T18.setTop (mkF m 138 #[.val (.int p0), .val (.int p1), .val (.int p2), .val (.int p3), .val (.int (2 : Int32)), .val (.int lf), .val (.int ln), .val (.int p0), .val (.int p1), .val (.ref dd), .val (.int got), .val (.int e2_), .unset] [(.int (2 : Int32)), (.int lf)])) _
              refine XS.icmpNo X18.here hx rfl (hb hby at_138) rfl (teq hc138).2 ?_
              show Steps p.tables e below (T18.setTop (mkF m 141 #[.val (.int p0), .val (.int p1), .val (.int p2), .val (.int p3), .val (.int (2 : Int32)), .val (.int lf), .val (.int ln), .val (.int p0), .val (.int p1), .val (.ref dd), .val (.int got), .val (.int e2_), .unset] [])) _
              refine X18.ldcInt hx hown (mvT hZ (hw _ (List.mem_of_getElem? (i := 19) rfl))) (g := (mkF m 141 #[.val (.int p0), .val (.int p1), .val (.int p2), .val (.int p3), .val (.int (2 : Int32)), .val (.int lf), .val (.int ln), .val (.int p0), .val (.int p1), .val (.ref dd), .val (.int got), .val (.int e2_), .unset] [])) rfl (hb hby at_141) _ ?_
              show Steps p.tables e below (T18.setTop (mkF m 143 #[.val (.int p0), .val (.int p1), .val (.int p2), .val (.int p3), .val (.int (2 : Int32)), .val (.int lf), .val (.int ln), .val (.int p0), .val (.int p1), .val (.ref dd), .val (.int got), .val (.int e2_), .unset] [(.int (65535 : Int32))])) _
              refine XS.goto X18.here hx rfl (pc0 := 143) (pc' := 148) rfl (hb hby at_143) (by decide) (by decide) ?_
              show Steps p.tables e below (T18.setTop (mkF m 148 #[.val (.int p0), .val (.int p1), .val (.int p2), .val (.int p3), .val (.int (2 : Int32)), .val (.int lf), .val (.int ln), .val (.int p0), .val (.int p1), .val (.ref dd), .val (.int got), .val (.int e2_), .unset] [(.int (65535 : Int32))])) _
              refine XS.istore X18.here hx rfl (hb hby at_148) rfl (l' := #[.val (.int p0), .val (.int p1), .val (.int p2), .val (.int p3), .val (.int (2 : Int32)), .val (.int lf), .val (.int ln), .val (.int p0), .val (.int p1), .val (.ref dd), .val (.int got), .val (.int e2_), .val (.int (65535 : Int32))]) rfl ?_
              show Steps p.tables e below (T18.setTop (mkF m 150 #[.val (.int p0), .val (.int p1), .val (.int p2), .val (.int p3), .val (.int (2 : Int32)), .val (.int lf), .val (.int ln), .val (.int p0), .val (.int p1), .val (.ref dd), .val (.int got), .val (.int e2_), .val (.int (65535 : Int32))] [])) _
              refine XS.iload X18.here hx rfl (hb hby at_150) rfl ?_
              show Steps p.tables e below (T18.setTop (mkF m 152 #[.val (.int p0), .val (.int p1), .val (.int p2), .val (.int p3), .val (.int (2 : Int32)), .val (.int lf), .val (.int ln), .val (.int p0), .val (.int p1), .val (.ref dd), .val (.int got), .val (.int e2_), .val (.int (65535 : Int32))] [(.int e2_)])) _
              refine XS.iloadN X18.here hx rfl (hb hby at_152) rfl ?_
              show Steps p.tables e below (T18.setTop (mkF m 153 #[.val (.int p0), .val (.int p1), .val (.int p2), .val (.int p3), .val (.int (2 : Int32)), .val (.int lf), .val (.int ln), .val (.int p0), .val (.int p1), .val (.ref dd), .val (.int got), .val (.int e2_), .val (.int (65535 : Int32))] [(.int p2), (.int e2_)])) _
              refine XS.iload X18.here hx rfl (hb hby at_153) rfl ?_
              show Steps p.tables e below (T18.setTop (mkF m 155 #[.val (.int p0), .val (.int p1), .val (.int p2), .val (.int p3), .val (.int (2 : Int32)), .val (.int lf), .val (.int ln), .val (.int p0), .val (.int p1), .val (.ref dd), .val (.int got), .val (.int e2_), .val (.int (65535 : Int32))] [(.int (65535 : Int32)), (.int p2), (.int e2_)])) _
              refine XS.iand X18.here hx rfl (hb hby at_155) rfl ?_
              show Steps p.tables e below (T18.setTop (mkF m 156 #[.val (.int p0), .val (.int p1), .val (.int p2), .val (.int p3), .val (.int (2 : Int32)), .val (.int lf), .val (.int ln), .val (.int p0), .val (.int p1), .val (.ref dd), .val (.int got), .val (.int e2_), .val (.int (65535 : Int32))] [(.int (p2 &&& (65535 : Int32))), (.int e2_)])) _
              refine XS.ixor X18.here hx rfl (hb hby at_156) rfl ?_
              show Steps p.tables e below (T18.setTop (mkF m 157 #[.val (.int p0), .val (.int p1), .val (.int p2), .val (.int p3), .val (.int (2 : Int32)), .val (.int lf), .val (.int ln), .val (.int p0), .val (.int p1), .val (.ref dd), .val (.int got), .val (.int e2_), .val (.int (65535 : Int32))] [(.int (e2_ ^^^ (p2 &&& (65535 : Int32))))])) _
              refine XS.istore X18.here hx rfl (hb hby at_157) rfl (l' := #[.val (.int p0), .val (.int p1), .val (.int p2), .val (.int p3), .val (.int (2 : Int32)), .val (.int lf), .val (.int ln), .val (.int p0), .val (.int p1), .val (.ref dd), .val (.int got), .val (.int (e2_ ^^^ (p2 &&& (65535 : Int32)))), .val (.int (65535 : Int32))]) rfl ?_
              show Steps p.tables e below (T18.setTop (mkF m 159 #[.val (.int p0), .val (.int p1), .val (.int p2), .val (.int p3), .val (.int (2 : Int32)), .val (.int lf), .val (.int ln), .val (.int p0), .val (.int p1), .val (.ref dd), .val (.int got), .val (.int (e2_ ^^^ (p2 &&& (65535 : Int32)))), .val (.int (65535 : Int32))] [])) _
              refine XS.iload X18.here hx rfl (hb hby at_159) rfl ?_
              show Steps p.tables e below (T18.setTop (mkF m 161 #[.val (.int p0), .val (.int p1), .val (.int p2), .val (.int p3), .val (.int (2 : Int32)), .val (.int lf), .val (.int ln), .val (.int p0), .val (.int p1), .val (.ref dd), .val (.int got), .val (.int (e2_ ^^^ (p2 &&& (65535 : Int32)))), .val (.int (65535 : Int32))] [(.int (e2_ ^^^ (p2 &&& (65535 : Int32))))])) _
              refine X18.ldcInt hx hown (mvT hZ (hw _ (List.mem_of_getElem? (i := 15) rfl))) (g := (mkF m 161 #[.val (.int p0), .val (.int p1), .val (.int p2), .val (.int p3), .val (.int (2 : Int32)), .val (.int lf), .val (.int ln), .val (.int p0), .val (.int p1), .val (.ref dd), .val (.int got), .val (.int (e2_ ^^^ (p2 &&& (65535 : Int32)))), .val (.int (65535 : Int32))] [(.int (e2_ ^^^ (p2 &&& (65535 : Int32))))])) rfl (hb hby at_161) _ ?_
              show Steps p.tables e below (T18.setTop (mkF m 163 #[.val (.int p0), .val (.int p1), .val (.int p2), .val (.int p3), .val (.int (2 : Int32)), .val (.int lf), .val (.int ln), .val (.int p0), .val (.int p1), .val (.ref dd), .val (.int got), .val (.int (e2_ ^^^ (p2 &&& (65535 : Int32)))), .val (.int (65535 : Int32))] [(.int (1540483477 : Int32)), (.int (e2_ ^^^ (p2 &&& (65535 : Int32))))])) _
              refine XS.imul X18.here hx rfl (hb hby at_163) rfl ?_
              show Steps p.tables e below (T18.setTop (mkF m 164 #[.val (.int p0), .val (.int p1), .val (.int p2), .val (.int p3), .val (.int (2 : Int32)), .val (.int lf), .val (.int ln), .val (.int p0), .val (.int p1), .val (.ref dd), .val (.int got), .val (.int (e2_ ^^^ (p2 &&& (65535 : Int32)))), .val (.int (65535 : Int32))] [(.int ((e2_ ^^^ (p2 &&& (65535 : Int32))) * (1540483477 : Int32)))])) _
              refine XS.istore X18.here hx rfl (hb hby at_164) rfl (l' := #[.val (.int p0), .val (.int p1), .val (.int p2), .val (.int p3), .val (.int (2 : Int32)), .val (.int lf), .val (.int ln), .val (.int p0), .val (.int p1), .val (.ref dd), .val (.int got), .val (.int ((e2_ ^^^ (p2 &&& (65535 : Int32))) * (1540483477 : Int32))), .val (.int (65535 : Int32))]) rfl ?_
              try simp only [if_pos hc120, if_neg hc126, if_pos hc138] at k
              exact k
            · show Steps p.tables e below (T18.setTop (mkF m 138 #[.val (.int p0), .val (.int p1), .val (.int p2), .val (.int p3), .val (.int (2 : Int32)), .val (.int lf), .val (.int ln), .val (.int p0), .val (.int p1), .val (.ref dd), .val (.int got), .val (.int e2_), .unset] [(.int (2 : Int32)), (.int lf)])) _
              refine XS.icmpYes X18.here hx rfl (pc0 := 138) (pc' := 146) rfl (hb hby at_138) rfl (feq hc138).2 (by decide) (by decide) ?_
              show Steps p.tables e below (T18.setTop (mkF m 146 #[.val (.int p0), .val (.int p1), .val (.int p2), .val (.int p3), .val (.int (2 : Int32)), .val (.int lf), .val (.int ln), .val (.int p0), .val (.int p1), .val (.ref dd), .val (.int got), .val (.int e2_), .unset] [])) _
              refine X18.ldcInt hx hown (mvT hZ (hw _ (List.mem_of_getElem? (i := 20) rfl))) (g := (mkF m 146 #[.val (.int p0), .val (.int p1), .val (.int p2), .val (.int p3), .val (.int (2 : Int32)), .val (.int lf), .val (.int ln), .val (.int p0), .val (.int p1), .val (.ref dd), .val (.int got), .val (.int e2_), .unset] [])) rfl (hb hby at_146) _ ?_
              show Steps p.tables e below (T18.setTop (mkF m 148 #[.val (.int p0), .val (.int p1), .val (.int p2), .val (.int p3), .val (.int (2 : Int32)), .val (.int lf), .val (.int ln), .val (.int p0), .val (.int p1), .val (.ref dd), .val (.int got), .val (.int e2_), .unset] [(.int (16777215 : Int32))])) _
              refine XS.istore X18.here hx rfl (hb hby at_148) rfl (l' := #[.val (.int p0), .val (.int p1), .val (.int p2), .val (.int p3), .val (.int (2 : Int32)), .val (.int lf), .val (.int ln), .val (.int p0), .val (.int p1), .val (.ref dd), .val (.int got), .val (.int e2_), .val (.int (16777215 : Int32))]) rfl ?_
              show Steps p.tables e below (T18.setTop (mkF m 150 #[.val (.int p0), .val (.int p1), .val (.int p2), .val (.int p3), .val (.int (2 : Int32)), .val (.int lf), .val (.int ln), .val (.int p0), .val (.int p1), .val (.ref dd), .val (.int got), .val (.int e2_), .val (.int (16777215 : Int32))] [])) _
              refine XS.iload X18.here hx rfl (hb hby at_150) rfl ?_
              show Steps p.tables e below (T18.setTop (mkF m 152 #[.val (.int p0), .val (.int p1), .val (.int p2), .val (.int p3), .val (.int (2 : Int32)), .val (.int lf), .val (.int ln), .val (.int p0), .val (.int p1), .val (.ref dd), .val (.int got), .val (.int e2_), .val (.int (16777215 : Int32))] [(.int e2_)])) _
              refine XS.iloadN X18.here hx rfl (hb hby at_152) rfl ?_
              show Steps p.tables e below (T18.setTop (mkF m 153 #[.val (.int p0), .val (.int p1), .val (.int p2), .val (.int p3), .val (.int (2 : Int32)), .val (.int lf), .val (.int ln), .val (.int p0), .val (.int p1), .val (.ref dd), .val (.int got), .val (.int e2_), .val (.int (16777215 : Int32))] [(.int p2), (.int e2_)])) _
              refine XS.iload X18.here hx rfl (hb hby at_153) rfl ?_
              show Steps p.tables e below (T18.setTop (mkF m 155 #[.val (.int p0), .val (.int p1), .val (.int p2), .val (.int p3), .val (.int (2 : Int32)), .val (.int lf), .val (.int ln), .val (.int p0), .val (.int p1), .val (.ref dd), .val (.int got), .val (.int e2_), .val (.int (16777215 : Int32))] [(.int (16777215 : Int32)), (.int p2), (.int e2_)])) _
              refine XS.iand X18.here hx rfl (hb hby at_155) rfl ?_
              show Steps p.tables e below (T18.setTop (mkF m 156 #[.val (.int p0), .val (.int p1), .val (.int p2), .val (.int p3), .val (.int (2 : Int32)), .val (.int lf), .val (.int ln), .val (.int p0), .val (.int p1), .val (.ref dd), .val (.int got), .val (.int e2_), .val (.int (16777215 : Int32))] [(.int (p2 &&& (16777215 : Int32))), (.int e2_)])) _
              refine XS.ixor X18.here hx rfl (hb hby at_156) rfl ?_
              show Steps p.tables e below (T18.setTop (mkF m 157 #[.val (.int p0), .val (.int p1), .val (.int p2), .val (.int p3), .val (.int (2 : Int32)), .val (.int lf), .val (.int ln), .val (.int p0), .val (.int p1), .val (.ref dd), .val (.int got), .val (.int e2_), .val (.int (16777215 : Int32))] [(.int (e2_ ^^^ (p2 &&& (16777215 : Int32))))])) _
              refine XS.istore X18.here hx rfl (hb hby at_157) rfl (l' := #[.val (.int p0), .val (.int p1), .val (.int p2), .val (.int p3), .val (.int (2 : Int32)), .val (.int lf), .val (.int ln), .val (.int p0), .val (.int p1), .val (.ref dd), .val (.int got), .val (.int (e2_ ^^^ (p2 &&& (16777215 : Int32)))), .val (.int (16777215 : Int32))]) rfl ?_
              show Steps p.tables e below (T18.setTop (mkF m 159 #[.val (.int p0), .val (.int p1), .val (.int p2), .val (.int p3), .val (.int (2 : Int32)), .val (.int lf), .val (.int ln), .val (.int p0), .val (.int p1), .val (.ref dd), .val (.int got), .val (.int (e2_ ^^^ (p2 &&& (16777215 : Int32)))), .val (.int (16777215 : Int32))] [])) _
              refine XS.iload X18.here hx rfl (hb hby at_159) rfl ?_
              show Steps p.tables e below (T18.setTop (mkF m 161 #[.val (.int p0), .val (.int p1), .val (.int p2), .val (.int p3), .val (.int (2 : Int32)), .val (.int lf), .val (.int ln), .val (.int p0), .val (.int p1), .val (.ref dd), .val (.int got), .val (.int (e2_ ^^^ (p2 &&& (16777215 : Int32)))), .val (.int (16777215 : Int32))] [(.int (e2_ ^^^ (p2 &&& (16777215 : Int32))))])) _
              refine X18.ldcInt hx hown (mvT hZ (hw _ (List.mem_of_getElem? (i := 15) rfl))) (g := (mkF m 161 #[.val (.int p0), .val (.int p1), .val (.int p2), .val (.int p3), .val (.int (2 : Int32)), .val (.int lf), .val (.int ln), .val (.int p0), .val (.int p1), .val (.ref dd), .val (.int got), .val (.int (e2_ ^^^ (p2 &&& (16777215 : Int32)))), .val (.int (16777215 : Int32))] [(.int (e2_ ^^^ (p2 &&& (16777215 : Int32))))])) rfl (hb hby at_161) _ ?_
              show Steps p.tables e below (T18.setTop (mkF m 163 #[.val (.int p0), .val (.int p1), .val (.int p2), .val (.int p3), .val (.int (2 : Int32)), .val (.int lf), .val (.int ln), .val (.int p0), .val (.int p1), .val (.ref dd), .val (.int got), .val (.int (e2_ ^^^ (p2 &&& (16777215 : Int32)))), .val (.int (16777215 : Int32))] [(.int (1540483477 : Int32)), (.int (e2_ ^^^ (p2 &&& (16777215 : Int32))))])) _
              refine XS.imul X18.here hx rfl (hb hby at_163) rfl ?_
              show Steps p.tables e below (T18.setTop (mkF m 164 #[.val (.int p0), .val (.int p1), .val (.int p2), .val (.int p3), .val (.int (2 : Int32)), .val (.int lf), .val (.int ln), .val (.int p0), .val (.int p1), .val (.ref dd), .val (.int got), .val (.int (e2_ ^^^ (p2 &&& (16777215 : Int32)))), .val (.int (16777215 : Int32))] [(.int ((e2_ ^^^ (p2 &&& (16777215 : Int32))) * (1540483477 : Int32)))])) _
              refine XS.istore X18.here hx rfl (hb hby at_164) rfl (l' := #[.val (.int p0), .val (.int p1), .val (.int p2), .val (.int p3), .val (.int (2 : Int32)), .val (.int lf), .val (.int ln), .val (.int p0), .val (.int p1), .val (.ref dd), .val (.int got), .val (.int ((e2_ ^^^ (p2 &&& (16777215 : Int32))) * (1540483477 : Int32))), .val (.int (16777215 : Int32))]) rfl ?_
              try simp only [if_pos hc120, if_neg hc126, if_neg hc138] at k
              exact k
        · show Steps p.tables e below (T18.setTop (mkF m 120 #[.val (.int p0), .val (.int p1), .val (.int p2), .val (.int p3), .val (.int (2 : Int32)), .val (.int lf), .val (.int ln), .val (.int p0), .val (.int p1), .val (.ref dd), .val (.int got), .val (.int e2_), .unset] [(.int lf)])) _
          refine XS.ifYes X18.here hx rfl (pc0 := 120) (pc' := 166) rfl (hb hby at_120) rfl ((if0 _ _).trans (flt hc120).2.2.2) (by decide) (by decide) ?_
          try simp only [if_neg hc120] at k
          exact k
      show Steps p.tables e below (T18.setTop (mkF m 166 #[.val (.int p0), .val (.int p1), .val (.int p2), .val (.int p3), .val (.int (2 : Int32)), .val (.int lf), .val (.int ln), .val (.int p0), .val (.int p1), .val (.ref dd), .val (.int got), .val (.int (if (0 : Int32) < lf then (if lf = (1 : Int32) then ((e2_ ^^^ (p2 &&& (255 : Int32))) * (1540483477 : Int32)) else (if lf = (2 : Int32) then ((e2_ ^^^ (p2 &&& (65535 : Int32))) * (1540483477 : Int32)) else ((e2_ ^^^ (p2 &&& (16777215 : Int32))) * (1540483477 : Int32)))) else e2_)), ((if (0 : Int32) < lf then (if lf = (1 : Int32) then .val (.int (255 : Int32)) else (if lf = (2 : Int32) then .val (.int (65535 : Int32)) else .val (.int (16777215 : Int32)))) else .unset) : Slot)] [])) _
      rw [← h_et_]
      show Steps p.tables e below (T18.setTop (mkF m 166 #[.val (.int p0), .val (.int p1), .val (.int p2), .val (.int p3), .val (.int (2 : Int32)), .val (.int lf), .val (.int ln), .val (.int p0), .val (.int p1), .val (.ref dd), .val (.int got), .val (.int et_), ((if (0 : Int32) < lf then (if lf = (1 : Int32) then .val (.int (255 : Int32)) else (if lf = (2 : Int32) then .val (.int (65535 : Int32)) else .val (.int (16777215 : Int32)))) else .unset) : Slot)] [])) _
      refine XS.iload X18.here hx rfl (hb hby at_166) rfl ?_
      show Steps p.tables e below (T18.setTop (mkF m 168 #[.val (.int p0), .val (.int p1), .val (.int p2), .val (.int p3), .val (.int (2 : Int32)), .val (.int lf), .val (.int ln), .val (.int p0), .val (.int p1), .val (.ref dd), .val (.int got), .val (.int et_), ((if (0 : Int32) < lf then (if lf = (1 : Int32) then .val (.int (255 : Int32)) else (if lf = (2 : Int32) then .val (.int (65535 : Int32)) else .val (.int (16777215 : Int32)))) else .unset) : Slot)] [(.int et_)])) _
      refine XS.iload X18.here hx rfl (hb hby at_168) rfl ?_
      show Steps p.tables e below (T18.setTop (mkF m 170 #[.val (.int p0), .val (.int p1), .val (.int p2), .val (.int p3), .val (.int (2 : Int32)), .val (.int lf), .val (.int ln), .val (.int p0), .val (.int p1), .val (.ref dd), .val (.int got), .val (.int et_), ((if (0 : Int32) < lf then (if lf = (1 : Int32) then .val (.int (255 : Int32)) else (if lf = (2 : Int32) then .val (.int (65535 : Int32)) else .val (.int (16777215 : Int32)))) else .unset) : Slot)] [(.int et_), (.int et_)])) _
      refine XS.bipush X18.here hx rfl (hb hby at_170) ?_
      show Steps p.tables e below (T18.setTop (mkF m 172 #[.val (.int p0), .val (.int p1), .val (.int p2), .val (.int p3), .val (.int (2 : Int32)), .val (.int lf), .val (.int ln), .val (.int p0), .val (.int p1), .val (.ref dd), .val (.int got), .val (.int et_), ((if (0 : Int32) < lf then (if lf = (1 : Int32) then .val (.int (255 : Int32)) else (if lf = (2 : Int32) then .val (.int (65535 : Int32)) else .val (.int (16777215 : Int32)))) else .unset) : Slot)] [(.int (13 : Int32)), (.int et_), (.int et_)])) _
      refine XS.iushr X18.here hx rfl (hb hby at_172) rfl ?_
      show Steps p.tables e below (T18.setTop (mkF m 173 #[.val (.int p0), .val (.int p1), .val (.int p2), .val (.int p3), .val (.int (2 : Int32)), .val (.int lf), .val (.int ln), .val (.int p0), .val (.int p1), .val (.ref dd), .val (.int got), .val (.int et_), ((if (0 : Int32) < lf then (if lf = (1 : Int32) then .val (.int (255 : Int32)) else (if lf = (2 : Int32) then .val (.int (65535 : Int32)) else .val (.int (16777215 : Int32)))) else .unset) : Slot)] [(.int ((et_.toUInt32 >>> ((13 : Int32) &&& 31).toUInt32).toInt32)), (.int et_)])) _
      refine XS.ixor X18.here hx rfl (hb hby at_173) rfl ?_
      show Steps p.tables e below (T18.setTop (mkF m 174 #[.val (.int p0), .val (.int p1), .val (.int p2), .val (.int p3), .val (.int (2 : Int32)), .val (.int lf), .val (.int ln), .val (.int p0), .val (.int p1), .val (.ref dd), .val (.int got), .val (.int et_), ((if (0 : Int32) < lf then (if lf = (1 : Int32) then .val (.int (255 : Int32)) else (if lf = (2 : Int32) then .val (.int (65535 : Int32)) else .val (.int (16777215 : Int32)))) else .unset) : Slot)] [(.int (et_ ^^^ ((et_.toUInt32 >>> ((13 : Int32) &&& 31).toUInt32).toInt32)))])) _
      rw [← h_ea_]
      show Steps p.tables e below (T18.setTop (mkF m 174 #[.val (.int p0), .val (.int p1), .val (.int p2), .val (.int p3), .val (.int (2 : Int32)), .val (.int lf), .val (.int ln), .val (.int p0), .val (.int p1), .val (.ref dd), .val (.int got), .val (.int et_), ((if (0 : Int32) < lf then (if lf = (1 : Int32) then .val (.int (255 : Int32)) else (if lf = (2 : Int32) then .val (.int (65535 : Int32)) else .val (.int (16777215 : Int32)))) else .unset) : Slot)] [(.int ea_)])) _
      refine XS.istore X18.here hx rfl (hb hby at_174) rfl (l' := #[.val (.int p0), .val (.int p1), .val (.int p2), .val (.int p3), .val (.int (2 : Int32)), .val (.int lf), .val (.int ln), .val (.int p0), .val (.int p1), .val (.ref dd), .val (.int got), .val (.int ea_), ((if (0 : Int32) < lf then (if lf = (1 : Int32) then .val (.int (255 : Int32)) else (if lf = (2 : Int32) then .val (.int (65535 : Int32)) else .val (.int (16777215 : Int32)))) else .unset) : Slot)]) rfl ?_
      show Steps p.tables e below (T18.setTop (mkF m 176 #[.val (.int p0), .val (.int p1), .val (.int p2), .val (.int p3), .val (.int (2 : Int32)), .val (.int lf), .val (.int ln), .val (.int p0), .val (.int p1), .val (.ref dd), .val (.int got), .val (.int ea_), ((if (0 : Int32) < lf then (if lf = (1 : Int32) then .val (.int (255 : Int32)) else (if lf = (2 : Int32) then .val (.int (65535 : Int32)) else .val (.int (16777215 : Int32)))) else .unset) : Slot)] [])) _
      refine XS.iload X18.here hx rfl (hb hby at_176) rfl ?_
      show Steps p.tables e below (T18.setTop (mkF m 178 #[.val (.int p0), .val (.int p1), .val (.int p2), .val (.int p3), .val (.int (2 : Int32)), .val (.int lf), .val (.int ln), .val (.int p0), .val (.int p1), .val (.ref dd), .val (.int got), .val (.int ea_), ((if (0 : Int32) < lf then (if lf = (1 : Int32) then .val (.int (255 : Int32)) else (if lf = (2 : Int32) then .val (.int (65535 : Int32)) else .val (.int (16777215 : Int32)))) else .unset) : Slot)] [(.int ea_)])) _
      refine X18.ldcInt hx hown (mvT hZ (hw _ (List.mem_of_getElem? (i := 15) rfl))) (g := (mkF m 178 #[.val (.int p0), .val (.int p1), .val (.int p2), .val (.int p3), .val (.int (2 : Int32)), .val (.int lf), .val (.int ln), .val (.int p0), .val (.int p1), .val (.ref dd), .val (.int got), .val (.int ea_), ((if (0 : Int32) < lf then (if lf = (1 : Int32) then .val (.int (255 : Int32)) else (if lf = (2 : Int32) then .val (.int (65535 : Int32)) else .val (.int (16777215 : Int32)))) else .unset) : Slot)] [(.int ea_)])) rfl (hb hby at_178) _ ?_
      show Steps p.tables e below (T18.setTop (mkF m 180 #[.val (.int p0), .val (.int p1), .val (.int p2), .val (.int p3), .val (.int (2 : Int32)), .val (.int lf), .val (.int ln), .val (.int p0), .val (.int p1), .val (.ref dd), .val (.int got), .val (.int ea_), ((if (0 : Int32) < lf then (if lf = (1 : Int32) then .val (.int (255 : Int32)) else (if lf = (2 : Int32) then .val (.int (65535 : Int32)) else .val (.int (16777215 : Int32)))) else .unset) : Slot)] [(.int (1540483477 : Int32)), (.int ea_)])) _
      refine XS.imul X18.here hx rfl (hb hby at_180) rfl ?_
      show Steps p.tables e below (T18.setTop (mkF m 181 #[.val (.int p0), .val (.int p1), .val (.int p2), .val (.int p3), .val (.int (2 : Int32)), .val (.int lf), .val (.int ln), .val (.int p0), .val (.int p1), .val (.ref dd), .val (.int got), .val (.int ea_), ((if (0 : Int32) < lf then (if lf = (1 : Int32) then .val (.int (255 : Int32)) else (if lf = (2 : Int32) then .val (.int (65535 : Int32)) else .val (.int (16777215 : Int32)))) else .unset) : Slot)] [(.int (ea_ * (1540483477 : Int32)))])) _
      rw [← h_eb_]
      show Steps p.tables e below (T18.setTop (mkF m 181 #[.val (.int p0), .val (.int p1), .val (.int p2), .val (.int p3), .val (.int (2 : Int32)), .val (.int lf), .val (.int ln), .val (.int p0), .val (.int p1), .val (.ref dd), .val (.int got), .val (.int ea_), ((if (0 : Int32) < lf then (if lf = (1 : Int32) then .val (.int (255 : Int32)) else (if lf = (2 : Int32) then .val (.int (65535 : Int32)) else .val (.int (16777215 : Int32)))) else .unset) : Slot)] [(.int eb_)])) _
      refine XS.istore X18.here hx rfl (hb hby at_181) rfl (l' := #[.val (.int p0), .val (.int p1), .val (.int p2), .val (.int p3), .val (.int (2 : Int32)), .val (.int lf), .val (.int ln), .val (.int p0), .val (.int p1), .val (.ref dd), .val (.int got), .val (.int eb_), ((if (0 : Int32) < lf then (if lf = (1 : Int32) then .val (.int (255 : Int32)) else (if lf = (2 : Int32) then .val (.int (65535 : Int32)) else .val (.int (16777215 : Int32)))) else .unset) : Slot)]) rfl ?_
      show Steps p.tables e below (T18.setTop (mkF m 183 #[.val (.int p0), .val (.int p1), .val (.int p2), .val (.int p3), .val (.int (2 : Int32)), .val (.int lf), .val (.int ln), .val (.int p0), .val (.int p1), .val (.ref dd), .val (.int got), .val (.int eb_), ((if (0 : Int32) < lf then (if lf = (1 : Int32) then .val (.int (255 : Int32)) else (if lf = (2 : Int32) then .val (.int (65535 : Int32)) else .val (.int (16777215 : Int32)))) else .unset) : Slot)] [])) _
      refine XS.iload X18.here hx rfl (hb hby at_183) rfl ?_
      show Steps p.tables e below (T18.setTop (mkF m 185 #[.val (.int p0), .val (.int p1), .val (.int p2), .val (.int p3), .val (.int (2 : Int32)), .val (.int lf), .val (.int ln), .val (.int p0), .val (.int p1), .val (.ref dd), .val (.int got), .val (.int eb_), ((if (0 : Int32) < lf then (if lf = (1 : Int32) then .val (.int (255 : Int32)) else (if lf = (2 : Int32) then .val (.int (65535 : Int32)) else .val (.int (16777215 : Int32)))) else .unset) : Slot)] [(.int eb_)])) _
      refine XS.iload X18.here hx rfl (hb hby at_185) rfl ?_
      show Steps p.tables e below (T18.setTop (mkF m 187 #[.val (.int p0), .val (.int p1), .val (.int p2), .val (.int p3), .val (.int (2 : Int32)), .val (.int lf), .val (.int ln), .val (.int p0), .val (.int p1), .val (.ref dd), .val (.int got), .val (.int eb_), ((if (0 : Int32) < lf then (if lf = (1 : Int32) then .val (.int (255 : Int32)) else (if lf = (2 : Int32) then .val (.int (65535 : Int32)) else .val (.int (16777215 : Int32)))) else .unset) : Slot)] [(.int eb_), (.int eb_)])) _
      refine XS.bipush X18.here hx rfl (hb hby at_187) ?_
      show Steps p.tables e below (T18.setTop (mkF m 189 #[.val (.int p0), .val (.int p1), .val (.int p2), .val (.int p3), .val (.int (2 : Int32)), .val (.int lf), .val (.int ln), .val (.int p0), .val (.int p1), .val (.ref dd), .val (.int got), .val (.int eb_), ((if (0 : Int32) < lf then (if lf = (1 : Int32) then .val (.int (255 : Int32)) else (if lf = (2 : Int32) then .val (.int (65535 : Int32)) else .val (.int (16777215 : Int32)))) else .unset) : Slot)] [(.int (15 : Int32)), (.int eb_), (.int eb_)])) _
      refine XS.iushr X18.here hx rfl (hb hby at_189) rfl ?_
      show Steps p.tables e below (T18.setTop (mkF m 190 #[.val (.int p0), .val (.int p1), .val (.int p2), .val (.int p3), .val (.int (2 : Int32)), .val (.int lf), .val (.int ln), .val (.int p0), .val (.int p1), .val (.ref dd), .val (.int got), .val (.int eb_), ((if (0 : Int32) < lf then (if lf = (1 : Int32) then .val (.int (255 : Int32)) else (if lf = (2 : Int32) then .val (.int (65535 : Int32)) else .val (.int (16777215 : Int32)))) else .unset) : Slot)] [(.int ((eb_.toUInt32 >>> ((15 : Int32) &&& 31).toUInt32).toInt32)), (.int eb_)])) _
      refine XS.ixor X18.here hx rfl (hb hby at_190) rfl ?_
      show Steps p.tables e below (T18.setTop (mkF m 191 #[.val (.int p0), .val (.int p1), .val (.int p2), .val (.int p3), .val (.int (2 : Int32)), .val (.int lf), .val (.int ln), .val (.int p0), .val (.int p1), .val (.ref dd), .val (.int got), .val (.int eb_), ((if (0 : Int32) < lf then (if lf = (1 : Int32) then .val (.int (255 : Int32)) else (if lf = (2 : Int32) then .val (.int (65535 : Int32)) else .val (.int (16777215 : Int32)))) else .unset) : Slot)] [(.int (eb_ ^^^ ((eb_.toUInt32 >>> ((15 : Int32) &&& 31).toUInt32).toInt32)))])) _
      rw [← h_ec_]
      show Steps p.tables e below (T18.setTop (mkF m 191 #[.val (.int p0), .val (.int p1), .val (.int p2), .val (.int p3), .val (.int (2 : Int32)), .val (.int lf), .val (.int ln), .val (.int p0), .val (.int p1), .val (.ref dd), .val (.int got), .val (.int eb_), ((if (0 : Int32) < lf then (if lf = (1 : Int32) then .val (.int (255 : Int32)) else (if lf = (2 : Int32) then .val (.int (65535 : Int32)) else .val (.int (16777215 : Int32)))) else .unset) : Slot)] [(.int ec_)])) _
      refine XS.istore X18.here hx rfl (hb hby at_191) rfl (l' := #[.val (.int p0), .val (.int p1), .val (.int p2), .val (.int p3), .val (.int (2 : Int32)), .val (.int lf), .val (.int ln), .val (.int p0), .val (.int p1), .val (.ref dd), .val (.int got), .val (.int ec_), ((if (0 : Int32) < lf then (if lf = (1 : Int32) then .val (.int (255 : Int32)) else (if lf = (2 : Int32) then .val (.int (65535 : Int32)) else .val (.int (16777215 : Int32)))) else .unset) : Slot)]) rfl ?_
      show Steps p.tables e below (T18.setTop (mkF m 193 #[.val (.int p0), .val (.int p1), .val (.int p2), .val (.int p3), .val (.int (2 : Int32)), .val (.int lf), .val (.int ln), .val (.int p0), .val (.int p1), .val (.ref dd), .val (.int got), .val (.int ec_), ((if (0 : Int32) < lf then (if lf = (1 : Int32) then .val (.int (255 : Int32)) else (if lf = (2 : Int32) then .val (.int (65535 : Int32)) else .val (.int (16777215 : Int32)))) else .unset) : Slot)] [])) _
      refine XS.iload X18.here hx rfl (hb hby at_193) rfl ?_
      show Steps p.tables e below (T18.setTop (mkF m 195 #[.val (.int p0), .val (.int p1), .val (.int p2), .val (.int p3), .val (.int (2 : Int32)), .val (.int lf), .val (.int ln), .val (.int p0), .val (.int p1), .val (.ref dd), .val (.int got), .val (.int ec_), ((if (0 : Int32) < lf then (if lf = (1 : Int32) then .val (.int (255 : Int32)) else (if lf = (2 : Int32) then .val (.int (65535 : Int32)) else .val (.int (16777215 : Int32)))) else .unset) : Slot)] [(.int got)])) _
      refine XS.iload X18.here hx rfl (hb hby at_195) rfl ?_
      show Steps p.tables e below (T18.setTop (mkF m 197 #[.val (.int p0), .val (.int p1), .val (.int p2), .val (.int p3), .val (.int (2 : Int32)), .val (.int lf), .val (.int ln), .val (.int p0), .val (.int p1), .val (.ref dd), .val (.int got), .val (.int ec_), ((if (0 : Int32) < lf then (if lf = (1 : Int32) then .val (.int (255 : Int32)) else (if lf = (2 : Int32) then .val (.int (65535 : Int32)) else .val (.int (16777215 : Int32)))) else .unset) : Slot)] [(.int ec_), (.int got)])) _
      refine XS.icmpNo X18.here hx rfl (hb hby at_197) rfl (teq (by rw [h_got, h_ec_, h_eb_, h_ea_, h_et_, h_e2_, h_e1_, h_e0_]; exact own_fin2 p0 p1 p2 ln lf Bn : got = ec_)).2 ?_
      show Steps p.tables e below (T18.setTop (mkF m 200 #[.val (.int p0), .val (.int p1), .val (.int p2), .val (.int p3), .val (.int (2 : Int32)), .val (.int lf), .val (.int ln), .val (.int p0), .val (.int p1), .val (.ref dd), .val (.int got), .val (.int ec_), ((if (0 : Int32) < lf then (if lf = (1 : Int32) then .val (.int (255 : Int32)) else (if lf = (2 : Int32) then .val (.int (65535 : Int32)) else .val (.int (16777215 : Int32)))) else .unset) : Slot)] [])) _
      refine XS.iconst X18.here hx rfl (hb hby at_200) ?_
      show Steps p.tables e below (T18.setTop (mkF m 201 #[.val (.int p0), .val (.int p1), .val (.int p2), .val (.int p3), .val (.int (2 : Int32)), .val (.int lf), .val (.int ln), .val (.int p0), .val (.int p1), .val (.ref dd), .val (.int got), .val (.int ec_), ((if (0 : Int32) < lf then (if lf = (1 : Int32) then .val (.int (255 : Int32)) else (if lf = (2 : Int32) then .val (.int (65535 : Int32)) else .val (.int (16777215 : Int32)))) else .unset) : Slot)] [(.int (1 : Int32))])) _
      refine XS.goto X18.here hx rfl (pc0 := 201) (pc' := 205) rfl (hb hby at_201) (by decide) (by decide) ?_
      show Steps p.tables e below (T18.setTop (mkF m 205 #[.val (.int p0), .val (.int p1), .val (.int p2), .val (.int p3), .val (.int (2 : Int32)), .val (.int lf), .val (.int ln), .val (.int p0), .val (.int p1), .val (.ref dd), .val (.int got), .val (.int ec_), ((if (0 : Int32) < lf then (if lf = (1 : Int32) then .val (.int (255 : Int32)) else (if lf = (2 : Int32) then .val (.int (65535 : Int32)) else .val (.int (16777215 : Int32)))) else .unset) : Slot)] [(.int (1 : Int32))])) _
      exact retN X18 hx (t := .boolean) Bd.returns (by simp) (hb hby at_205) hr
    · show Qrm0 Z p0 p1 p2 p3 h0 n0 _ T18.heap _
      rw [eh18]
      exact ⟨rfl, N18⟩
set_option maxRecDepth 65536 in
set_option maxHeartbeats 40000000 in
theorem comes_1 {Post : Tables → Env → Array Value → State → Outcome → State → Prop} (hpost : ∀ tb e args s v u, (limb_1_1.after args s (.returned v) u = true ∧ limb_1_2.after args s (.returned v) u = true ∧ True) → FrameEnd s (.returned v) u (Jvm.fieldLocs frame_1_writes args s ++ Jvm.arrayLocs frame_1_arrays args s ++ Jvm.staticLocs frame_1_statics s) 16 128 → Post tb e args s (.returned v) u) :
    ArmFor flags0 classFile x code maxLocals ret World_1 tables_1 room_1 Calls_1 rest_1 Pre_1 Post := by
  intro l hfl _ _ p e ha hc hk s m args below hf hA hF happ hP
  obtain ⟨hcalls, hrest, hpre⟩ := hP
  obtain ⟨-, -, -, hnamed, -, -, -, hat⟩ := (Spec.applies_iff hf).mp happ
  obtain ⟨hg, hn⟩ := and_e (Cond.before_iff.mp (show (Jvm.Cond.and given_1 narrow_1).before args s = true from hpre))
  obtain ⟨g1, g2⟩ := and_e hg
  obtain ⟨g3, g4⟩ := and_e g2
  obtain ⟨g5, g6⟩ := and_e g4
  obtain ⟨g7, g8⟩ := and_e g6
  obtain ⟨w0, w1, w2, w3, rfl⟩ : ∃ w0 w1 w2 w3 : Value, args = #[w0, w1, w2, w3] := by
    have hs : args.size = 4 := by simpa [Cond.value, given_1] using g1
    obtain ⟨L⟩ := args
    match L, hs with
    | [w0, w1, w2, w3], _ => exact ⟨w0, w1, w2, w3, rfl⟩
  have hw := fun d (hd : d ∈ tables_1) => atoms_spec (ws := Jvm.Cond.code x code maxLocals ret :: tables_1) hat d (List.mem_cons_of_mem _ hd)
  obtain ⟨i0, ei0⟩ := is_v g3
  obtain rfl : w0 = (.int i0) := Option.some.inj ei0
  obtain ⟨i1, ei1⟩ := is_v g5
  obtain rfl : w1 = (.int i1) := Option.some.inj ei1
  obtain ⟨i2, ei2⟩ := is_v g7
  obtain rfl : w2 = (.int i2) := Option.some.inj ei2
  obtain ⟨i3, ei3⟩ := is_v g8
  obtain rfl : w3 = (.int i3) := Option.some.inj ei3
  obtain ⟨n, o, h1, h2, h3, _, L, rfl, ⟨rfl, N⟩, hq⟩ := rm0 l s _ hw tables_1 i0 i1 i2 i3  s.heap s.heap.size (Nat.le_refl _) p e ha hc hk s m _ below hf ((Spec.applies_iff_loose hf).mp happ).1 ⟨rfl, State.Warmed39.refl s, rfl⟩ trivial
  refine ⟨n, _, h1, h2, h3, hpost _ _ _ _ _ _ ⟨Cond.after_iff.mpr rfl, Cond.after_iff.mpr (eq_i res_at (Term.int_eval (1)) rfl), trivial⟩ ⟨hq.1, hq.2.1, (hq.2.2.sift fun y hy => Or.inr (N y hy)).mono (by decide) (by decide)⟩⟩
theorem main_1_1 : Claimed_1_1 := comes_1 fun _ _ _ _ _ _ h hF => ⟨h.1, hF⟩
theorem main_1_2 : Claimed_1_2 := comes_1 fun _ _ _ _ _ _ h hF => ⟨h.2.1, hF⟩
end Jvm.Pilot.@@N@@
namespace Jvm.Pilot.@@N@@
open Jvm Jvm.ClassFile Sem Op Lib Jvm.Free Jvm.Stand Jvm.Pilot.@@N@@.Jvm.D
/-! MADE BY PROGRAM (witnessworld.py) out of the Statement's table words and the real class files: 9 classes; the members and pool entries that the words name. The judged class is class 1, her method 1. -/
namespace start1
open Jvm.ClassFile
def u (s : String) : CpInfo := .utf8 (stringToUtf16 s)
/-- a pool by its gaps: so many unusable entries, then the entry; so many at the end -/
def gap : Nat → List CpInfo → List CpInfo
  | 0, r => r
  | n + 1, r => .unusable :: gap n r
def poolList (es : List (Nat × CpInfo)) (last : Nat) : List CpInfo := es.foldr (fun e r => gap e.1 (e.2 :: r)) (gap last [])
def pool (es : List (Nat × CpInfo)) (last : Nat) : Array CpInfo := ⟨poolList es last⟩
def fileOf (pool : Array CpInfo) (this : Nat) (attrs : Array Attribute := #[]) (ms : Array MethodInfo := #[]) (fl : Nat := 33) (sup : Nat := 0) (ifs : Array Nat := #[]) (fds : Array FieldInfo := #[]) : ClassFile where
  minorVersion := 0
  majorVersion := 65
  constantPool := pool
  accessFlags := fl
  thisClass := this
  superClass := sup
  interfaces := ifs
  fields := fds
  methods := ms
  attributes := attrs
def plain (name : String) (sup : Option ClassId) : Class where
  name := name
  kind := .ordinary
  loader := none
  accessFlags := 33
  super := sup
  interfaces := #[]
  cf := none
  fields := #[]
  methods := #[]
  instanceTypes := #[]
  staticTypes := #[]
  resolved := #[]
  callSites := []
  init := .initialized
  statics := none
  mirror := none

def pool0 : Array CpInfo := pool [(5, u "<init>"), (0, u "()V"), (1, .class_ 10), (1, u "java/lang/Object")] 113

def k0m0 : Method := { name := "<init>", desc := "()V", sig := { parameters := [], returnType := none }, accessFlags := 1, code := none }
/-- java/lang/Object -/
def k0 : Class := { plain "java/lang/Object" none with
  accessFlags := 33
  interfaces := #[]
  cf := some (fileOf pool0 8 #[] #[{ accessFlags := 1, nameIndex := 5, descriptorIndex := 6, attributes := #[] }] 33 0 #[] #[])
  fields := #[]
  methods := #[k0m0]
  instanceTypes := #[]
  staticTypes := #[]
  resolved := Array.replicate 124 none
  statics := none }

def pool1 : Array CpInfo := pool [(2, .class_ 4), (1, u "java/lang/Object"), (0, u "<init>"), (0, u "()V"), (0, .methodref 8 9), (0, .class_ 10), (0, .nameAndType 11 12), (0, u "com/example/parley/parley/client/Murmur2HashPinLaw"), (0, u "put"), (0, u "([BII)V"), (0, .methodref 14 15), (0, .class_ 16), (0, .nameAndType 17 18), (0, u "com/example/parley/parley/client/Murmur2"), (0, u "hash"), (0, u "([B)I"), (0, .integer 2538058380), (0, .methodref 8 21), (0, .nameAndType 22 23), (0, u "block"), (0, u "(II)I"), (0, .integer 65535), (0, .integer 16777215), (0, .integer 1540483477), (0, .methodref 8 28), (0, .nameAndType 29 12), (0, u "set"), (2, u "law"), (0, u "(IIII)Z")] 5

def k1m0 : Method := { name := "<init>", desc := "()V", sig := { parameters := [], returnType := none }, accessFlags := 1, code := none }
def k1c1 : Code := { maxStack := 3, maxLocals := 13, code := code, exceptionTable := #[], attributes := #[] }
def k1m1 : Method := { name := "law", desc := "(IIII)Z", sig := { parameters := [.int, .int, .int, .int], returnType := some .boolean }, accessFlags := 9, code := some k1c1 }
def k1c2 : Code := { maxStack := 3, maxLocals := 3, code := method_3_code, exceptionTable := #[], attributes := #[] }
def k1m2 : Method := { name := "block", desc := "(II)I", sig := { parameters := [.int, .int], returnType := some .int }, accessFlags := 10, code := some k1c2 }
def k1c3 : Code := { maxStack := 4, maxLocals := 3, code := method_4_code, exceptionTable := #[], attributes := #[] }
def k1m3 : Method := { name := "put", desc := "([BII)V", sig := { parameters := [(.array .byte), .int, .int], returnType := none }, accessFlags := 10, code := some k1c3 }
def k1c4 : Code := { maxStack := 3, maxLocals := 3, code := method_5_code, exceptionTable := #[], attributes := #[] }
def k1m4 : Method := { name := "set", desc := "([BII)V", sig := { parameters := [(.array .byte), .int, .int], returnType := none }, accessFlags := 10, code := some k1c4 }
/-- com/example/parley/parley/client/Murmur2HashPinLaw -/
def k1 : Class := { plain "com/example/parley/parley/client/Murmur2HashPinLaw" (some 0) with
  accessFlags := 49
  interfaces := #[]
  cf := some (fileOf pool1 8 #[] #[{ accessFlags := 1, nameIndex := 5, descriptorIndex := 6, attributes := #[] }, { accessFlags := 9, nameIndex := 32, descriptorIndex := 33, attributes := #[] }, { accessFlags := 10, nameIndex := 22, descriptorIndex := 23, attributes := #[] }, { accessFlags := 10, nameIndex := 11, descriptorIndex := 12, attributes := #[] }, { accessFlags := 10, nameIndex := 29, descriptorIndex := 12, attributes := #[] }] 49 2 #[] #[])
  fields := #[]
  methods := #[k1m0, k1m1, k1m2, k1m3, k1m4]
  instanceTypes := #[]
  staticTypes := #[]
  resolved := Array.replicate 39 none
  statics := none }

def pool2 : Array CpInfo := pool [(2, .class_ 4), (1, u "java/lang/Object"), (0, u "<init>"), (0, u "()V"), (0, .class_ 8), (0, u "com/example/parley/parley/client/Murmur2"), (0, .integer 2538058380), (0, .integer 1540483477), (0, u "SEED"), (0, u "I"), (1, u "M"), (0, u "R"), (3, u "hash"), (0, u "([B)I")] 5

def k2m0 : Method := { name := "<init>", desc := "()V", sig := { parameters := [], returnType := none }, accessFlags := 2, code := none }
def k2c1 : Code := { maxStack := 4, maxLocals := 6, code := prog_92_method_2_code, exceptionTable := #[], attributes := #[] }
def k2m1 : Method := { name := "hash", desc := "([B)I", sig := { parameters := [(.array .byte)], returnType := some .int }, accessFlags := 8, code := some k2c1 }
/-- com/example/parley/parley/client/Murmur2 -/
def k2 : Class := { plain "com/example/parley/parley/client/Murmur2" (some 0) with
  accessFlags := 48
  interfaces := #[]
  cf := some (fileOf pool2 7 #[] #[{ accessFlags := 2, nameIndex := 5, descriptorIndex := 6, attributes := #[] }, { accessFlags := 8, nameIndex := 19, descriptorIndex := 20, attributes := #[] }] 48 2 #[] #[{ accessFlags := 26, nameIndex := 11, descriptorIndex := 12, attributes := #[] }, { accessFlags := 26, nameIndex := 14, descriptorIndex := 12, attributes := #[] }, { accessFlags := 26, nameIndex := 15, descriptorIndex := 12, attributes := #[] }])
  fields := #[{ name := "SEED", type := .int, accessFlags := 26, slot := 0, constantValue := 0 }, { name := "M", type := .int, accessFlags := 26, slot := 1, constantValue := 0 }, { name := "R", type := .int, accessFlags := 26, slot := 2, constantValue := 0 }]
  methods := #[k2m0, k2m1]
  instanceTypes := #[]
  staticTypes := #[.int, .int, .int]
  resolved := Array.replicate 26 none
  statics := none }

def pool3 : Array CpInfo := pool [(1, u "java/lang/Cloneable"), (0, .class_ 1), (0, u "java/lang/Object"), (0, .class_ 3)] 3

/-- java/lang/Cloneable -/
def k3 : Class := { plain "java/lang/Cloneable" (some 0) with
  accessFlags := 1537
  interfaces := #[]
  cf := some (fileOf pool3 2 #[] #[] 1537 4 #[] #[])
  fields := #[]
  methods := #[]
  instanceTypes := #[]
  staticTypes := #[]
  resolved := Array.replicate 8 none
  statics := none }

def pool4 : Array CpInfo := pool [(1, u "java/io/Serializable"), (0, .class_ 1), (0, u "java/lang/Object"), (0, .class_ 3)] 3

/-- java/io/Serializable -/
def k4 : Class := { plain "java/io/Serializable" (some 0) with
  accessFlags := 1537
  interfaces := #[]
  cf := some (fileOf pool4 2 #[] #[] 1537 4 #[] #[])
  fields := #[]
  methods := #[]
  instanceTypes := #[]
  staticTypes := #[]
  resolved := Array.replicate 8 none
  statics := none }

/-- the primitive byte -/
def k5 : Class := { plain "byte" none with kind := .primitive 'B', accessFlags := 0x411 }
/-- [B -/
def k6 : Class := { plain "[B" (some 0) with kind := .array 5 .byte, interfaces := #[3, 4], accessFlags := 1041 }

/-- the primitive int -/
def k7 : Class := { plain "int" none with kind := .primitive 'I', accessFlags := 0x411 }
/-- [I -/
def k8 : Class := { plain "[I" (some 0) with kind := .array 7 .int, interfaces := #[3, 4], accessFlags := 1041 }

def heap : Heap := #[]
def classes : Array Class := #[k0, k1, k2, k3, k4, k5, k6, k7, k8]
def interned : List (Array UInt16 × Addr) := []
def slotsUsed : Nat := 0
def theMethod : MethodId := ⟨1, 1⟩
def args0 : Array Value := #[.int 5, .int 5, .int 5, .int 5]
def aboutOver (below : List Frame) : State where
  vm := { classes := classes, interned := interned.toArray }
  heap := heap
  slotsUsed := slotsUsed
  threads := #[{ frames := .invoking theMethod args0 :: below }]
def below0 : List Frame := [.native { method := ⟨0, 0⟩, args := #[] }]
def about1 : State := aboutOver below0
def p0 : Program := .bare "" "" ""
def e0 : Env := launch0.env 0 0 0
theorem w_frames : about1.frames = Frame.invoking theMethod args0 :: below0 := rfl
set_option maxRecDepth 65536 in
theorem w_args : argsFit about1.vm theMethod args0 = true := by decide +kernel
set_option maxRecDepth 65536 in
theorem w_heap : heapFits about1 = true := by decide +kernel
set_option maxRecDepth 65536 in
theorem w_runnable : about1.curStatus? = some .runnable := by decide +kernel
set_option maxRecDepth 65536 in
theorem w_alone : about1.alone = true := by decide +kernel
set_option maxRecDepth 65536 in
theorem w_named : about1.methodNamed? x = some theMethod := by decide +kernel
set_option maxRecDepth 65536 in
theorem w_hears : about1.hears theMethod below0 = true := by decide +kernel
set_option maxRecDepth 65536 in
theorem w_ripe : about1.ripe theMethod args0 below0 = true := by decide +kernel
theorem w_running : about1.status = .running := rfl
set_option maxRecDepth 65536 in
theorem w_room : about1.hasRoom e0.platform room_1 = true :=
  launch0.hasRoom_least _ room_1 (by decide +kernel) (by decide +kernel) (by decide +kernel) (by decide +kernel) (by decide +kernel) (by decide +kernel)
theorem allAtoms_all (ts : List Jvm.Cond) (a : Array Jvm.Value) (st : Jvm.State) : (allAtoms ts).before a st = ts.all (fun c => c.before a st) := by
  induction ts with
  | nil => rfl
  | cons c t ih =>
    show (Jvm.Cond.and c (allAtoms t)).before a st = _
    rw [Jvm.Cond.before_and, ih, List.all_cons]
def words1 : List Jvm.Cond := Jvm.Cond.code x code maxLocals ret :: tables_1
/-- a 'code' word, met by the world's own term for the bytes: nothing is compared byte by byte -/
theorem code_word {y : MethodName} {bytes : ByteArray} {mx : Nat} {rt : Option FieldType} {a : Array Value} {s : State} {m : MethodId} {meth : Method} {c : Code} (h1 : s.methodNamed? y = some m) (h2 : s.vm.method? m = some meth) (h3 : meth.code = some c) (h4 : c.code = bytes)
    (h5 : (c.maxLocals == mx && c.exceptionTable.isEmpty && decide (c.maxStack ≤ mostOperands) && decide (meth.sig.returnType = rt) && !meth.locks && decide (parseMethodDescriptor y.desc = some meth.sig)) = true) : (Jvm.Cond.code y bytes mx rt).before a s = true := by
  simp only [Bool.and_eq_true, beq_iff_eq, Bool.not_eq_true', decide_eq_true_eq] at h5
  obtain ⟨⟨⟨⟨⟨g1, g2⟩, g3⟩, g4⟩, g5⟩, g6⟩ := h5
  simp [Cond.before, Cond.holds, Cond.value, h1, h2, h3, h4, g1, g2, g3, g4, g5, g6]
def isCode : Jvm.Cond → Bool
  | .code _ _ _ _ => true
  | _ => false
theorem all_split {L : List Jvm.Cond} {P : Jvm.Cond → Bool} (h1 : L.all (fun c => isCode c || P c) = true) (h2 : ∀ c ∈ L.filter isCode, P c = true) : L.all P = true := by
  refine List.all_eq_true.mpr fun c hc => ?_
  have h := List.all_eq_true.mp h1 c hc
  rcases Bool.eq_false_or_eq_true (isCode c) with hi | hi
  · exact h2 c (List.mem_filter.mpr ⟨hc, hi⟩)
  · simpa [hi] using h
set_option maxRecDepth 65536 in
theorem w_c0 : (Jvm.Cond.code x code maxLocals ret).before args0 about1 = true := code_word (m := ⟨1, 1⟩) (meth := k1m1) (c := k1c1) (by decide +kernel) rfl rfl rfl (by decide +kernel)
set_option maxRecDepth 65536 in
theorem w_c1 : (Jvm.Cond.code ({ cls := "com/example/parley/parley/client/Murmur2HashPinLaw", name := "put", desc := "([BII)V" } : Jvm.MethodName) method_4_code (3 : Nat) (Option.none : Option Jvm.ClassFile.FieldType)).before args0 about1 = true := code_word (m := ⟨1, 3⟩) (meth := k1m3) (c := k1c3) (by decide +kernel) rfl rfl rfl (by decide +kernel)
set_option maxRecDepth 65536 in
theorem w_c2 : (Jvm.Cond.code ({ cls := "com/example/parley/parley/client/Murmur2HashPinLaw", name := "set", desc := "([BII)V" } : Jvm.MethodName) method_5_code (3 : Nat) (Option.none : Option Jvm.ClassFile.FieldType)).before args0 about1 = true := code_word (m := ⟨1, 4⟩) (meth := k1m4) (c := k1c4) (by decide +kernel) rfl rfl rfl (by decide +kernel)
set_option maxRecDepth 65536 in
theorem w_c3 : (Jvm.Cond.code ({ cls := "com/example/parley/parley/client/Murmur2", name := "hash", desc := "([B)I" } : Jvm.MethodName) prog_92_method_2_code (6 : Nat) (Option.some Jvm.ClassFile.FieldType.int)).before args0 about1 = true := code_word (m := ⟨2, 1⟩) (meth := k2m1) (c := k2c1) (by decide +kernel) rfl rfl rfl (by decide +kernel)
set_option maxRecDepth 65536 in
theorem w_c4 : (Jvm.Cond.code ({ cls := "com/example/parley/parley/client/Murmur2HashPinLaw", name := "block", desc := "(II)I" } : Jvm.MethodName) method_3_code (3 : Nat) (Option.some Jvm.ClassFile.FieldType.int)).before args0 about1 = true := code_word (m := ⟨1, 2⟩) (meth := k1m2) (c := k1c2) (by decide +kernel) rfl rfl rfl (by decide +kernel)
def codes1 : List Jvm.Cond := [Jvm.Cond.code x code maxLocals ret, Jvm.Cond.code ({ cls := "com/example/parley/parley/client/Murmur2HashPinLaw", name := "put", desc := "([BII)V" } : Jvm.MethodName) method_4_code (3 : Nat) (Option.none : Option Jvm.ClassFile.FieldType), Jvm.Cond.code ({ cls := "com/example/parley/parley/client/Murmur2HashPinLaw", name := "set", desc := "([BII)V" } : Jvm.MethodName) method_5_code (3 : Nat) (Option.none : Option Jvm.ClassFile.FieldType), Jvm.Cond.code ({ cls := "com/example/parley/parley/client/Murmur2", name := "hash", desc := "([B)I" } : Jvm.MethodName) prog_92_method_2_code (6 : Nat) (Option.some Jvm.ClassFile.FieldType.int), Jvm.Cond.code ({ cls := "com/example/parley/parley/client/Murmur2HashPinLaw", name := "block", desc := "(II)I" } : Jvm.MethodName) method_3_code (3 : Nat) (Option.some Jvm.ClassFile.FieldType.int)]
set_option maxRecDepth 65536 in
theorem codes_eq : words1.filter isCode = codes1 := rfl
theorem w_codes : ∀ c ∈ words1.filter isCode, c.before args0 about1 = true := by
  rw [codes_eq]
  intro c hc
  simp only [codes1, List.mem_cons, List.not_mem_nil, or_false] at hc
  rcases hc with rfl | rfl | rfl | rfl | rfl
  · exact w_c0
  · exact w_c1
  · exact w_c2
  · exact w_c3
  · exact w_c4
set_option maxRecDepth 65536 in
theorem w_t1 : words1.all (fun c => isCode c || c.before args0 about1) = true := by decide +kernel
theorem w_tables : (allAtoms (Jvm.Cond.code x code maxLocals ret :: tables_1)).before args0 about1 = true := by
  rw [allAtoms_all]
  show words1.all (fun c => c.before args0 about1) = true
  refine all_split ?_ w_codes
  rw [w_t1]
set_option maxRecDepth 65536 in
theorem w_case : (Jvm.Cond.and given_1 narrow_1).before args0 about1 = true := by decide +kernel
theorem w_applies : (headSpec (Jvm.Cond.code x code maxLocals ret :: tables_1) room_1).applies x e0.platform about1 = true :=
  (Spec.applies_iff w_frames).mpr ⟨w_running, w_runnable, w_alone, w_named, w_hears, w_ripe, w_room, w_tables⟩
theorem atStart : AtStart classFile x code maxLocals ret World_1 tables_1 room_1 Calls_1 rest_1 Pre_1 launch0 p0 e0 about1 theMethod args0 below0 :=
  ⟨lists_1, trivial, launch0.admits_env _ _ _, launch0.least_env, fairChoices_fair.cas, fairChoices_fair.clock, w_frames, w_args, w_heap, w_applies, trivial, trivial, w_case⟩
end start1
theorem witness_1 : WitnessClaimed_1 := ⟨start1.p0, start1.e0, start1.about1, start1.theMethod, start1.args0, start1.below0, start1.atStart⟩
end Jvm.Pilot.@@N@@
