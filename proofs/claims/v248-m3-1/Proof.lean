import JvmDerived
import JvmDerived.Pilot.@@N@@Statement
import JvmDerived.Pilot.@@N@@Code
set_option linter.unusedVariables false
set_option linter.unusedSimpArgs false
namespace Jvm.RoadKit
open Sem ClassFile Op Lib Jvm.Stand Jvm.Free Jvm.LawKit
section New
variable {p : Program} {l : Launch} {e : Env} {R : Room} {s : State} {m : MethodId} {args : Array Value} {below : List Frame} {meth : Method} {c : Code} {T : State} {locs : List Loc} {cells slots : Nat}
theorem retI (X : Stand p l e R s m args below meth c T locs cells slots) (hx : p.tables.exec = Jvm.exec) {pc : Nat} {Ls : Array Slot} {z : Int32} {rest : List Value} (hret : meth.sig.returnType = some .int) (hd : decode c.code pc = .ok (.ireturn, 1)) {fs : List Frame}
    (hl : ∀ (f : JFrame) (acts : List Action), f.method = m → f.locked = none → f.entered = [] → (doReturn e (T.setTop f) acts (some (.int z))).1 = T.setFrames fs) : Steps p.tables e below (T.setTop (mkF m pc Ls (.int z :: rest))) (T.setFrames fs) := by
  have hm' : T.vm.method? m = some meth := X.method'
  have hn : narrow .int (.int z) = .int z := rfl
  show Steps p.tables e below (T.setTop { method := m, pc := pc, locals := Ls, stack := _ :: rest, locked := none }) _
  jvm_step X.here [X.here.top, hx, hd, hm', hret, hn]
  first | (intro acts; rw [hl _ acts rfl rfl rfl]) | rw [hl _ _ rfl rfl rfl]
  exact Steps.refl _
theorem own_lrem {target : State} (X : Stand p l e R s m args below meth c T locs cells slots) (hx : p.tables.exec = Jvm.exec) {g : JFrame} (hg : g.method = m) {x y : Int64} {rest : List Value} (hd : decode c.code g.pc = .ok (.lrem, 1)) (hs : g.stack = .long y :: .long x :: rest) (hy : y ≠ 0)
    (hr : Steps p.tables e below (T.setTop { g with pc := g.pc + 1, stack := .long (x % y) :: rest }) target) : Steps p.tables e below (T.setTop g) target :=
  XS.lrem X.here hx hg hd hs hy (by rw [lrem_mod]; exact hr)
theorem own_retJ (Y : Stand p l e R s m args below meth c T locs cells slots) (hexec : p.tables.exec = Jvm.exec) {pc : Nat} {Ls : Array Slot} {w : Int64} (hret : meth.sig.returnType = some .long)
    (hdg : decode c.code pc = .ok (.lreturn, 1)) {fs : List Frame} (hleave : ∀ (f : JFrame) (acts : List Action), f.method = m → f.locked = none → f.entered = [] → (doReturn e (T.setTop f) acts (some (.long w))).1 = T.setFrames fs) :
    Steps p.tables e below (T.setTop (mkF m pc Ls [.long w])) (T.setFrames fs) := Y.lreturnOut hexec hret hdg hleave
theorem own_retR (X : Stand p l e R s m args below meth c T locs cells slots) (hx : p.tables.exec = Jvm.exec) {pc : Nat} {Ls : Array Slot} {w : Value} {t : FieldType} {rest : List Value} (hret : meth.sig.returnType = some t) (hn : narrow t w = w) (ht : t.isReference = true) (hw : w.isRef = true)
    (hd : decode c.code pc = .ok (.areturn, 1)) {fs : List Frame} (hl : ∀ (f : JFrame) (acts : List Action), f.method = m → f.locked = none → f.entered = [] → (doReturn e (T.setTop f) acts (some w)).1 = T.setFrames fs) :
    Steps p.tables e below (T.setTop (mkF m pc Ls (w :: rest))) (T.setFrames fs) := retOut X hx hret hn (Or.inr (Or.inr (Or.inr (Or.inr ⟨rfl, ht, hw⟩)))) hd hl
theorem own_via {tb : Tables} {s0 target : State} (s' : State) (h : Steps tb e below s' target → Steps tb e below s0 target) (k : Steps tb e below s' target) : Steps tb e below s0 target := h k
end New
end Jvm.RoadKit
namespace Jvm.Pilot.@@N@@
open Jvm Jvm.ClassFile Sem Op Lib Jvm.Free Jvm.Stand Jvm.LawKit Jvm.RoadKit Bundle Jvm.Pilot.@@N@@.Jvm.D
theorem d1_0 : decode method_2_code 0 = .ok (.iload_n 3, 1) := by decide +kernel
theorem d1_1 : decode method_2_code 1 = .ok (.iconst 2, 1) := by decide +kernel
theorem d1_2 : decode method_2_code 2 = .ok (.iload_n 2, 1) := by decide +kernel
theorem d1_3 : decode method_2_code 3 = .ok (.imul, 1) := by decide +kernel
theorem d1_4 : decode method_2_code 4 = .ok (.iushr, 1) := by decide +kernel
theorem d1_5 : decode method_2_code 5 = .ok (.iconst 3, 1) := by decide +kernel
theorem d1_6 : decode method_2_code 6 = .ok (.iand, 1) := by decide +kernel
theorem d1_7 : decode method_2_code 7 = .ok (.istore 5, 2) := by decide +kernel
theorem d1_9 : decode method_2_code 9 = .ok (.iload 5, 2) := by decide +kernel
theorem d1_11 : decode method_2_code 11 = .ok (.ifCond .ne 5, 3) := by decide +kernel
theorem d1_14 : decode method_2_code 14 = .ok (.lload_n 0, 1) := by decide +kernel
theorem d1_15 : decode method_2_code 15 = .ok (.lreturn, 1) := by decide +kernel
theorem d1_16 : decode method_2_code 16 = .ok (.iload 5, 2) := by decide +kernel
theorem d1_18 : decode method_2_code 18 = .ok (.iconst 1, 1) := by decide +kernel
theorem d1_19 : decode method_2_code 19 = .ok (.if_icmp .ne 10, 3) := by decide +kernel
theorem d1_22 : decode method_2_code 22 = .ok (.iload 4, 2) := by decide +kernel
theorem d1_24 : decode method_2_code 24 = .ok (.istore 6, 2) := by decide +kernel
theorem d1_26 : decode method_2_code 26 = .ok (.goto 26, 3) := by decide +kernel
theorem d1_29 : decode method_2_code 29 = .ok (.iload 5, 2) := by decide +kernel
theorem d1_31 : decode method_2_code 31 = .ok (.iconst 2, 1) := by decide +kernel
theorem d1_32 : decode method_2_code 32 = .ok (.if_icmp .ne 14, 3) := by decide +kernel
theorem d1_35 : decode method_2_code 35 = .ok (.iload 4, 2) := by decide +kernel
theorem d1_37 : decode method_2_code 37 = .ok (.sipush 128, 3) := by decide +kernel
theorem d1_40 : decode method_2_code 40 = .ok (.ixor, 1) := by decide +kernel
theorem d1_41 : decode method_2_code 41 = .ok (.istore 6, 2) := by decide +kernel
theorem d1_43 : decode method_2_code 43 = .ok (.goto 9, 3) := by decide +kernel
theorem d1_46 : decode method_2_code 46 = .ok (.iload 4, 2) := by decide +kernel
theorem d1_48 : decode method_2_code 48 = .ok (.iconst 1, 1) := by decide +kernel
theorem d1_49 : decode method_2_code 49 = .ok (.ixor, 1) := by decide +kernel
theorem d1_50 : decode method_2_code 50 = .ok (.istore 6, 2) := by decide +kernel
theorem d1_52 : decode method_2_code 52 = .ok (.bipush 8, 2) := by decide +kernel
theorem d1_54 : decode method_2_code 54 = .ok (.iload_n 2, 1) := by decide +kernel
theorem d1_55 : decode method_2_code 55 = .ok (.imul, 1) := by decide +kernel
theorem d1_56 : decode method_2_code 56 = .ok (.istore 7, 2) := by decide +kernel
theorem d1_58 : decode method_2_code 58 = .ok (.lload_n 0, 1) := by decide +kernel
theorem d1_59 : decode method_2_code 59 = .ok (.ldc2_w 7, 3) := by decide +kernel
theorem d1_62 : decode method_2_code 62 = .ok (.iload 7, 2) := by decide +kernel
theorem d1_64 : decode method_2_code 64 = .ok (.lshl, 1) := by decide +kernel
theorem d1_65 : decode method_2_code 65 = .ok (.ldc2_w 9, 3) := by decide +kernel
theorem d1_68 : decode method_2_code 68 = .ok (.lxor, 1) := by decide +kernel
theorem d1_69 : decode method_2_code 69 = .ok (.land, 1) := by decide +kernel
theorem d1_70 : decode method_2_code 70 = .ok (.lstore 8, 2) := by decide +kernel
theorem d1_72 : decode method_2_code 72 = .ok (.lload 8, 2) := by decide +kernel
theorem d1_74 : decode method_2_code 74 = .ok (.iload 6, 2) := by decide +kernel
theorem d1_76 : decode method_2_code 76 = .ok (.i2l, 1) := by decide +kernel
theorem d1_77 : decode method_2_code 77 = .ok (.iload 7, 2) := by decide +kernel
theorem d1_79 : decode method_2_code 79 = .ok (.lshl, 1) := by decide +kernel
theorem d1_80 : decode method_2_code 80 = .ok (.lor, 1) := by decide +kernel
theorem d1_81 : decode method_2_code 81 = .ok (.lreturn, 1) := by decide +kernel
theorem pn_1 : plainName "com/example/epitome/epitome/csv/PackedBytesEqualPinLaw" = true := by first | (simp [plainName, overriddenIn]; done) | decide +kernel
theorem ef_rm1 (m : MethodId) (q0 : Int64) (p1 : Int32) (p2 : Int32) (p3 : Int32) : entryFrame m #[(.long q0), (.int p1), (.int p2), (.int p3)] 10 = mkF m 0 #[.val (.long q0), .second, .val (.int p1), .val (.int p2), .val (.int p3), .unset, .unset, .unset, .unset, .unset] [] := by first | (simp [entryFrame, mkF, argsToLocals, Value.category]; done) | rfl
def Qrm1 (Z : State) (q0 : Int64) (p1 : Int32) (p2 : Int32) (p3 : Int32) (h0 : Heap) (n0 : Nat) (v : Option Value) (h : Heap) (L : List Loc) : Prop := v = some (.long (if (((p2.toUInt32 >>> (((2 : Int32) * p1) &&& 31).toUInt32).toInt32) &&& (3 : Int32)) = (0 : Int32) then q0 else (if (((p2.toUInt32 >>> (((2 : Int32) * p1) &&& 31).toUInt32).toInt32) &&& (3 : Int32)) = (1 : Int32) then ((q0 &&& (((255 : Int64) <<< (((8 : Int32) * p1) &&& 0x3f).toInt64) ^^^ (-1 : Int64))) ||| ((p3.toInt64) <<< (((8 : Int32) * p1) &&& 0x3f).toInt64)) else (if (((p2.toUInt32 >>> (((2 : Int32) * p1) &&& 31).toUInt32).toInt32) &&& (3 : Int32)) = (2 : Int32) then ((q0 &&& (((255 : Int64) <<< (((8 : Int32) * p1) &&& 0x3f).toInt64) ^^^ (-1 : Int64))) ||| (((p3 ^^^ (128 : Int32)).toInt64) <<< (((8 : Int32) * p1) &&& 0x3f).toInt64)) else ((q0 &&& (((255 : Int64) <<< (((8 : Int32) * p1) &&& 0x3f).toInt64) ^^^ (-1 : Int64))) ||| (((p3 ^^^ (1 : Int32)).toInt64) <<< (((8 : Int32) * p1) &&& 0x3f).toInt64)))))) ∧ Fr n0 L ∧ h = h0
set_option maxRecDepth 65536 in
set_option maxHeartbeats 40000000 in
theorem rm1 (l : Launch) (Z : State) (A0 : Array Value) (hw : ∀ d ∈ tables_1, d.before A0 Z = true) (ws : List Jvm.Cond) (q0 : Int64) (p1 : Int32) (p2 : Int32) (p3 : Int32) (h0 : Heap) (n0 : Nat) (Z0 : n0 ≤ h0.size) :
    MetFree l (⟨"com/example/epitome/epitome/csv/PackedBytesEqualPinLaw", "put", "(JIII)J"⟩ : MethodName) (head1 (Jvm.Cond.code (⟨"com/example/epitome/epitome/csv/PackedBytesEqualPinLaw", "put", "(JIII)J"⟩ : MethodName) method_2_code 10 (some .long) :: ws) ({ frames := 0, cells := 0, slots := 0, locals := 0 } : Room)) (fun a U => a = #[(.long q0), (.int p1), (.int p2), (.int p3)] ∧ Z.Warmed39 U.vm ∧ U.heap = h0) (fun _ _ _ _ _ => True) (fun _ U o U' => ∃ v L, o = .returned v ∧ Qrm1 Z q0 p1 p2 p3 h0 n0 v U'.heap L ∧ FrameEnd U o U' L ({ frames := 0, cells := 0, slots := 0, locals := 0 } : Room).cells ({ frames := 0, cells := 0, slots := 0, locals := 0 } : Room).slots) := by
  refine MetFree.of_bodySF (plainFor_of_name pn_1) hisR ?_
  intro p e s m args below meth c s₁ Bd hml0 hP hK
  obtain ⟨rfl, hZ, hh⟩ := hP
  have hx := Bd.exec
  have hby := Bd.bytes
  have hml : c.maxLocals = 10 := hml0
  have hown : s.vm.findClass "com/example/epitome/epitome/csv/PackedBytesEqualPinLaw" = some m.cls := findClass_of_methodNamed Bd.named
  have hnm := (name_of_methodNamed Bd.named Bd.method).1
  have X0 : Stand p l e ({ frames := 0, cells := 0, slots := 0, locals := 0 } : Room) s m #[(.long q0), (.int p1), (.int p2), (.int p3)] below meth c s₁ [] 0 0 := Stand.of_body Bd
  have e0 : s₁.heap = h0 := by rw [← hh, Bd.state]; rfl
  have N0 := Fr.nil n0
  have K0 : Keep h0 h0 [] := Keep.refl _ _
  have pre0 : ∀ t, Steps p.tables e below (s₁.setTop (mkF m 0 #[.val (.long q0), .second, .val (.int p1), .val (.int p2), .val (.int p3), .unset, .unset, .unset, .unset, .unset] [])) t → Steps p.tables e below (s₁.setTop (entryFrame m #[(.long q0), (.int p1), (.int p2), (.int p3)] 10)) t := fun t k => castTop (ef_rm1 m q0 p1 p2 p3) k
  obtain ⟨fs, hr, hrun, hended, hW, hsame⟩ := X0.leave (v := some (.long (if (((p2.toUInt32 >>> (((2 : Int32) * p1) &&& 31).toUInt32).toInt32) &&& (3 : Int32)) = (0 : Int32) then q0 else (if (((p2.toUInt32 >>> (((2 : Int32) * p1) &&& 31).toUInt32).toInt32) &&& (3 : Int32)) = (1 : Int32) then ((q0 &&& (((255 : Int64) <<< (((8 : Int32) * p1) &&& 0x3f).toInt64) ^^^ (-1 : Int64))) ||| ((p3.toInt64) <<< (((8 : Int32) * p1) &&& 0x3f).toInt64)) else (if (((p2.toUInt32 >>> (((2 : Int32) * p1) &&& 31).toUInt32).toInt32) &&& (3 : Int32)) = (2 : Int32) then ((q0 &&& (((255 : Int64) <<< (((8 : Int32) * p1) &&& 0x3f).toInt64) ^^^ (-1 : Int64))) ||| (((p3 ^^^ (128 : Int32)).toInt64) <<< (((8 : Int32) * p1) &&& 0x3f).toInt64)) else ((q0 &&& (((255 : Int64) <<< (((8 : Int32) * p1) &&& 0x3f).toInt64) ^^^ (-1 : Int64))) ||| (((p3 ^^^ (1 : Int32)).toInt64) <<< (((8 : Int32) * p1) &&& 0x3f).toInt64))))))) (fun h => by rw [Bd.returns] at h; cases h)
  refine ⟨_, _, pre0 _ ?_, hrun, hended, _, _, rfl, ?_, ⟨_, rfl⟩, hW, hsame.mono (by decide) (by decide)⟩
  · show Steps p.tables e below (s₁.setTop (mkF m 0 #[.val (.long q0), .second, .val (.int p1), .val (.int p2), .val (.int p3), .unset, .unset, .unset, .unset, .unset] [])) _
    refine XS.iloadN X0.here hx rfl (hb hby d1_0) rfl ?_
    show Steps p.tables e below (s₁.setTop (mkF m 1 #[.val (.long q0), .second, .val (.int p1), .val (.int p2), .val (.int p3), .unset, .unset, .unset, .unset, .unset] [(.int p2)])) _
    refine XS.iconst X0.here hx rfl (hb hby d1_1) ?_
    show Steps p.tables e below (s₁.setTop (mkF m 2 #[.val (.long q0), .second, .val (.int p1), .val (.int p2), .val (.int p3), .unset, .unset, .unset, .unset, .unset] [(.int (2 : Int32)), (.int p2)])) _
    refine XS.iloadN X0.here hx rfl (hb hby d1_2) rfl ?_
    show Steps p.tables e below (s₁.setTop (mkF m 3 #[.val (.long q0), .second, .val (.int p1), .val (.int p2), .val (.int p3), .unset, .unset, .unset, .unset, .unset] [(.int p1), (.int (2 : Int32)), (.int p2)])) _
    refine XS.imul X0.here hx rfl (hb hby d1_3) rfl ?_
    show Steps p.tables e below (s₁.setTop (mkF m 4 #[.val (.long q0), .second, .val (.int p1), .val (.int p2), .val (.int p3), .unset, .unset, .unset, .unset, .unset] [(.int ((2 : Int32) * p1)), (.int p2)])) _
    refine XS.iushr X0.here hx rfl (hb hby d1_4) rfl ?_
    show Steps p.tables e below (s₁.setTop (mkF m 5 #[.val (.long q0), .second, .val (.int p1), .val (.int p2), .val (.int p3), .unset, .unset, .unset, .unset, .unset] [(.int ((p2.toUInt32 >>> (((2 : Int32) * p1) &&& 31).toUInt32).toInt32))])) _
    refine XS.iconst X0.here hx rfl (hb hby d1_5) ?_
    show Steps p.tables e below (s₁.setTop (mkF m 6 #[.val (.long q0), .second, .val (.int p1), .val (.int p2), .val (.int p3), .unset, .unset, .unset, .unset, .unset] [(.int (3 : Int32)), (.int ((p2.toUInt32 >>> (((2 : Int32) * p1) &&& 31).toUInt32).toInt32))])) _
    refine XS.iand X0.here hx rfl (hb hby d1_6) rfl ?_
    show Steps p.tables e below (s₁.setTop (mkF m 7 #[.val (.long q0), .second, .val (.int p1), .val (.int p2), .val (.int p3), .unset, .unset, .unset, .unset, .unset] [(.int (((p2.toUInt32 >>> (((2 : Int32) * p1) &&& 31).toUInt32).toInt32) &&& (3 : Int32)))])) _
    refine XS.istore X0.here hx rfl (hb hby d1_7) rfl (l' := #[.val (.long q0), .second, .val (.int p1), .val (.int p2), .val (.int p3), .val (.int (((p2.toUInt32 >>> (((2 : Int32) * p1) &&& 31).toUInt32).toInt32) &&& (3 : Int32))), .unset, .unset, .unset, .unset]) rfl ?_
    show Steps p.tables e below (s₁.setTop (mkF m 9 #[.val (.long q0), .second, .val (.int p1), .val (.int p2), .val (.int p3), .val (.int (((p2.toUInt32 >>> (((2 : Int32) * p1) &&& 31).toUInt32).toInt32) &&& (3 : Int32))), .unset, .unset, .unset, .unset] [])) _
    refine XS.iload X0.here hx rfl (hb hby d1_9) rfl ?_
    by_cases hc11 : (((p2.toUInt32 >>> (((2 : Int32) * p1) &&& 31).toUInt32).toInt32) &&& (3 : Int32)) = (0 : Int32)
    · show Steps p.tables e below (s₁.setTop (mkF m 11 #[.val (.long q0), .second, .val (.int p1), .val (.int p2), .val (.int p3), .val (.int (((p2.toUInt32 >>> (((2 : Int32) * p1) &&& 31).toUInt32).toInt32) &&& (3 : Int32))), .unset, .unset, .unset, .unset] [(.int (((p2.toUInt32 >>> (((2 : Int32) * p1) &&& 31).toUInt32).toInt32) &&& (3 : Int32)))])) _
      refine XS.ifNo X0.here hx rfl (hb hby d1_11) rfl ((if0 _ _).trans (teq hc11).2) ?_
      show Steps p.tables e below (s₁.setTop (mkF m 14 #[.val (.long q0), .second, .val (.int p1), .val (.int p2), .val (.int p3), .val (.int (((p2.toUInt32 >>> (((2 : Int32) * p1) &&& 31).toUInt32).toInt32) &&& (3 : Int32))), .unset, .unset, .unset, .unset] [])) _
      refine XS.lloadN X0.here hx rfl (hb hby d1_14) rfl ?_
      show Steps p.tables e below (s₁.setTop (mkF m 15 #[.val (.long q0), .second, .val (.int p1), .val (.int p2), .val (.int p3), .val (.int (((p2.toUInt32 >>> (((2 : Int32) * p1) &&& 31).toUInt32).toInt32) &&& (3 : Int32))), .unset, .unset, .unset, .unset] [(.long q0)])) _
      simp only [if_pos hc11] at hr
      exact own_retJ X0 hx Bd.returns (hb hby d1_15) hr
    · show Steps p.tables e below (s₁.setTop (mkF m 11 #[.val (.long q0), .second, .val (.int p1), .val (.int p2), .val (.int p3), .val (.int (((p2.toUInt32 >>> (((2 : Int32) * p1) &&& 31).toUInt32).toInt32) &&& (3 : Int32))), .unset, .unset, .unset, .unset] [(.int (((p2.toUInt32 >>> (((2 : Int32) * p1) &&& 31).toUInt32).toInt32) &&& (3 : Int32)))])) _
      refine XS.ifYes X0.here hx rfl (pc0 := 11) (pc' := 16) rfl (hb hby d1_11) rfl ((if0 _ _).trans (feq hc11).2) (by decide) (by decide) ?_
      show Steps p.tables e below (s₁.setTop (mkF m 16 #[.val (.long q0), .second, .val (.int p1), .val (.int p2), .val (.int p3), .val (.int (((p2.toUInt32 >>> (((2 : Int32) * p1) &&& 31).toUInt32).toInt32) &&& (3 : Int32))), .unset, .unset, .unset, .unset] [])) _
      refine XS.iload X0.here hx rfl (hb hby d1_16) rfl ?_
      show Steps p.tables e below (s₁.setTop (mkF m 18 #[.val (.long q0), .second, .val (.int p1), .val (.int p2), .val (.int p3), .val (.int (((p2.toUInt32 >>> (((2 : Int32) * p1) &&& 31).toUInt32).toInt32) &&& (3 : Int32))), .unset, .unset, .unset, .unset] [(.int (((p2.toUInt32 >>> (((2 : Int32) * p1) &&& 31).toUInt32).toInt32) &&& (3 : Int32)))])) _
      refine XS.iconst X0.here hx rfl (hb hby d1_18) ?_
      by_cases hc19 : (((p2.toUInt32 >>> (((2 : Int32) * p1) &&& 31).toUInt32).toInt32) &&& (3 : Int32)) = (1 : Int32)
      · show Steps p.tables e below (s₁.setTop (mkF m 19 #[.val (.long q0), .second, .val (.int p1), .val (.int p2), .val (.int p3), .val (.int (((p2.toUInt32 >>> (((2 : Int32) * p1) &&& 31).toUInt32).toInt32) &&& (3 : Int32))), .unset, .unset, .unset, .unset] [(.int (1 : Int32)), (.int (((p2.toUInt32 >>> (((2 : Int32) * p1) &&& 31).toUInt32).toInt32) &&& (3 : Int32)))])) _
        refine XS.icmpNo X0.here hx rfl (hb hby d1_19) rfl (teq hc19).2 ?_
        show Steps p.tables e below (s₁.setTop (mkF m 22 #[.val (.long q0), .second, .val (.int p1), .val (.int p2), .val (.int p3), .val (.int (((p2.toUInt32 >>> (((2 : Int32) * p1) &&& 31).toUInt32).toInt32) &&& (3 : Int32))), .unset, .unset, .unset, .unset] [])) _
        refine XS.iload X0.here hx rfl (hb hby d1_22) rfl ?_
        show Steps p.tables e below (s₁.setTop (mkF m 24 #[.val (.long q0), .second, .val (.int p1), .val (.int p2), .val (.int p3), .val (.int (((p2.toUInt32 >>> (((2 : Int32) * p1) &&& 31).toUInt32).toInt32) &&& (3 : Int32))), .unset, .unset, .unset, .unset] [(.int p3)])) _
        refine XS.istore X0.here hx rfl (hb hby d1_24) rfl (l' := #[.val (.long q0), .second, .val (.int p1), .val (.int p2), .val (.int p3), .val (.int (((p2.toUInt32 >>> (((2 : Int32) * p1) &&& 31).toUInt32).toInt32) &&& (3 : Int32))), .val (.int p3), .unset, .unset, .unset]) rfl ?_
        show Steps p.tables e below (s₁.setTop (mkF m 26 #[.val (.long q0), .second, .val (.int p1), .val (.int p2), .val (.int p3), .val (.int (((p2.toUInt32 >>> (((2 : Int32) * p1) &&& 31).toUInt32).toInt32) &&& (3 : Int32))), .val (.int p3), .unset, .unset, .unset] [])) _
        refine XS.goto X0.here hx rfl (pc0 := 26) (pc' := 52) rfl (hb hby d1_26) (by decide) (by decide) ?_
        show Steps p.tables e below (s₁.setTop (mkF m 52 #[.val (.long q0), .second, .val (.int p1), .val (.int p2), .val (.int p3), .val (.int (((p2.toUInt32 >>> (((2 : Int32) * p1) &&& 31).toUInt32).toInt32) &&& (3 : Int32))), .val (.int p3), .unset, .unset, .unset] [])) _
        refine XS.bipush X0.here hx rfl (hb hby d1_52) ?_
        show Steps p.tables e below (s₁.setTop (mkF m 54 #[.val (.long q0), .second, .val (.int p1), .val (.int p2), .val (.int p3), .val (.int (((p2.toUInt32 >>> (((2 : Int32) * p1) &&& 31).toUInt32).toInt32) &&& (3 : Int32))), .val (.int p3), .unset, .unset, .unset] [(.int (8 : Int32))])) _
        refine XS.iloadN X0.here hx rfl (hb hby d1_54) rfl ?_
        show Steps p.tables e below (s₁.setTop (mkF m 55 #[.val (.long q0), .second, .val (.int p1), .val (.int p2), .val (.int p3), .val (.int (((p2.toUInt32 >>> (((2 : Int32) * p1) &&& 31).toUInt32).toInt32) &&& (3 : Int32))), .val (.int p3), .unset, .unset, .unset] [(.int p1), (.int (8 : Int32))])) _
        refine XS.imul X0.here hx rfl (hb hby d1_55) rfl ?_
        show Steps p.tables e below (s₁.setTop (mkF m 56 #[.val (.long q0), .second, .val (.int p1), .val (.int p2), .val (.int p3), .val (.int (((p2.toUInt32 >>> (((2 : Int32) * p1) &&& 31).toUInt32).toInt32) &&& (3 : Int32))), .val (.int p3), .unset, .unset, .unset] [(.int ((8 : Int32) * p1))])) _
        refine XS.istore X0.here hx rfl (hb hby d1_56) rfl (l' := #[.val (.long q0), .second, .val (.int p1), .val (.int p2), .val (.int p3), .val (.int (((p2.toUInt32 >>> (((2 : Int32) * p1) &&& 31).toUInt32).toInt32) &&& (3 : Int32))), .val (.int p3), .val (.int ((8 : Int32) * p1)), .unset, .unset]) rfl ?_
        show Steps p.tables e below (s₁.setTop (mkF m 58 #[.val (.long q0), .second, .val (.int p1), .val (.int p2), .val (.int p3), .val (.int (((p2.toUInt32 >>> (((2 : Int32) * p1) &&& 31).toUInt32).toInt32) &&& (3 : Int32))), .val (.int p3), .val (.int ((8 : Int32) * p1)), .unset, .unset] [])) _
        refine XS.lloadN X0.here hx rfl (hb hby d1_58) rfl ?_
        show Steps p.tables e below (s₁.setTop (mkF m 59 #[.val (.long q0), .second, .val (.int p1), .val (.int p2), .val (.int p3), .val (.int (((p2.toUInt32 >>> (((2 : Int32) * p1) &&& 31).toUInt32).toInt32) &&& (3 : Int32))), .val (.int p3), .val (.int ((8 : Int32) * p1)), .unset, .unset] [(.long q0)])) _
        refine X0.ldc2Long hx hown (mvT hZ (hw _ (List.mem_of_getElem? (i := 4) rfl))) (g := (mkF m 59 #[.val (.long q0), .second, .val (.int p1), .val (.int p2), .val (.int p3), .val (.int (((p2.toUInt32 >>> (((2 : Int32) * p1) &&& 31).toUInt32).toInt32) &&& (3 : Int32))), .val (.int p3), .val (.int ((8 : Int32) * p1)), .unset, .unset] [(.long q0)])) rfl (hb hby d1_59) _ ?_
        show Steps p.tables e below (s₁.setTop (mkF m 62 #[.val (.long q0), .second, .val (.int p1), .val (.int p2), .val (.int p3), .val (.int (((p2.toUInt32 >>> (((2 : Int32) * p1) &&& 31).toUInt32).toInt32) &&& (3 : Int32))), .val (.int p3), .val (.int ((8 : Int32) * p1)), .unset, .unset] [(.long (255 : Int64)), (.long q0)])) _
        refine XS.iload X0.here hx rfl (hb hby d1_62) rfl ?_
        show Steps p.tables e below (s₁.setTop (mkF m 64 #[.val (.long q0), .second, .val (.int p1), .val (.int p2), .val (.int p3), .val (.int (((p2.toUInt32 >>> (((2 : Int32) * p1) &&& 31).toUInt32).toInt32) &&& (3 : Int32))), .val (.int p3), .val (.int ((8 : Int32) * p1)), .unset, .unset] [(.int ((8 : Int32) * p1)), (.long (255 : Int64)), (.long q0)])) _
        refine XS.lshl X0.here hx rfl (hb hby d1_64) rfl ?_
        show Steps p.tables e below (s₁.setTop (mkF m 65 #[.val (.long q0), .second, .val (.int p1), .val (.int p2), .val (.int p3), .val (.int (((p2.toUInt32 >>> (((2 : Int32) * p1) &&& 31).toUInt32).toInt32) &&& (3 : Int32))), .val (.int p3), .val (.int ((8 : Int32) * p1)), .unset, .unset] [(.long ((255 : Int64) <<< (((8 : Int32) * p1) &&& 0x3f).toInt64)), (.long q0)])) _
        refine X0.ldc2Long hx hown (mvT hZ (hw _ (List.mem_of_getElem? (i := 5) rfl))) (g := (mkF m 65 #[.val (.long q0), .second, .val (.int p1), .val (.int p2), .val (.int p3), .val (.int (((p2.toUInt32 >>> (((2 : Int32) * p1) &&& 31).toUInt32).toInt32) &&& (3 : Int32))), .val (.int p3), .val (.int ((8 : Int32) * p1)), .unset, .unset] [(.long ((255 : Int64) <<< (((8 : Int32) * p1) &&& 0x3f).toInt64)), (.long q0)])) rfl (hb hby d1_65) _ ?_
        show Steps p.tables e below (s₁.setTop (mkF m 68 #[.val (.long q0), .second, .val (.int p1), .val (.int p2), .val (.int p3), .val (.int (((p2.toUInt32 >>> (((2 : Int32) * p1) &&& 31).toUInt32).toInt32) &&& (3 : Int32))), .val (.int p3), .val (.int ((8 : Int32) * p1)), .unset, .unset] [(.long (-1 : Int64)), (.long ((255 : Int64) <<< (((8 : Int32) * p1) &&& 0x3f).toInt64)), (.long q0)])) _
        refine XS.lxor X0.here hx rfl (hb hby d1_68) rfl ?_
        show Steps p.tables e below (s₁.setTop (mkF m 69 #[.val (.long q0), .second, .val (.int p1), .val (.int p2), .val (.int p3), .val (.int (((p2.toUInt32 >>> (((2 : Int32) * p1) &&& 31).toUInt32).toInt32) &&& (3 : Int32))), .val (.int p3), .val (.int ((8 : Int32) * p1)), .unset, .unset] [(.long (((255 : Int64) <<< (((8 : Int32) * p1) &&& 0x3f).toInt64) ^^^ (-1 : Int64))), (.long q0)])) _
        refine XS.land X0.here hx rfl (hb hby d1_69) rfl ?_
        show Steps p.tables e below (s₁.setTop (mkF m 70 #[.val (.long q0), .second, .val (.int p1), .val (.int p2), .val (.int p3), .val (.int (((p2.toUInt32 >>> (((2 : Int32) * p1) &&& 31).toUInt32).toInt32) &&& (3 : Int32))), .val (.int p3), .val (.int ((8 : Int32) * p1)), .unset, .unset] [(.long (q0 &&& (((255 : Int64) <<< (((8 : Int32) * p1) &&& 0x3f).toInt64) ^^^ (-1 : Int64))))])) _
        refine XS.lstore X0.here hx rfl (hb hby d1_70) rfl (l' := #[.val (.long q0), .second, .val (.int p1), .val (.int p2), .val (.int p3), .val (.int (((p2.toUInt32 >>> (((2 : Int32) * p1) &&& 31).toUInt32).toInt32) &&& (3 : Int32))), .val (.int p3), .val (.int ((8 : Int32) * p1)), .val (.long (q0 &&& (((255 : Int64) <<< (((8 : Int32) * p1) &&& 0x3f).toInt64) ^^^ (-1 : Int64)))), .second]) rfl ?_
        show Steps p.tables e below (s₁.setTop (mkF m 72 #[.val (.long q0), .second, .val (.int p1), .val (.int p2), .val (.int p3), .val (.int (((p2.toUInt32 >>> (((2 : Int32) * p1) &&& 31).toUInt32).toInt32) &&& (3 : Int32))), .val (.int p3), .val (.int ((8 : Int32) * p1)), .val (.long (q0 &&& (((255 : Int64) <<< (((8 : Int32) * p1) &&& 0x3f).toInt64) ^^^ (-1 : Int64)))), .second] [])) _
        refine XS.lload X0.here hx rfl (hb hby d1_72) rfl ?_
        show Steps p.tables e below (s₁.setTop (mkF m 74 #[.val (.long q0), .second, .val (.int p1), .val (.int p2), .val (.int p3), .val (.int (((p2.toUInt32 >>> (((2 : Int32) * p1) &&& 31).toUInt32).toInt32) &&& (3 : Int32))), .val (.int p3), .val (.int ((8 : Int32) * p1)), .val (.long (q0 &&& (((255 : Int64) <<< (((8 : Int32) * p1) &&& 0x3f).toInt64) ^^^ (-1 : Int64)))), .second] [(.long (q0 &&& (((255 : Int64) <<< (((8 : Int32) * p1) &&& 0x3f).toInt64) ^^^ (-1 : Int64))))])) _
        refine XS.iload X0.here hx rfl (hb hby d1_74) rfl ?_
        show Steps p.tables e below (s₁.setTop (mkF m 76 #[.val (.long q0), .second, .val (.int p1), .val (.int p2), .val (.int p3), .val (.int (((p2.toUInt32 >>> (((2 : Int32) * p1) &&& 31).toUInt32).toInt32) &&& (3 : Int32))), .val (.int p3), .val (.int ((8 : Int32) * p1)), .val (.long (q0 &&& (((255 : Int64) <<< (((8 : Int32) * p1) &&& 0x3f).toInt64) ^^^ (-1 : Int64)))), .second] [(.int p3), (.long (q0 &&& (((255 : Int64) <<< (((8 : Int32) * p1) &&& 0x3f).toInt64) ^^^ (-1 : Int64))))])) _
        refine XS.i2l X0.here hx rfl (hb hby d1_76) rfl ?_
        show Steps p.tables e below (s₁.setTop (mkF m 77 #[.val (.long q0), .second, .val (.int p1), .val (.int p2), .val (.int p3), .val (.int (((p2.toUInt32 >>> (((2 : Int32) * p1) &&& 31).toUInt32).toInt32) &&& (3 : Int32))), .val (.int p3), .val (.int ((8 : Int32) * p1)), .val (.long (q0 &&& (((255 : Int64) <<< (((8 : Int32) * p1) &&& 0x3f).toInt64) ^^^ (-1 : Int64)))), .second] [(.long (p3.toInt64)), (.long (q0 &&& (((255 : Int64) <<< (((8 : Int32) * p1) &&& 0x3f).toInt64) ^^^ (-1 : Int64))))])) _
        refine XS.iload X0.here hx rfl (hb hby d1_77) rfl ?_
        show Steps p.tables e below (s₁.setTop (mkF m 79 #[.val (.long q0), .second, .val (.int p1), .val (.int p2), .val (.int p3), .val (.int (((p2.toUInt32 >>> (((2 : Int32) * p1) &&& 31).toUInt32).toInt32) &&& (3 : Int32))), .val (.int p3), .val (.int ((8 : Int32) * p1)), .val (.long (q0 &&& (((255 : Int64) <<< (((8 : Int32) * p1) &&& 0x3f).toInt64) ^^^ (-1 : Int64)))), .second] [(.int ((8 : Int32) * p1)), (.long (p3.toInt64)), (.long (q0 &&& (((255 : Int64) <<< (((8 : Int32) * p1) &&& 0x3f).toInt64) ^^^ (-1 : Int64))))])) _
        refine XS.lshl X0.here hx rfl (hb hby d1_79) rfl ?_
        show Steps p.tables e below (s₁.setTop (mkF m 80 #[.val (.long q0), .second, .val (.int p1), .val (.int p2), .val (.int p3), .val (.int (((p2.toUInt32 >>> (((2 : Int32) * p1) &&& 31).toUInt32).toInt32) &&& (3 : Int32))), .val (.int p3), .val (.int ((8 : Int32) * p1)), .val (.long (q0 &&& (((255 : Int64) <<< (((8 : Int32) * p1) &&& 0x3f).toInt64) ^^^ (-1 : Int64)))), .second] [(.long ((p3.toInt64) <<< (((8 : Int32) * p1) &&& 0x3f).toInt64)), (.long (q0 &&& (((255 : Int64) <<< (((8 : Int32) * p1) &&& 0x3f).toInt64) ^^^ (-1 : Int64))))])) _
        refine XS.lor X0.here hx rfl (hb hby d1_80) rfl ?_
        show Steps p.tables e below (s₁.setTop (mkF m 81 #[.val (.long q0), .second, .val (.int p1), .val (.int p2), .val (.int p3), .val (.int (((p2.toUInt32 >>> (((2 : Int32) * p1) &&& 31).toUInt32).toInt32) &&& (3 : Int32))), .val (.int p3), .val (.int ((8 : Int32) * p1)), .val (.long (q0 &&& (((255 : Int64) <<< (((8 : Int32) * p1) &&& 0x3f).toInt64) ^^^ (-1 : Int64)))), .second] [(.long ((q0 &&& (((255 : Int64) <<< (((8 : Int32) * p1) &&& 0x3f).toInt64) ^^^ (-1 : Int64))) ||| ((p3.toInt64) <<< (((8 : Int32) * p1) &&& 0x3f).toInt64)))])) _
        simp only [if_neg hc11, if_pos hc19] at hr
        exact own_retJ X0 hx Bd.returns (hb hby d1_81) hr
      · show Steps p.tables e below (s₁.setTop (mkF m 19 #[.val (.long q0), .second, .val (.int p1), .val (.int p2), .val (.int p3), .val (.int (((p2.toUInt32 >>> (((2 : Int32) * p1) &&& 31).toUInt32).toInt32) &&& (3 : Int32))), .unset, .unset, .unset, .unset] [(.int (1 : Int32)), (.int (((p2.toUInt32 >>> (((2 : Int32) * p1) &&& 31).toUInt32).toInt32) &&& (3 : Int32)))])) _
        refine XS.icmpYes X0.here hx rfl (pc0 := 19) (pc' := 29) rfl (hb hby d1_19) rfl (feq hc19).2 (by decide) (by decide) ?_
        show Steps p.tables e below (s₁.setTop (mkF m 29 #[.val (.long q0), .second, .val (.int p1), .val (.int p2), .val (.int p3), .val (.int (((p2.toUInt32 >>> (((2 : Int32) * p1) &&& 31).toUInt32).toInt32) &&& (3 : Int32))), .unset, .unset, .unset, .unset] [])) _
        refine XS.iload X0.here hx rfl (hb hby d1_29) rfl ?_
        show Steps p.tables e below (s₁.setTop (mkF m 31 #[.val (.long q0), .second, .val (.int p1), .val (.int p2), .val (.int p3), .val (.int (((p2.toUInt32 >>> (((2 : Int32) * p1) &&& 31).toUInt32).toInt32) &&& (3 : Int32))), .unset, .unset, .unset, .unset] [(.int (((p2.toUInt32 >>> (((2 : Int32) * p1) &&& 31).toUInt32).toInt32) &&& (3 : Int32)))])) _
        refine XS.iconst X0.here hx rfl (hb hby d1_31) ?_
        by_cases hc32 : (((p2.toUInt32 >>> (((2 : Int32) * p1) &&& 31).toUInt32).toInt32) &&& (3 : Int32)) = (2 : Int32)
        · show Steps p.tables e below (s₁.setTop (mkF m 32 #[.val (.long q0), .second, .val (.int p1), .val (.int p2), .val (.int p3), .val (.int (((p2.toUInt32 >>> (((2 : Int32) * p1) &&& 31).toUInt32).toInt32) &&& (3 : Int32))), .unset, .unset, .unset, .unset] [(.int (2 : Int32)), (.int (((p2.toUInt32 >>> (((2 : Int32) * p1) &&& 31).toUInt32).toInt32) &&& (3 : Int32)))])) _
          refine XS.icmpNo X0.here hx rfl (hb hby d1_32) rfl (teq hc32).2 ?_
          show Steps p.tables e below (s₁.setTop (mkF m 35 #[.val (.long q0), .second, .val (.int p1), .val (.int p2), .val (.int p3), .val (.int (((p2.toUInt32 >>> (((2 : Int32) * p1) &&& 31).toUInt32).toInt32) &&& (3 : Int32))), .unset, .unset, .unset, .unset] [])) _
          refine XS.iload X0.here hx rfl (hb hby d1_35) rfl ?_
          show Steps p.tables e below (s₁.setTop (mkF m 37 #[.val (.long q0), .second, .val (.int p1), .val (.int p2), .val (.int p3), .val (.int (((p2.toUInt32 >>> (((2 : Int32) * p1) &&& 31).toUInt32).toInt32) &&& (3 : Int32))), .unset, .unset, .unset, .unset] [(.int p3)])) _
          refine XS.sipush X0.here hx rfl (hb hby d1_37) ?_
          show Steps p.tables e below (s₁.setTop (mkF m 40 #[.val (.long q0), .second, .val (.int p1), .val (.int p2), .val (.int p3), .val (.int (((p2.toUInt32 >>> (((2 : Int32) * p1) &&& 31).toUInt32).toInt32) &&& (3 : Int32))), .unset, .unset, .unset, .unset] [(.int (128 : Int32)), (.int p3)])) _
          refine XS.ixor X0.here hx rfl (hb hby d1_40) rfl ?_
          show Steps p.tables e below (s₁.setTop (mkF m 41 #[.val (.long q0), .second, .val (.int p1), .val (.int p2), .val (.int p3), .val (.int (((p2.toUInt32 >>> (((2 : Int32) * p1) &&& 31).toUInt32).toInt32) &&& (3 : Int32))), .unset, .unset, .unset, .unset] [(.int (p3 ^^^ (128 : Int32)))])) _
          refine XS.istore X0.here hx rfl (hb hby d1_41) rfl (l' := #[.val (.long q0), .second, .val (.int p1), .val (.int p2), .val (.int p3), .val (.int (((p2.toUInt32 >>> (((2 : Int32) * p1) &&& 31).toUInt32).toInt32) &&& (3 : Int32))), .val (.int (p3 ^^^ (128 : Int32))), .unset, .unset, .unset]) rfl ?_
          show Steps p.tables e below (s₁.setTop (mkF m 43 #[.val (.long q0), .second, .val (.int p1), .val (.int p2), .val (.int p3), .val (.int (((p2.toUInt32 >>> (((2 : Int32) * p1) &&& 31).toUInt32).toInt32) &&& (3 : Int32))), .val (.int (p3 ^^^ (128 : Int32))), .unset, .unset, .unset] [])) _
          refine XS.goto X0.here hx rfl (pc0 := 43) (pc' := 52) rfl (hb hby d1_43) (by decide) (by decide) ?_
          show Steps p.tables e below (s₁.setTop (mkF m 52 #[.val (.long q0), .second, .val (.int p1), .val (.int p2), .val (.int p3), .val (.int (((p2.toUInt32 >>> (((2 : Int32) * p1) &&& 31).toUInt32).toInt32) &&& (3 : Int32))), .val (.int (p3 ^^^ (128 : Int32))), .unset, .unset, .unset] [])) _
          refine XS.bipush X0.here hx rfl (hb hby d1_52) ?_
          show Steps p.tables e below (s₁.setTop (mkF m 54 #[.val (.long q0), .second, .val (.int p1), .val (.int p2), .val (.int p3), .val (.int (((p2.toUInt32 >>> (((2 : Int32) * p1) &&& 31).toUInt32).toInt32) &&& (3 : Int32))), .val (.int (p3 ^^^ (128 : Int32))), .unset, .unset, .unset] [(.int (8 : Int32))])) _
          refine XS.iloadN X0.here hx rfl (hb hby d1_54) rfl ?_
          show Steps p.tables e below (s₁.setTop (mkF m 55 #[.val (.long q0), .second, .val (.int p1), .val (.int p2), .val (.int p3), .val (.int (((p2.toUInt32 >>> (((2 : Int32) * p1) &&& 31).toUInt32).toInt32) &&& (3 : Int32))), .val (.int (p3 ^^^ (128 : Int32))), .unset, .unset, .unset] [(.int p1), (.int (8 : Int32))])) _
          refine XS.imul X0.here hx rfl (hb hby d1_55) rfl ?_
          show Steps p.tables e below (s₁.setTop (mkF m 56 #[.val (.long q0), .second, .val (.int p1), .val (.int p2), .val (.int p3), .val (.int (((p2.toUInt32 >>> (((2 : Int32) * p1) &&& 31).toUInt32).toInt32) &&& (3 : Int32))), .val (.int (p3 ^^^ (128 : Int32))), .unset, .unset, .unset] [(.int ((8 : Int32) * p1))])) _
          refine XS.istore X0.here hx rfl (hb hby d1_56) rfl (l' := #[.val (.long q0), .second, .val (.int p1), .val (.int p2), .val (.int p3), .val (.int (((p2.toUInt32 >>> (((2 : Int32) * p1) &&& 31).toUInt32).toInt32) &&& (3 : Int32))), .val (.int (p3 ^^^ (128 : Int32))), .val (.int ((8 : Int32) * p1)), .unset, .unset]) rfl ?_
          show Steps p.tables e below (s₁.setTop (mkF m 58 #[.val (.long q0), .second, .val (.int p1), .val (.int p2), .val (.int p3), .val (.int (((p2.toUInt32 >>> (((2 : Int32) * p1) &&& 31).toUInt32).toInt32) &&& (3 : Int32))), .val (.int (p3 ^^^ (128 : Int32))), .val (.int ((8 : Int32) * p1)), .unset, .unset] [])) _
          refine XS.lloadN X0.here hx rfl (hb hby d1_58) rfl ?_
          show Steps p.tables e below (s₁.setTop (mkF m 59 #[.val (.long q0), .second, .val (.int p1), .val (.int p2), .val (.int p3), .val (.int (((p2.toUInt32 >>> (((2 : Int32) * p1) &&& 31).toUInt32).toInt32) &&& (3 : Int32))), .val (.int (p3 ^^^ (128 : Int32))), .val (.int ((8 : Int32) * p1)), .unset, .unset] [(.long q0)])) _
          refine X0.ldc2Long hx hown (mvT hZ (hw _ (List.mem_of_getElem? (i := 4) rfl))) (g := (mkF m 59 #[.val (.long q0), .second, .val (.int p1), .val (.int p2), .val (.int p3), .val (.int (((p2.toUInt32 >>> (((2 : Int32) * p1) &&& 31).toUInt32).toInt32) &&& (3 : Int32))), .val (.int (p3 ^^^ (128 : Int32))), .val (.int ((8 : Int32) * p1)), .unset, .unset] [(.long q0)])) rfl (hb hby d1_59) _ ?_
          show Steps p.tables e below (s₁.setTop (mkF m 62 #[.val (.long q0), .second, .val (.int p1), .val (.int p2), .val (.int p3), .val (.int (((p2.toUInt32 >>> (((2 : Int32) * p1) &&& 31).toUInt32).toInt32) &&& (3 : Int32))), .val (.int (p3 ^^^ (128 : Int32))), .val (.int ((8 : Int32) * p1)), .unset, .unset] [(.long (255 : Int64)), (.long q0)])) _
          refine XS.iload X0.here hx rfl (hb hby d1_62) rfl ?_
          show Steps p.tables e below (s₁.setTop (mkF m 64 #[.val (.long q0), .second, .val (.int p1), .val (.int p2), .val (.int p3), .val (.int (((p2.toUInt32 >>> (((2 : Int32) * p1) &&& 31).toUInt32).toInt32) &&& (3 : Int32))), .val (.int (p3 ^^^ (128 : Int32))), .val (.int ((8 : Int32) * p1)), .unset, .unset] [(.int ((8 : Int32) * p1)), (.long (255 : Int64)), (.long q0)])) _
          refine XS.lshl X0.here hx rfl (hb hby d1_64) rfl ?_
          show Steps p.tables e below (s₁.setTop (mkF m 65 #[.val (.long q0), .second, .val (.int p1), .val (.int p2), .val (.int p3), .val (.int (((p2.toUInt32 >>> (((2 : Int32) * p1) &&& 31).toUInt32).toInt32) &&& (3 : Int32))), .val (.int (p3 ^^^ (128 : Int32))), .val (.int ((8 : Int32) * p1)), .unset, .unset] [(.long ((255 : Int64) <<< (((8 : Int32) * p1) &&& 0x3f).toInt64)), (.long q0)])) _
          refine X0.ldc2Long hx hown (mvT hZ (hw _ (List.mem_of_getElem? (i := 5) rfl))) (g := (mkF m 65 #[.val (.long q0), .second, .val (.int p1), .val (.int p2), .val (.int p3), .val (.int (((p2.toUInt32 >>> (((2 : Int32) * p1) &&& 31).toUInt32).toInt32) &&& (3 : Int32))), .val (.int (p3 ^^^ (128 : Int32))), .val (.int ((8 : Int32) * p1)), .unset, .unset] [(.long ((255 : Int64) <<< (((8 : Int32) * p1) &&& 0x3f).toInt64)), (.long q0)])) rfl (hb hby d1_65) _ ?_
          show Steps p.tables e below (s₁.setTop (mkF m 68 #[.val (.long q0), .second, .val (.int p1), .val (.int p2), .val (.int p3), .val (.int (((p2.toUInt32 >>> (((2 : Int32) * p1) &&& 31).toUInt32).toInt32) &&& (3 : Int32))), .val (.int (p3 ^^^ (128 : Int32))), .val (.int ((8 : Int32) * p1)), .unset, .unset] [(.long (-1 : Int64)), (.long ((255 : Int64) <<< (((8 : Int32) * p1) &&& 0x3f).toInt64)), (.long q0)])) _
          refine XS.lxor X0.here hx rfl (hb hby d1_68) rfl ?_
          show Steps p.tables e below (s₁.setTop (mkF m 69 #[.val (.long q0), .second, .val (.int p1), .val (.int p2), .val (.int p3), .val (.int (((p2.toUInt32 >>> (((2 : Int32) * p1) &&& 31).toUInt32).toInt32) &&& (3 : Int32))), .val (.int (p3 ^^^ (128 : Int32))), .val (.int ((8 : Int32) * p1)), .unset, .unset] [(.long (((255 : Int64) <<< (((8 : Int32) * p1) &&& 0x3f).toInt64) ^^^ (-1 : Int64))), (.long q0)])) _
          refine XS.land X0.here hx rfl (hb hby d1_69) rfl ?_
          show Steps p.tables e below (s₁.setTop (mkF m 70 #[.val (.long q0), .second, .val (.int p1), .val (.int p2), .val (.int p3), .val (.int (((p2.toUInt32 >>> (((2 : Int32) * p1) &&& 31).toUInt32).toInt32) &&& (3 : Int32))), .val (.int (p3 ^^^ (128 : Int32))), .val (.int ((8 : Int32) * p1)), .unset, .unset] [(.long (q0 &&& (((255 : Int64) <<< (((8 : Int32) * p1) &&& 0x3f).toInt64) ^^^ (-1 : Int64))))])) _
          refine XS.lstore X0.here hx rfl (hb hby d1_70) rfl (l' := #[.val (.long q0), .second, .val (.int p1), .val (.int p2), .val (.int p3), .val (.int (((p2.toUInt32 >>> (((2 : Int32) * p1) &&& 31).toUInt32).toInt32) &&& (3 : Int32))), .val (.int (p3 ^^^ (128 : Int32))), .val (.int ((8 : Int32) * p1)), .val (.long (q0 &&& (((255 : Int64) <<< (((8 : Int32) * p1) &&& 0x3f).toInt64) ^^^ (-1 : Int64)))), .second]) rfl ?_
          show Steps p.tables e below (s₁.setTop (mkF m 72 #[.val (.long q0), .second, .val (.int p1), .val (.int p2), .val (.int p3), .val (.int (((p2.toUInt32 >>> (((2 : Int32) * p1) &&& 31).toUInt32).toInt32) &&& (3 : Int32))), .val (.int (p3 ^^^ (128 : Int32))), .val (.int ((8 : Int32) * p1)), .val (.long (q0 &&& (((255 : Int64) <<< (((8 : Int32) * p1) &&& 0x3f).toInt64) ^^^ (-1 : Int64)))), .second] [])) _
          refine XS.lload X0.here hx rfl (hb hby d1_72) rfl ?_
          show Steps p.tables e below (s₁.setTop (mkF m 74 #[.val (.long q0), .second, .val (.int p1), .val (.int p2), .val (.int p3), .val (.int (((p2.toUInt32 >>> (((2 : Int32) * p1) &&& 31).toUInt32).toInt32) &&& (3 : Int32))), .val (.int (p3 ^^^ (128 : Int32))), .val (.int ((8 : Int32) * p1)), .val (.long (q0 &&& (((255 : Int64) <<< (((8 : Int32) * p1) &&& 0x3f).toInt64) ^^^ (-1 : Int64)))), .second] [(.long (q0 &&& (((255 : Int64) <<< (((8 : Int32) * p1) &&& 0x3f).toInt64) ^^^ (-1 : Int64))))])) _
          refine XS.iload X0.here hx rfl (hb hby d1_74) rfl ?_
          show Steps p.tables e below (s₁.setTop (mkF m 76 #[.val (.long q0), .second, .val (.int p1), .val (.int p2), .val (.int p3), .val (.int (((p2.toUInt32 >>> (((2 : Int32) * p1) &&& 31).toUInt32).toInt32) &&& (3 : Int32))), .val (.int (p3 ^^^ (128 : Int32))), .val (.int ((8 : Int32) * p1)), .val (.long (q0 &&& (((255 : Int64) <<< (((8 : Int32) * p1) &&& 0x3f).toInt64) ^^^ (-1 : Int64)))), .second] [(.int (p3 ^^^ (128 : Int32))), (.long (q0 &&& (((255 : Int64) <<< (((8 : Int32) * p1) &&& 0x3f).toInt64) ^^^ (-1 : Int64))))])) _
          refine XS.i2l X0.here hx rfl (hb hby d1_76) rfl ?_
          show Steps p.tables e below (s₁.setTop (mkF m 77 #[.val (.long q0), .second, .val (.int p1), .val (.int p2), .val (.int p3), .val (.int (((p2.toUInt32 >>> (((2 : Int32) * p1) &&& 31).toUInt32).toInt32) &&& (3 : Int32))), .val (.int (p3 ^^^ (128 : Int32))), .val (.int ((8 : Int32) * p1)), .val (.long (q0 &&& (((255 : Int64) <<< (((8 : Int32) * p1) &&& 0x3f).toInt64) ^^^ (-1 : Int64)))), .second] [(.long ((p3 ^^^ (128 : Int32)).toInt64)), (.long (q0 &&& (((255 : Int64) <<< (((8 : Int32) * p1) &&& 0x3f).toInt64) ^^^ (-1 : Int64))))])) _
          refine XS.iload X0.here hx rfl (hb hby d1_77) rfl ?_
          show Steps p.tables e below (s₁.setTop (mkF m 79 #[.val (.long q0), .second, .val (.int p1), .val (.int p2), .val (.int p3), .val (.int (((p2.toUInt32 >>> (((2 : Int32) * p1) &&& 31).toUInt32).toInt32) &&& (3 : Int32))), .val (.int (p3 ^^^ (128 : Int32))), .val (.int ((8 : Int32) * p1)), .val (.long (q0 &&& (((255 : Int64) <<< (((8 : Int32) * p1) &&& 0x3f).toInt64) ^^^ (-1 : Int64)))), .second] [(.int ((8 : Int32) * p1)), (.long ((p3 ^^^ (128 : Int32)).toInt64)), (.long (q0 &&& (((255 : Int64) <<< (((8 : Int32) * p1) &&& 0x3f).toInt64) ^^^ (-1 : Int64))))])) _
          refine XS.lshl X0.here hx rfl (hb hby d1_79) rfl ?_
          show Steps p.tables e below (s₁.setTop (mkF m 80 #[.val (.long q0), .second, .val (.int p1), .val (.int p2), .val (.int p3), .val (.int (((p2.toUInt32 >>> (((2 : Int32) * p1) &&& 31).toUInt32).toInt32) &&& (3 : Int32))), .val (.int (p3 ^^^ (128 : Int32))), .val (.int ((8 : Int32) * p1)), .val (.long (q0 &&& (((255 : Int64) <<< (((8 : Int32) * p1) &&& 0x3f).toInt64) ^^^ (-1 : Int64)))), .second] [(.long (((p3 ^^^ (128 : Int32)).toInt64) <<< (((8 : Int32) * p1) &&& 0x3f).toInt64)), (.long (q0 &&& (((255 : Int64) <<< (((8 : Int32) * p1) &&& 0x3f).toInt64) ^^^ (-1 : Int64))))])) _
          refine XS.lor X0.here hx rfl (hb hby d1_80) rfl ?_
          show Steps p.tables e below (s₁.setTop (mkF m 81 #[.val (.long q0), .second, .val (.int p1), .val (.int p2), .val (.int p3), .val (.int (((p2.toUInt32 >>> (((2 : Int32) * p1) &&& 31).toUInt32).toInt32) &&& (3 : Int32))), .val (.int (p3 ^^^ (128 : Int32))), .val (.int ((8 : Int32) * p1)), .val (.long (q0 &&& (((255 : Int64) <<< (((8 : Int32) * p1) &&& 0x3f).toInt64) ^^^ (-1 : Int64)))), .second] [(.long ((q0 &&& (((255 : Int64) <<< (((8 : Int32) * p1) &&& 0x3f).toInt64) ^^^ (-1 : Int64))) ||| (((p3 ^^^ (128 : Int32)).toInt64) <<< (((8 : Int32) * p1) &&& 0x3f).toInt64)))])) _
          simp only [if_neg hc11, if_neg hc19, if_pos hc32] at hr
          exact own_retJ X0 hx Bd.returns (hb hby d1_81) hr
        · show Steps p.tables e below (s₁.setTop (mkF m 32 #[.val (.long q0), .second, .val (.int p1), .val (.int p2), .val (.int p3), .val (.int (((p2.toUInt32 >>> (((2 : Int32) * p1) &&& 31).toUInt32).toInt32) &&& (3 : Int32))), .unset, .unset, .unset, .unset] [(.int (2 : Int32)), (.int (((p2.toUInt32 >>> (((2 : Int32) * p1) &&& 31).toUInt32).toInt32) &&& (3 : Int32)))])) _
          refine XS.icmpYes X0.here hx rfl (pc0 := 32) (pc' := 46) rfl (hb hby d1_32) rfl (feq hc32).2 (by decide) (by decide) ?_
          show Steps p.tables e below (s₁.setTop (mkF m 46 #[.val (.long q0), .second, .val (.int p1), .val (.int p2), .val (.int p3), .val (.int (((p2.toUInt32 >>> (((2 : Int32) * p1) &&& 31).toUInt32).toInt32) &&& (3 : Int32))), .unset, .unset, .unset, .unset] [])) _
          refine XS.iload X0.here hx rfl (hb hby d1_46) rfl ?_
          show Steps p.tables e below (s₁.setTop (mkF m 48 #[.val (.long q0), .second, .val (.int p1), .val (.int p2), .val (.int p3), .val (.int (((p2.toUInt32 >>> (((2 : Int32) * p1) &&& 31).toUInt32).toInt32) &&& (3 : Int32))), .unset, .unset, .unset, .unset] [(.int p3)])) _
          refine XS.iconst X0.here hx rfl (hb hby d1_48) ?_
          show Steps p.tables e below (s₁.setTop (mkF m 49 #[.val (.long q0), .second, .val (.int p1), .val (.int p2), .val (.int p3), .val (.int (((p2.toUInt32 >>> (((2 : Int32) * p1) &&& 31).toUInt32).toInt32) &&& (3 : Int32))), .unset, .unset, .unset, .unset] [(.int (1 : Int32)), (.int p3)])) _
          refine XS.ixor X0.here hx rfl (hb hby d1_49) rfl ?_
          show Steps p.tables e below (s₁.setTop (mkF m 50 #[.val (.long q0), .second, .val (.int p1), .val (.int p2), .val (.int p3), .val (.int (((p2.toUInt32 >>> (((2 : Int32) * p1) &&& 31).toUInt32).toInt32) &&& (3 : Int32))), .unset, .unset, .unset, .unset] [(.int (p3 ^^^ (1 : Int32)))])) _
          refine XS.istore X0.here hx rfl (hb hby d1_50) rfl (l' := #[.val (.long q0), .second, .val (.int p1), .val (.int p2), .val (.int p3), .val (.int (((p2.toUInt32 >>> (((2 : Int32) * p1) &&& 31).toUInt32).toInt32) &&& (3 : Int32))), .val (.int (p3 ^^^ (1 : Int32))), .unset, .unset, .unset]) rfl ?_
          show Steps p.tables e below (s₁.setTop (mkF m 52 #[.val (.long q0), .second, .val (.int p1), .val (.int p2), .val (.int p3), .val (.int (((p2.toUInt32 >>> (((2 : Int32) * p1) &&& 31).toUInt32).toInt32) &&& (3 : Int32))), .val (.int (p3 ^^^ (1 : Int32))), .unset, .unset, .unset] [])) _
          refine XS.bipush X0.here hx rfl (hb hby d1_52) ?_
          show Steps p.tables e below (s₁.setTop (mkF m 54 #[.val (.long q0), .second, .val (.int p1), .val (.int p2), .val (.int p3), .val (.int (((p2.toUInt32 >>> (((2 : Int32) * p1) &&& 31).toUInt32).toInt32) &&& (3 : Int32))), .val (.int (p3 ^^^ (1 : Int32))), .unset, .unset, .unset] [(.int (8 : Int32))])) _
          refine XS.iloadN X0.here hx rfl (hb hby d1_54) rfl ?_
          show Steps p.tables e below (s₁.setTop (mkF m 55 #[.val (.long q0), .second, .val (.int p1), .val (.int p2), .val (.int p3), .val (.int (((p2.toUInt32 >>> (((2 : Int32) * p1) &&& 31).toUInt32).toInt32) &&& (3 : Int32))), .val (.int (p3 ^^^ (1 : Int32))), .unset, .unset, .unset] [(.int p1), (.int (8 : Int32))])) _
          refine XS.imul X0.here hx rfl (hb hby d1_55) rfl ?_
          show Steps p.tables e below (s₁.setTop (mkF m 56 #[.val (.long q0), .second, .val (.int p1), .val (.int p2), .val (.int p3), .val (.int (((p2.toUInt32 >>> (((2 : Int32) * p1) &&& 31).toUInt32).toInt32) &&& (3 : Int32))), .val (.int (p3 ^^^ (1 : Int32))), .unset, .unset, .unset] [(.int ((8 : Int32) * p1))])) _
          refine XS.istore X0.here hx rfl (hb hby d1_56) rfl (l' := #[.val (.long q0), .second, .val (.int p1), .val (.int p2), .val (.int p3), .val (.int (((p2.toUInt32 >>> (((2 : Int32) * p1) &&& 31).toUInt32).toInt32) &&& (3 : Int32))), .val (.int (p3 ^^^ (1 : Int32))), .val (.int ((8 : Int32) * p1)), .unset, .unset]) rfl ?_
          show Steps p.tables e below (s₁.setTop (mkF m 58 #[.val (.long q0), .second, .val (.int p1), .val (.int p2), .val (.int p3), .val (.int (((p2.toUInt32 >>> (((2 : Int32) * p1) &&& 31).toUInt32).toInt32) &&& (3 : Int32))), .val (.int (p3 ^^^ (1 : Int32))), .val (.int ((8 : Int32) * p1)), .unset, .unset] [])) _
          refine XS.lloadN X0.here hx rfl (hb hby d1_58) rfl ?_
          show Steps p.tables e below (s₁.setTop (mkF m 59 #[.val (.long q0), .second, .val (.int p1), .val (.int p2), .val (.int p3), .val (.int (((p2.toUInt32 >>> (((2 : Int32) * p1) &&& 31).toUInt32).toInt32) &&& (3 : Int32))), .val (.int (p3 ^^^ (1 : Int32))), .val (.int ((8 : Int32) * p1)), .unset, .unset] [(.long q0)])) _
          refine X0.ldc2Long hx hown (mvT hZ (hw _ (List.mem_of_getElem? (i := 4) rfl))) (g := (mkF m 59 #[.val (.long q0), .second, .val (.int p1), .val (.int p2), .val (.int p3), .val (.int (((p2.toUInt32 >>> (((2 : Int32) * p1) &&& 31).toUInt32).toInt32) &&& (3 : Int32))), .val (.int (p3 ^^^ (1 : Int32))), .val (.int ((8 : Int32) * p1)), .unset, .unset] [(.long q0)])) rfl (hb hby d1_59) _ ?_
          show Steps p.tables e below (s₁.setTop (mkF m 62 #[.val (.long q0), .second, .val (.int p1), .val (.int p2), .val (.int p3), .val (.int (((p2.toUInt32 >>> (((2 : Int32) * p1) &&& 31).toUInt32).toInt32) &&& (3 : Int32))), .val (.int (p3 ^^^ (1 : Int32))), .val (.int ((8 : Int32) * p1)), .unset, .unset] [(.long (255 : Int64)), (.long q0)])) _
          refine XS.iload X0.here hx rfl (hb hby d1_62) rfl ?_
          show Steps p.tables e below (s₁.setTop (mkF m 64 #[.val (.long q0), .second, .val (.int p1), .val (.int p2), .val (.int p3), .val (.int (((p2.toUInt32 >>> (((2 : Int32) * p1) &&& 31).toUInt32).toInt32) &&& (3 : Int32))), .val (.int (p3 ^^^ (1 : Int32))), .val (.int ((8 : Int32) * p1)), .unset, .unset] [(.int ((8 : Int32) * p1)), (.long (255 : Int64)), (.long q0)])) _
          refine XS.lshl X0.here hx rfl (hb hby d1_64) rfl ?_
          show Steps p.tables e below (s₁.setTop (mkF m 65 #[.val (.long q0), .second, .val (.int p1), .val (.int p2), .val (.int p3), .val (.int (((p2.toUInt32 >>> (((2 : Int32) * p1) &&& 31).toUInt32).toInt32) &&& (3 : Int32))), .val (.int (p3 ^^^ (1 : Int32))), .val (.int ((8 : Int32) * p1)), .unset, .unset] [(.long ((255 : Int64) <<< (((8 : Int32) * p1) &&& 0x3f).toInt64)), (.long q0)])) _
          refine X0.ldc2Long hx hown (mvT hZ (hw _ (List.mem_of_getElem? (i := 5) rfl))) (g := (mkF m 65 #[.val (.long q0), .second, .val (.int p1), .val (.int p2), .val (.int p3), .val (.int (((p2.toUInt32 >>> (((2 : Int32) * p1) &&& 31).toUInt32).toInt32) &&& (3 : Int32))), .val (.int (p3 ^^^ (1 : Int32))), .val (.int ((8 : Int32) * p1)), .unset, .unset] [(.long ((255 : Int64) <<< (((8 : Int32) * p1) &&& 0x3f).toInt64)), (.long q0)])) rfl (hb hby d1_65) _ ?_
          show Steps p.tables e below (s₁.setTop (mkF m 68 #[.val (.long q0), .second, .val (.int p1), .val (.int p2), .val (.int p3), .val (.int (((p2.toUInt32 >>> (((2 : Int32) * p1) &&& 31).toUInt32).toInt32) &&& (3 : Int32))), .val (.int (p3 ^^^ (1 : Int32))), .val (.int ((8 : Int32) * p1)), .unset, .unset] [(.long (-1 : Int64)), (.long ((255 : Int64) <<< (((8 : Int32) * p1) &&& 0x3f).toInt64)), (.long q0)])) _
          refine XS.lxor X0.here hx rfl (hb hby d1_68) rfl ?_
          show Steps p.tables e below (s₁.setTop (mkF m 69 #[.val (.long q0), .second, .val (.int p1), .val (.int p2), .val (.int p3), .val (.int (((p2.toUInt32 >>> (((2 : Int32) * p1) &&& 31).toUInt32).toInt32) &&& (3 : Int32))), .val (.int (p3 ^^^ (1 : Int32))), .val (.int ((8 : Int32) * p1)), .unset, .unset] [(.long (((255 : Int64) <<< (((8 : Int32) * p1) &&& 0x3f).toInt64) ^^^ (-1 : Int64))), (.long q0)])) _
          refine XS.land X0.here hx rfl (hb hby d1_69) rfl ?_
          show Steps p.tables e below (s₁.setTop (mkF m 70 #[.val (.long q0), .second, .val (.int p1), .val (.int p2), .val (.int p3), .val (.int (((p2.toUInt32 >>> (((2 : Int32) * p1) &&& 31).toUInt32).toInt32) &&& (3 : Int32))), .val (.int (p3 ^^^ (1 : Int32))), .val (.int ((8 : Int32) * p1)), .unset, .unset] [(.long (q0 &&& (((255 : Int64) <<< (((8 : Int32) * p1) &&& 0x3f).toInt64) ^^^ (-1 : Int64))))])) _
          refine XS.lstore X0.here hx rfl (hb hby d1_70) rfl (l' := #[.val (.long q0), .second, .val (.int p1), .val (.int p2), .val (.int p3), .val (.int (((p2.toUInt32 >>> (((2 : Int32) * p1) &&& 31).toUInt32).toInt32) &&& (3 : Int32))), .val (.int (p3 ^^^ (1 : Int32))), .val (.int ((8 : Int32) * p1)), .val (.long (q0 &&& (((255 : Int64) <<< (((8 : Int32) * p1) &&& 0x3f).toInt64) ^^^ (-1 : Int64)))), .second]) rfl ?_
          show Steps p.tables e below (s₁.setTop (mkF m 72 #[.val (.long q0), .second, .val (.int p1), .val (.int p2), .val (.int p3), .val (.int (((p2.toUInt32 >>> (((2 : Int32) * p1) &&& 31).toUInt32).toInt32) &&& (3 : Int32))), .val (.int (p3 ^^^ (1 : Int32))), .val (.int ((8 : Int32) * p1)), .val (.long (q0 &&& (((255 : Int64) <<< (((8 : Int32) * p1) &&& 0x3f).toInt64) ^^^ (-1 : Int64)))), .second] [])) _
          refine XS.lload X0.here hx rfl (hb hby d1_72) rfl ?_
          show Steps p.tables e below (s₁.setTop (mkF m 74 #[.val (.long q0), .second, .val (.int p1), .val (.int p2), .val (.int p3), .val (.int (((p2.toUInt32 >>> (((2 : Int32) * p1) &&& 31).toUInt32).toInt32) &&& (3 : Int32))), .val (.int (p3 ^^^ (1 : Int32))), .val (.int ((8 : Int32) * p1)), .val (.long (q0 &&& (((255 : Int64) <<< (((8 : Int32) * p1) &&& 0x3f).toInt64) ^^^ (-1 : Int64)))), .second] [(.long (q0 &&& (((255 : Int64) <<< (((8 : Int32) * p1) &&& 0x3f).toInt64) ^^^ (-1 : Int64))))])) _
          refine XS.iload X0.here hx rfl (hb hby d1_74) rfl ?_
          show Steps p.tables e below (s₁.setTop (mkF m 76 #[.val (.long q0), .second, .val (.int p1), .val (.int p2), .val (.int p3), .val (.int (((p2.toUInt32 >>> (((2 : Int32) * p1) &&& 31).toUInt32).toInt32) &&& (3 : Int32))), .val (.int (p3 ^^^ (1 : Int32))), .val (.int ((8 : Int32) * p1)), .val (.long (q0 &&& (((255 : Int64) <<< (((8 : Int32) * p1) &&& 0x3f).toInt64) ^^^ (-1 : Int64)))), .second] [(.int (p3 ^^^ (1 : Int32))), (.long (q0 &&& (((255 : Int64) <<< (((8 : Int32) * p1) &&& 0x3f).toInt64) ^^^ (-1 : Int64))))])) _
          refine XS.i2l X0.here hx rfl (hb hby d1_76) rfl ?_
          show Steps p.tables e below (s₁.setTop (mkF m 77 #[.val (.long q0), .second, .val (.int p1), .val (.int p2), .val (.int p3), .val (.int (((p2.toUInt32 >>> (((2 : Int32) * p1) &&& 31).toUInt32).toInt32) &&& (3 : Int32))), .val (.int (p3 ^^^ (1 : Int32))), .val (.int ((8 : Int32) * p1)), .val (.long (q0 &&& (((255 : Int64) <<< (((8 : Int32) * p1) &&& 0x3f).toInt64) ^^^ (-1 : Int64)))), .second] [(.long ((p3 ^^^ (1 : Int32)).toInt64)), (.long (q0 &&& (((255 : Int64) <<< (((8 : Int32) * p1) &&& 0x3f).toInt64) ^^^ (-1 : Int64))))])) _
          refine XS.iload X0.here hx rfl (hb hby d1_77) rfl ?_
          show Steps p.tables e below (s₁.setTop (mkF m 79 #[.val (.long q0), .second, .val (.int p1), .val (.int p2), .val (.int p3), .val (.int (((p2.toUInt32 >>> (((2 : Int32) * p1) &&& 31).toUInt32).toInt32) &&& (3 : Int32))), .val (.int (p3 ^^^ (1 : Int32))), .val (.int ((8 : Int32) * p1)), .val (.long (q0 &&& (((255 : Int64) <<< (((8 : Int32) * p1) &&& 0x3f).toInt64) ^^^ (-1 : Int64)))), .second] [(.int ((8 : Int32) * p1)), (.long ((p3 ^^^ (1 : Int32)).toInt64)), (.long (q0 &&& (((255 : Int64) <<< (((8 : Int32) * p1) &&& 0x3f).toInt64) ^^^ (-1 : Int64))))])) _
          refine XS.lshl X0.here hx rfl (hb hby d1_79) rfl ?_
          show Steps p.tables e below (s₁.setTop (mkF m 80 #[.val (.long q0), .second, .val (.int p1), .val (.int p2), .val (.int p3), .val (.int (((p2.toUInt32 >>> (((2 : Int32) * p1) &&& 31).toUInt32).toInt32) &&& (3 : Int32))), .val (.int (p3 ^^^ (1 : Int32))), .val (.int ((8 : Int32) * p1)), .val (.long (q0 &&& (((255 : Int64) <<< (((8 : Int32) * p1) &&& 0x3f).toInt64) ^^^ (-1 : Int64)))), .second] [(.long (((p3 ^^^ (1 : Int32)).toInt64) <<< (((8 : Int32) * p1) &&& 0x3f).toInt64)), (.long (q0 &&& (((255 : Int64) <<< (((8 : Int32) * p1) &&& 0x3f).toInt64) ^^^ (-1 : Int64))))])) _
          refine XS.lor X0.here hx rfl (hb hby d1_80) rfl ?_
          show Steps p.tables e below (s₁.setTop (mkF m 81 #[.val (.long q0), .second, .val (.int p1), .val (.int p2), .val (.int p3), .val (.int (((p2.toUInt32 >>> (((2 : Int32) * p1) &&& 31).toUInt32).toInt32) &&& (3 : Int32))), .val (.int (p3 ^^^ (1 : Int32))), .val (.int ((8 : Int32) * p1)), .val (.long (q0 &&& (((255 : Int64) <<< (((8 : Int32) * p1) &&& 0x3f).toInt64) ^^^ (-1 : Int64)))), .second] [(.long ((q0 &&& (((255 : Int64) <<< (((8 : Int32) * p1) &&& 0x3f).toInt64) ^^^ (-1 : Int64))) ||| (((p3 ^^^ (1 : Int32)).toInt64) <<< (((8 : Int32) * p1) &&& 0x3f).toInt64)))])) _
          simp only [if_neg hc11, if_neg hc19, if_neg hc32] at hr
          exact own_retJ X0 hx Bd.returns (hb hby d1_81) hr
  · show Qrm1 Z q0 p1 p2 p3 h0 n0 _ s₁.heap _
    rw [e0]
    exact ⟨rfl, N0, rfl⟩
theorem d2_0 : decode method_3_code 0 = .ok (.bipush 8, 2) := by decide +kernel
theorem d2_2 : decode method_3_code 2 = .ok (.iload_n 3, 1) := by decide +kernel
theorem d2_3 : decode method_3_code 3 = .ok (.imul, 1) := by decide +kernel
theorem d2_4 : decode method_3_code 4 = .ok (.istore 4, 2) := by decide +kernel
theorem d2_6 : decode method_3_code 6 = .ok (.lload_n 0, 1) := by decide +kernel
theorem d2_7 : decode method_3_code 7 = .ok (.iload 4, 2) := by decide +kernel
theorem d2_9 : decode method_3_code 9 = .ok (.lushr, 1) := by decide +kernel
theorem d2_10 : decode method_3_code 10 = .ok (.ldc2_w 7, 3) := by decide +kernel
theorem d2_13 : decode method_3_code 13 = .ok (.land, 1) := by decide +kernel
theorem d2_14 : decode method_3_code 14 = .ok (.iload_n 2, 1) := by decide +kernel
theorem d2_15 : decode method_3_code 15 = .ok (.i2l, 1) := by decide +kernel
theorem d2_16 : decode method_3_code 16 = .ok (.lcmp, 1) := by decide +kernel
theorem d2_17 : decode method_3_code 17 = .ok (.ifCond .ne 12, 3) := by decide +kernel
theorem d2_20 : decode method_3_code 20 = .ok (.ldc2_w 11, 3) := by decide +kernel
theorem d2_23 : decode method_3_code 23 = .ok (.iload 4, 2) := by decide +kernel
theorem d2_25 : decode method_3_code 25 = .ok (.lshl, 1) := by decide +kernel
theorem d2_26 : decode method_3_code 26 = .ok (.goto 4, 3) := by decide +kernel
theorem d2_29 : decode method_3_code 29 = .ok (.lconst 0, 1) := by decide +kernel
theorem d2_30 : decode method_3_code 30 = .ok (.lreturn, 1) := by decide +kernel
theorem pn_2 : plainName "com/example/epitome/epitome/csv/PackedBytesEqualPinLaw" = true := by first | (simp [plainName, overriddenIn]; done) | decide +kernel
theorem ef_rm2 (m : MethodId) (q0 : Int64) (p1 : Int32) (p2 : Int32) : entryFrame m #[(.long q0), (.int p1), (.int p2)] 5 = mkF m 0 #[.val (.long q0), .second, .val (.int p1), .val (.int p2), .unset] [] := by first | (simp [entryFrame, mkF, argsToLocals, Value.category]; done) | rfl
def Qrm2 (Z : State) (q0 : Int64) (p1 : Int32) (p2 : Int32) (h0 : Heap) (n0 : Nat) (v : Option Value) (h : Heap) (L : List Loc) : Prop := v = some (.long (if (((q0.toUInt64 >>> (((8 : Int32) * p2) &&& 0x3f).toInt64.toUInt64).toInt64) &&& (255 : Int64)) = (p1.toInt64) then ((128 : Int64) <<< (((8 : Int32) * p2) &&& 0x3f).toInt64) else (0 : Int64))) ∧ Fr n0 L ∧ h = h0
set_option maxRecDepth 65536 in
set_option maxHeartbeats 40000000 in
theorem rm2 (l : Launch) (Z : State) (A0 : Array Value) (hw : ∀ d ∈ tables_1, d.before A0 Z = true) (ws : List Jvm.Cond) (q0 : Int64) (p1 : Int32) (p2 : Int32) (h0 : Heap) (n0 : Nat) (Z0 : n0 ≤ h0.size) :
    MetFree l (⟨"com/example/epitome/epitome/csv/PackedBytesEqualPinLaw", "bit", "(JII)J"⟩ : MethodName) (head1 (Jvm.Cond.code (⟨"com/example/epitome/epitome/csv/PackedBytesEqualPinLaw", "bit", "(JII)J"⟩ : MethodName) method_3_code 5 (some .long) :: ws) ({ frames := 0, cells := 0, slots := 0, locals := 0 } : Room)) (fun a U => a = #[(.long q0), (.int p1), (.int p2)] ∧ Z.Warmed39 U.vm ∧ U.heap = h0) (fun _ _ _ _ _ => True) (fun _ U o U' => ∃ v L, o = .returned v ∧ Qrm2 Z q0 p1 p2 h0 n0 v U'.heap L ∧ FrameEnd U o U' L ({ frames := 0, cells := 0, slots := 0, locals := 0 } : Room).cells ({ frames := 0, cells := 0, slots := 0, locals := 0 } : Room).slots) := by
  refine MetFree.of_bodySF (plainFor_of_name pn_2) hisR ?_
  intro p e s m args below meth c s₁ Bd hml0 hP hK
  obtain ⟨rfl, hZ, hh⟩ := hP
  have hx := Bd.exec
  have hby := Bd.bytes
  have hml : c.maxLocals = 5 := hml0
  have hown : s.vm.findClass "com/example/epitome/epitome/csv/PackedBytesEqualPinLaw" = some m.cls := findClass_of_methodNamed Bd.named
  have hnm := (name_of_methodNamed Bd.named Bd.method).1
  have X0 : Stand p l e ({ frames := 0, cells := 0, slots := 0, locals := 0 } : Room) s m #[(.long q0), (.int p1), (.int p2)] below meth c s₁ [] 0 0 := Stand.of_body Bd
  have e0 : s₁.heap = h0 := by rw [← hh, Bd.state]; rfl
  have N0 := Fr.nil n0
  have K0 : Keep h0 h0 [] := Keep.refl _ _
  have pre0 : ∀ t, Steps p.tables e below (s₁.setTop (mkF m 0 #[.val (.long q0), .second, .val (.int p1), .val (.int p2), .unset] [])) t → Steps p.tables e below (s₁.setTop (entryFrame m #[(.long q0), (.int p1), (.int p2)] 5)) t := fun t k => castTop (ef_rm2 m q0 p1 p2) k
  obtain ⟨fs, hr, hrun, hended, hW, hsame⟩ := X0.leave (v := some (.long (if (((q0.toUInt64 >>> (((8 : Int32) * p2) &&& 0x3f).toInt64.toUInt64).toInt64) &&& (255 : Int64)) = (p1.toInt64) then ((128 : Int64) <<< (((8 : Int32) * p2) &&& 0x3f).toInt64) else (0 : Int64)))) (fun h => by rw [Bd.returns] at h; cases h)
  refine ⟨_, _, pre0 _ ?_, hrun, hended, _, _, rfl, ?_, ⟨_, rfl⟩, hW, hsame.mono (by decide) (by decide)⟩
  · show Steps p.tables e below (s₁.setTop (mkF m 0 #[.val (.long q0), .second, .val (.int p1), .val (.int p2), .unset] [])) _
    refine XS.bipush X0.here hx rfl (hb hby d2_0) ?_
    show Steps p.tables e below (s₁.setTop (mkF m 2 #[.val (.long q0), .second, .val (.int p1), .val (.int p2), .unset] [(.int (8 : Int32))])) _
    refine XS.iloadN X0.here hx rfl (hb hby d2_2) rfl ?_
    show Steps p.tables e below (s₁.setTop (mkF m 3 #[.val (.long q0), .second, .val (.int p1), .val (.int p2), .unset] [(.int p2), (.int (8 : Int32))])) _
    refine XS.imul X0.here hx rfl (hb hby d2_3) rfl ?_
    show Steps p.tables e below (s₁.setTop (mkF m 4 #[.val (.long q0), .second, .val (.int p1), .val (.int p2), .unset] [(.int ((8 : Int32) * p2))])) _
    refine XS.istore X0.here hx rfl (hb hby d2_4) rfl (l' := #[.val (.long q0), .second, .val (.int p1), .val (.int p2), .val (.int ((8 : Int32) * p2))]) rfl ?_
    show Steps p.tables e below (s₁.setTop (mkF m 6 #[.val (.long q0), .second, .val (.int p1), .val (.int p2), .val (.int ((8 : Int32) * p2))] [])) _
    refine XS.lloadN X0.here hx rfl (hb hby d2_6) rfl ?_
    show Steps p.tables e below (s₁.setTop (mkF m 7 #[.val (.long q0), .second, .val (.int p1), .val (.int p2), .val (.int ((8 : Int32) * p2))] [(.long q0)])) _
    refine XS.iload X0.here hx rfl (hb hby d2_7) rfl ?_
    show Steps p.tables e below (s₁.setTop (mkF m 9 #[.val (.long q0), .second, .val (.int p1), .val (.int p2), .val (.int ((8 : Int32) * p2))] [(.int ((8 : Int32) * p2)), (.long q0)])) _
    refine XS.lushr X0.here hx rfl (hb hby d2_9) rfl ?_
    show Steps p.tables e below (s₁.setTop (mkF m 10 #[.val (.long q0), .second, .val (.int p1), .val (.int p2), .val (.int ((8 : Int32) * p2))] [(.long ((q0.toUInt64 >>> (((8 : Int32) * p2) &&& 0x3f).toInt64.toUInt64).toInt64))])) _
    refine X0.ldc2Long hx hown (mvT hZ (hw _ (List.mem_of_getElem? (i := 4) rfl))) (g := (mkF m 10 #[.val (.long q0), .second, .val (.int p1), .val (.int p2), .val (.int ((8 : Int32) * p2))] [(.long ((q0.toUInt64 >>> (((8 : Int32) * p2) &&& 0x3f).toInt64.toUInt64).toInt64))])) rfl (hb hby d2_10) _ ?_
    show Steps p.tables e below (s₁.setTop (mkF m 13 #[.val (.long q0), .second, .val (.int p1), .val (.int p2), .val (.int ((8 : Int32) * p2))] [(.long (255 : Int64)), (.long ((q0.toUInt64 >>> (((8 : Int32) * p2) &&& 0x3f).toInt64.toUInt64).toInt64))])) _
    refine XS.land X0.here hx rfl (hb hby d2_13) rfl ?_
    show Steps p.tables e below (s₁.setTop (mkF m 14 #[.val (.long q0), .second, .val (.int p1), .val (.int p2), .val (.int ((8 : Int32) * p2))] [(.long (((q0.toUInt64 >>> (((8 : Int32) * p2) &&& 0x3f).toInt64.toUInt64).toInt64) &&& (255 : Int64)))])) _
    refine XS.iloadN X0.here hx rfl (hb hby d2_14) rfl ?_
    show Steps p.tables e below (s₁.setTop (mkF m 15 #[.val (.long q0), .second, .val (.int p1), .val (.int p2), .val (.int ((8 : Int32) * p2))] [(.int p1), (.long (((q0.toUInt64 >>> (((8 : Int32) * p2) &&& 0x3f).toInt64.toUInt64).toInt64) &&& (255 : Int64)))])) _
    refine XS.i2l X0.here hx rfl (hb hby d2_15) rfl ?_
    show Steps p.tables e below (s₁.setTop (mkF m 16 #[.val (.long q0), .second, .val (.int p1), .val (.int p2), .val (.int ((8 : Int32) * p2))] [(.long (p1.toInt64)), (.long (((q0.toUInt64 >>> (((8 : Int32) * p2) &&& 0x3f).toInt64.toUInt64).toInt64) &&& (255 : Int64)))])) _
    refine XS.lcmp X0.here hx rfl (hb hby d2_16) rfl ?_
    refine own_via (s₁.setTop (mkF m 30 #[.val (.long q0), .second, .val (.int p1), .val (.int p2), .val (.int ((8 : Int32) * p2))] [(.long (if (((q0.toUInt64 >>> (((8 : Int32) * p2) &&& 0x3f).toInt64.toUInt64).toInt64) &&& (255 : Int64)) = (p1.toInt64) then ((128 : Int64) <<< (((8 : Int32) * p2) &&& 0x3f).toInt64) else (0 : Int64)))])) (fun k => ?_) ?_
    · by_cases hc17 : (((q0.toUInt64 >>> (((8 : Int32) * p2) &&& 0x3f).toInt64.toUInt64).toInt64) &&& (255 : Int64)) = (p1.toInt64)
      · show Steps p.tables e below (s₁.setTop (mkF m 17 #[.val (.long q0), .second, .val (.int p1), .val (.int p2), .val (.int ((8 : Int32) * p2))] [(.int (lcmpW (((q0.toUInt64 >>> (((8 : Int32) * p2) &&& 0x3f).toInt64.toUInt64).toInt64) &&& (255 : Int64)) (p1.toInt64)))])) _
        refine XS.ifNo X0.here hx rfl (hb hby d2_17) rfl ((if0 _ _).trans (teq ((lw_eq _ _).mpr hc17)).2) ?_
        show Steps p.tables e below (s₁.setTop (mkF m 20 #[.val (.long q0), .second, .val (.int p1), .val (.int p2), .val (.int ((8 : Int32) * p2))] [])) _
        refine X0.ldc2Long hx hown (mvT hZ (hw _ (List.mem_of_getElem? (i := 10) rfl))) (g := (mkF m 20 #[.val (.long q0), .second, .val (.int p1), .val (.int p2), .val (.int ((8 : Int32) * p2))] [])) rfl (hb hby d2_20) _ ?_
        show Steps p.tables e below (s₁.setTop (mkF m 23 #[.val (.long q0), .second, .val (.int p1), .val (.int p2), .val (.int ((8 : Int32) * p2))] [(.long (128 : Int64))])) _
        refine XS.iload X0.here hx rfl (hb hby d2_23) rfl ?_
        show Steps p.tables e below (s₁.setTop (mkF m 25 #[.val (.long q0), .second, .val (.int p1), .val (.int p2), .val (.int ((8 : Int32) * p2))] [(.int ((8 : Int32) * p2)), (.long (128 : Int64))])) _
        refine XS.lshl X0.here hx rfl (hb hby d2_25) rfl ?_
        show Steps p.tables e below (s₁.setTop (mkF m 26 #[.val (.long q0), .second, .val (.int p1), .val (.int p2), .val (.int ((8 : Int32) * p2))] [(.long ((128 : Int64) <<< (((8 : Int32) * p2) &&& 0x3f).toInt64))])) _
        refine XS.goto X0.here hx rfl (pc0 := 26) (pc' := 30) rfl (hb hby d2_26) (by decide) (by decide) ?_
        try simp only [if_pos hc17] at k
        exact k
      · show Steps p.tables e below (s₁.setTop (mkF m 17 #[.val (.long q0), .second, .val (.int p1), .val (.int p2), .val (.int ((8 : Int32) * p2))] [(.int (lcmpW (((q0.toUInt64 >>> (((8 : Int32) * p2) &&& 0x3f).toInt64.toUInt64).toInt64) &&& (255 : Int64)) (p1.toInt64)))])) _
        refine XS.ifYes X0.here hx rfl (pc0 := 17) (pc' := 29) rfl (hb hby d2_17) rfl ((if0 _ _).trans (feq (mt (lw_eq _ _).mp hc17)).2) (by decide) (by decide) ?_
        show Steps p.tables e below (s₁.setTop (mkF m 29 #[.val (.long q0), .second, .val (.int p1), .val (.int p2), .val (.int ((8 : Int32) * p2))] [])) _
        refine XS.lconst X0.here hx rfl (hb hby d2_29) ?_
        try simp only [if_neg hc17] at k
        exact k
    show Steps p.tables e below (s₁.setTop (mkF m 30 #[.val (.long q0), .second, .val (.int p1), .val (.int p2), .val (.int ((8 : Int32) * p2))] [(.long (if (((q0.toUInt64 >>> (((8 : Int32) * p2) &&& 0x3f).toInt64.toUInt64).toInt64) &&& (255 : Int64)) = (p1.toInt64) then ((128 : Int64) <<< (((8 : Int32) * p2) &&& 0x3f).toInt64) else (0 : Int64)))])) _
    exact own_retJ X0 hx Bd.returns (hb hby d2_30) hr
  · show Qrm2 Z q0 p1 p2 h0 n0 _ s₁.heap _
    rw [e0]
    exact ⟨rfl, N0, rfl⟩
theorem d3_0 : decode prog_12_method_4_code 0 = .ok (.lload_n 0, 1) := by decide +kernel
theorem d3_1 : decode prog_12_method_4_code 1 = .ok (.lload_n 2, 1) := by decide +kernel
theorem d3_2 : decode prog_12_method_4_code 2 = .ok (.lxor, 1) := by decide +kernel
theorem d3_3 : decode prog_12_method_4_code 3 = .ok (.lstore 4, 2) := by decide +kernel
theorem d3_5 : decode prog_12_method_4_code 5 = .ok (.lload 4, 2) := by decide +kernel
theorem d3_7 : decode prog_12_method_4_code 7 = .ok (.ldc2_w 25, 3) := by decide +kernel
theorem d3_10 : decode prog_12_method_4_code 10 = .ok (.land, 1) := by decide +kernel
theorem d3_11 : decode prog_12_method_4_code 11 = .ok (.ldc2_w 25, 3) := by decide +kernel
theorem d3_14 : decode prog_12_method_4_code 14 = .ok (.ladd, 1) := by decide +kernel
theorem d3_15 : decode prog_12_method_4_code 15 = .ok (.lload 4, 2) := by decide +kernel
theorem d3_17 : decode prog_12_method_4_code 17 = .ok (.lor, 1) := by decide +kernel
theorem d3_18 : decode prog_12_method_4_code 18 = .ok (.lstore 6, 2) := by decide +kernel
theorem d3_20 : decode prog_12_method_4_code 20 = .ok (.lload 6, 2) := by decide +kernel
theorem d3_22 : decode prog_12_method_4_code 22 = .ok (.ldc2_w 27, 3) := by decide +kernel
theorem d3_25 : decode prog_12_method_4_code 25 = .ok (.lxor, 1) := by decide +kernel
theorem d3_26 : decode prog_12_method_4_code 26 = .ok (.ldc2_w 29, 3) := by decide +kernel
theorem d3_29 : decode prog_12_method_4_code 29 = .ok (.land, 1) := by decide +kernel
theorem d3_30 : decode prog_12_method_4_code 30 = .ok (.lreturn, 1) := by decide +kernel
theorem pn_3 : plainName "com/example/epitome/epitome/csv/PackedBytes" = true := by first | (simp [plainName, overriddenIn]; done) | decide +kernel
theorem ef_rm3 (m : MethodId) (q0 : Int64) (q1 : Int64) : entryFrame m #[(.long q0), (.long q1)] 8 = mkF m 0 #[.val (.long q0), .second, .val (.long q1), .second, .unset, .unset, .unset, .unset] [] := by first | (simp [entryFrame, mkF, argsToLocals, Value.category]; done) | rfl
def Qrm3 (Z : State) (q0 : Int64) (q1 : Int64) (h0 : Heap) (n0 : Nat) (v : Option Value) (h : Heap) (L : List Loc) : Prop := v = some (.long ((((((q0 ^^^ q1) &&& (9187201950435737471 : Int64)) + (9187201950435737471 : Int64)) ||| (q0 ^^^ q1)) ^^^ (-1 : Int64)) &&& (-9187201950435737472 : Int64))) ∧ Fr n0 L ∧ h = h0
set_option maxRecDepth 65536 in
set_option maxHeartbeats 40000000 in
theorem rm3 (l : Launch) (Z : State) (A0 : Array Value) (hw : ∀ d ∈ tables_1, d.before A0 Z = true) (ws : List Jvm.Cond) (q0 : Int64) (q1 : Int64) (h0 : Heap) (n0 : Nat) (Z0 : n0 ≤ h0.size) :
    MetFree l (⟨"com/example/epitome/epitome/csv/PackedBytes", "equal", "(JJ)J"⟩ : MethodName) (head1 (Jvm.Cond.code (⟨"com/example/epitome/epitome/csv/PackedBytes", "equal", "(JJ)J"⟩ : MethodName) prog_12_method_4_code 8 (some .long) :: ws) ({ frames := 0, cells := 0, slots := 0, locals := 0 } : Room)) (fun a U => a = #[(.long q0), (.long q1)] ∧ Z.Warmed39 U.vm ∧ U.heap = h0) (fun _ _ _ _ _ => True) (fun _ U o U' => ∃ v L, o = .returned v ∧ Qrm3 Z q0 q1 h0 n0 v U'.heap L ∧ FrameEnd U o U' L ({ frames := 0, cells := 0, slots := 0, locals := 0 } : Room).cells ({ frames := 0, cells := 0, slots := 0, locals := 0 } : Room).slots) := by
  refine MetFree.of_bodySF (plainFor_of_name pn_3) hisR ?_
  intro p e s m args below meth c s₁ Bd hml0 hP hK
  obtain ⟨rfl, hZ, hh⟩ := hP
  have hx := Bd.exec
  have hby := Bd.bytes
  have hml : c.maxLocals = 8 := hml0
  have hown : s.vm.findClass "com/example/epitome/epitome/csv/PackedBytes" = some m.cls := findClass_of_methodNamed Bd.named
  have hnm := (name_of_methodNamed Bd.named Bd.method).1
  have X0 : Stand p l e ({ frames := 0, cells := 0, slots := 0, locals := 0 } : Room) s m #[(.long q0), (.long q1)] below meth c s₁ [] 0 0 := Stand.of_body Bd
  have e0 : s₁.heap = h0 := by rw [← hh, Bd.state]; rfl
  have N0 := Fr.nil n0
  have K0 : Keep h0 h0 [] := Keep.refl _ _
  have pre0 : ∀ t, Steps p.tables e below (s₁.setTop (mkF m 0 #[.val (.long q0), .second, .val (.long q1), .second, .unset, .unset, .unset, .unset] [])) t → Steps p.tables e below (s₁.setTop (entryFrame m #[(.long q0), (.long q1)] 8)) t := fun t k => castTop (ef_rm3 m q0 q1) k
  obtain ⟨fs, hr, hrun, hended, hW, hsame⟩ := X0.leave (v := some (.long ((((((q0 ^^^ q1) &&& (9187201950435737471 : Int64)) + (9187201950435737471 : Int64)) ||| (q0 ^^^ q1)) ^^^ (-1 : Int64)) &&& (-9187201950435737472 : Int64)))) (fun h => by rw [Bd.returns] at h; cases h)
  refine ⟨_, _, pre0 _ ?_, hrun, hended, _, _, rfl, ?_, ⟨_, rfl⟩, hW, hsame.mono (by decide) (by decide)⟩
  · show Steps p.tables e below (s₁.setTop (mkF m 0 #[.val (.long q0), .second, .val (.long q1), .second, .unset, .unset, .unset, .unset] [])) _
    refine XS.lloadN X0.here hx rfl (hb hby d3_0) rfl ?_
    show Steps p.tables e below (s₁.setTop (mkF m 1 #[.val (.long q0), .second, .val (.long q1), .second, .unset, .unset, .unset, .unset] [(.long q0)])) _
    refine XS.lloadN X0.here hx rfl (hb hby d3_1) rfl ?_
    show Steps p.tables e below (s₁.setTop (mkF m 2 #[.val (.long q0), .second, .val (.long q1), .second, .unset, .unset, .unset, .unset] [(.long q1), (.long q0)])) _
    refine XS.lxor X0.here hx rfl (hb hby d3_2) rfl ?_
    show Steps p.tables e below (s₁.setTop (mkF m 3 #[.val (.long q0), .second, .val (.long q1), .second, .unset, .unset, .unset, .unset] [(.long (q0 ^^^ q1))])) _
    refine XS.lstore X0.here hx rfl (hb hby d3_3) rfl (l' := #[.val (.long q0), .second, .val (.long q1), .second, .val (.long (q0 ^^^ q1)), .second, .unset, .unset]) rfl ?_
    show Steps p.tables e below (s₁.setTop (mkF m 5 #[.val (.long q0), .second, .val (.long q1), .second, .val (.long (q0 ^^^ q1)), .second, .unset, .unset] [])) _
    refine XS.lload X0.here hx rfl (hb hby d3_5) rfl ?_
    show Steps p.tables e below (s₁.setTop (mkF m 7 #[.val (.long q0), .second, .val (.long q1), .second, .val (.long (q0 ^^^ q1)), .second, .unset, .unset] [(.long (q0 ^^^ q1))])) _
    refine X0.ldc2Long hx hown (mvT hZ (hw _ (List.mem_of_getElem? (i := 15) rfl))) (g := (mkF m 7 #[.val (.long q0), .second, .val (.long q1), .second, .val (.long (q0 ^^^ q1)), .second, .unset, .unset] [(.long (q0 ^^^ q1))])) rfl (hb hby d3_7) _ ?_
    show Steps p.tables e below (s₁.setTop (mkF m 10 #[.val (.long q0), .second, .val (.long q1), .second, .val (.long (q0 ^^^ q1)), .second, .unset, .unset] [(.long (9187201950435737471 : Int64)), (.long (q0 ^^^ q1))])) _
    refine XS.land X0.here hx rfl (hb hby d3_10) rfl ?_
    show Steps p.tables e below (s₁.setTop (mkF m 11 #[.val (.long q0), .second, .val (.long q1), .second, .val (.long (q0 ^^^ q1)), .second, .unset, .unset] [(.long ((q0 ^^^ q1) &&& (9187201950435737471 : Int64)))])) _
    refine X0.ldc2Long hx hown (mvT hZ (hw _ (List.mem_of_getElem? (i := 15) rfl))) (g := (mkF m 11 #[.val (.long q0), .second, .val (.long q1), .second, .val (.long (q0 ^^^ q1)), .second, .unset, .unset] [(.long ((q0 ^^^ q1) &&& (9187201950435737471 : Int64)))])) rfl (hb hby d3_11) _ ?_
    show Steps p.tables e below (s₁.setTop (mkF m 14 #[.val (.long q0), .second, .val (.long q1), .second, .val (.long (q0 ^^^ q1)), .second, .unset, .unset] [(.long (9187201950435737471 : Int64)), (.long ((q0 ^^^ q1) &&& (9187201950435737471 : Int64)))])) _
    refine XS.ladd X0.here hx rfl (hb hby d3_14) rfl ?_
    show Steps p.tables e below (s₁.setTop (mkF m 15 #[.val (.long q0), .second, .val (.long q1), .second, .val (.long (q0 ^^^ q1)), .second, .unset, .unset] [(.long (((q0 ^^^ q1) &&& (9187201950435737471 : Int64)) + (9187201950435737471 : Int64)))])) _
    refine XS.lload X0.here hx rfl (hb hby d3_15) rfl ?_
    show Steps p.tables e below (s₁.setTop (mkF m 17 #[.val (.long q0), .second, .val (.long q1), .second, .val (.long (q0 ^^^ q1)), .second, .unset, .unset] [(.long (q0 ^^^ q1)), (.long (((q0 ^^^ q1) &&& (9187201950435737471 : Int64)) + (9187201950435737471 : Int64)))])) _
    refine XS.lor X0.here hx rfl (hb hby d3_17) rfl ?_
    show Steps p.tables e below (s₁.setTop (mkF m 18 #[.val (.long q0), .second, .val (.long q1), .second, .val (.long (q0 ^^^ q1)), .second, .unset, .unset] [(.long ((((q0 ^^^ q1) &&& (9187201950435737471 : Int64)) + (9187201950435737471 : Int64)) ||| (q0 ^^^ q1)))])) _
    refine XS.lstore X0.here hx rfl (hb hby d3_18) rfl (l' := #[.val (.long q0), .second, .val (.long q1), .second, .val (.long (q0 ^^^ q1)), .second, .val (.long ((((q0 ^^^ q1) &&& (9187201950435737471 : Int64)) + (9187201950435737471 : Int64)) ||| (q0 ^^^ q1))), .second]) rfl ?_
    show Steps p.tables e below (s₁.setTop (mkF m 20 #[.val (.long q0), .second, .val (.long q1), .second, .val (.long (q0 ^^^ q1)), .second, .val (.long ((((q0 ^^^ q1) &&& (9187201950435737471 : Int64)) + (9187201950435737471 : Int64)) ||| (q0 ^^^ q1))), .second] [])) _
    refine XS.lload X0.here hx rfl (hb hby d3_20) rfl ?_
    show Steps p.tables e below (s₁.setTop (mkF m 22 #[.val (.long q0), .second, .val (.long q1), .second, .val (.long (q0 ^^^ q1)), .second, .val (.long ((((q0 ^^^ q1) &&& (9187201950435737471 : Int64)) + (9187201950435737471 : Int64)) ||| (q0 ^^^ q1))), .second] [(.long ((((q0 ^^^ q1) &&& (9187201950435737471 : Int64)) + (9187201950435737471 : Int64)) ||| (q0 ^^^ q1)))])) _
    refine X0.ldc2Long hx hown (mvT hZ (hw _ (List.mem_of_getElem? (i := 16) rfl))) (g := (mkF m 22 #[.val (.long q0), .second, .val (.long q1), .second, .val (.long (q0 ^^^ q1)), .second, .val (.long ((((q0 ^^^ q1) &&& (9187201950435737471 : Int64)) + (9187201950435737471 : Int64)) ||| (q0 ^^^ q1))), .second] [(.long ((((q0 ^^^ q1) &&& (9187201950435737471 : Int64)) + (9187201950435737471 : Int64)) ||| (q0 ^^^ q1)))])) rfl (hb hby d3_22) _ ?_
    show Steps p.tables e below (s₁.setTop (mkF m 25 #[.val (.long q0), .second, .val (.long q1), .second, .val (.long (q0 ^^^ q1)), .second, .val (.long ((((q0 ^^^ q1) &&& (9187201950435737471 : Int64)) + (9187201950435737471 : Int64)) ||| (q0 ^^^ q1))), .second] [(.long (-1 : Int64)), (.long ((((q0 ^^^ q1) &&& (9187201950435737471 : Int64)) + (9187201950435737471 : Int64)) ||| (q0 ^^^ q1)))])) _
    refine XS.lxor X0.here hx rfl (hb hby d3_25) rfl ?_
    show Steps p.tables e below (s₁.setTop (mkF m 26 #[.val (.long q0), .second, .val (.long q1), .second, .val (.long (q0 ^^^ q1)), .second, .val (.long ((((q0 ^^^ q1) &&& (9187201950435737471 : Int64)) + (9187201950435737471 : Int64)) ||| (q0 ^^^ q1))), .second] [(.long (((((q0 ^^^ q1) &&& (9187201950435737471 : Int64)) + (9187201950435737471 : Int64)) ||| (q0 ^^^ q1)) ^^^ (-1 : Int64)))])) _
    refine X0.ldc2Long hx hown (mvT hZ (hw _ (List.mem_of_getElem? (i := 17) rfl))) (g := (mkF m 26 #[.val (.long q0), .second, .val (.long q1), .second, .val (.long (q0 ^^^ q1)), .second, .val (.long ((((q0 ^^^ q1) &&& (9187201950435737471 : Int64)) + (9187201950435737471 : Int64)) ||| (q0 ^^^ q1))), .second] [(.long (((((q0 ^^^ q1) &&& (9187201950435737471 : Int64)) + (9187201950435737471 : Int64)) ||| (q0 ^^^ q1)) ^^^ (-1 : Int64)))])) rfl (hb hby d3_26) _ ?_
    show Steps p.tables e below (s₁.setTop (mkF m 29 #[.val (.long q0), .second, .val (.long q1), .second, .val (.long (q0 ^^^ q1)), .second, .val (.long ((((q0 ^^^ q1) &&& (9187201950435737471 : Int64)) + (9187201950435737471 : Int64)) ||| (q0 ^^^ q1))), .second] [(.long (-9187201950435737472 : Int64)), (.long (((((q0 ^^^ q1) &&& (9187201950435737471 : Int64)) + (9187201950435737471 : Int64)) ||| (q0 ^^^ q1)) ^^^ (-1 : Int64)))])) _
    refine XS.land X0.here hx rfl (hb hby d3_29) rfl ?_
    show Steps p.tables e below (s₁.setTop (mkF m 30 #[.val (.long q0), .second, .val (.long q1), .second, .val (.long (q0 ^^^ q1)), .second, .val (.long ((((q0 ^^^ q1) &&& (9187201950435737471 : Int64)) + (9187201950435737471 : Int64)) ||| (q0 ^^^ q1))), .second] [(.long ((((((q0 ^^^ q1) &&& (9187201950435737471 : Int64)) + (9187201950435737471 : Int64)) ||| (q0 ^^^ q1)) ^^^ (-1 : Int64)) &&& (-9187201950435737472 : Int64)))])) _
    exact own_retJ X0 hx Bd.returns (hb hby d3_30) hr
  · show Qrm3 Z q0 q1 h0 n0 _ s₁.heap _
    rw [e0]
    exact ⟨rfl, N0, rfl⟩
def own_pk : List Nat → Nat
  | [] => 0
  | d :: r => d + 256 * own_pk r
theorem own_and1 {a b x y : Nat} (ha : a < 256) (hb : b < 256) : ((a + 256 * x) &&& (b + 256 * y)) = (a &&& b) + 256 * (x &&& y) := by
  have h1 : ((a + 256 * x) &&& (b + 256 * y)) % 2 ^ 8 = (a &&& b) := by
    rw [Nat.and_mod_two_pow]; congr 1 <;> omega
  have h2 : ((a + 256 * x) &&& (b + 256 * y)) / 2 ^ 8 = (x &&& y) := by
    rw [Nat.and_div_two_pow]; congr 1 <;> omega
  have e : (2 ^ 8 : Nat) = 256 := by decide
  rw [e] at h1 h2; omega
theorem own_or1 {a b x y : Nat} (ha : a < 256) (hb : b < 256) : ((a + 256 * x) ||| (b + 256 * y)) = (a ||| b) + 256 * (x ||| y) := by
  have h1 : ((a + 256 * x) ||| (b + 256 * y)) % 2 ^ 8 = (a ||| b) := by
    rw [Nat.or_mod_two_pow]; congr 1 <;> omega
  have h2 : ((a + 256 * x) ||| (b + 256 * y)) / 2 ^ 8 = (x ||| y) := by
    rw [Nat.or_div_two_pow]; congr 1 <;> omega
  have e : (2 ^ 8 : Nat) = 256 := by decide
  rw [e] at h1 h2; omega
theorem own_xor1 {a b x y : Nat} (ha : a < 256) (hb : b < 256) : ((a + 256 * x) ^^^ (b + 256 * y)) = (a ^^^ b) + 256 * (x ^^^ y) := by
  have h1 : ((a + 256 * x) ^^^ (b + 256 * y)) % 2 ^ 8 = (a ^^^ b) := by
    rw [Nat.xor_mod_two_pow]; congr 1 <;> omega
  have h2 : ((a + 256 * x) ^^^ (b + 256 * y)) / 2 ^ 8 = (x ^^^ y) := by
    rw [Nat.xor_div_two_pow]; congr 1 <;> omega
  have e : (2 ^ 8 : Nat) = 256 := by decide
  rw [e] at h1 h2; omega
theorem own_xlt {a b : Nat} (ha : a < 256) (hb : b < 256) : (a ^^^ b) < 256 := Nat.xor_lt_two_pow (n := 8) ha hb
theorem own_olt {a b : Nat} (ha : a < 256) (hb : b < 256) : (a ||| b) < 256 := Nat.or_lt_two_pow (n := 8) ha hb
/-- one byte: 128 where it is 0 -/
def own_g (z : Nat) : Nat := ((((z &&& 127) + 127) ||| z) ^^^ 255) &&& 128
theorem own_g_eq : ∀ z : Nat, z < 256 → own_g z = if z = 0 then 128 else 0 := by decide +kernel
theorem own_g_a : ∀ z : Nat, z < 256 → (z &&& 127) + 127 < 256 := by decide +kernel
/-- the whole word, a digit at a time -/
theorem own_f1 {z n l w h : Nat} (hz : z < 256) : ((((((z + 256 * n) &&& (127 + 256 * l)) + (127 + 256 * l)) ||| (z + 256 * n)) ^^^ (255 + 256 * w)) &&& (128 + 256 * h)) = own_g z + 256 * (((((n &&& l) + l) ||| n) ^^^ w) &&& h) := by
  have a1 := own_g_a z hz
  rw [own_and1 hz (by decide)]
  have e : (z &&& 127) + 256 * (n &&& l) + (127 + 256 * l) = ((z &&& 127) + 127) + 256 * ((n &&& l) + l) := by omega
  rw [e, own_or1 a1 hz, own_xor1 (own_olt a1 hz) (by decide), own_and1 (own_xlt (own_olt a1 hz) (by decide)) (by decide)]
  rfl
theorem own_f0 : (((((0 : Nat) &&& 0) + 0) ||| 0) ^^^ 0) &&& 0 = 0 := by decide
theorem own_f8 {z0 z1 z2 z3 z4 z5 z6 z7 : Nat} (h0 : z0 < 256) (h1 : z1 < 256) (h2 : z2 < 256) (h3 : z3 < 256) (h4 : z4 < 256) (h5 : z5 < 256) (h6 : z6 < 256) (h7 : z7 < 256) :
    (((((own_pk [z0, z1, z2, z3, z4, z5, z6, z7] &&& 9187201950435737471) + 9187201950435737471) ||| own_pk [z0, z1, z2, z3, z4, z5, z6, z7]) ^^^ 18446744073709551615) &&& 9259542123273814144) = own_pk [own_g z0, own_g z1, own_g z2, own_g z3, own_g z4, own_g z5, own_g z6, own_g z7] := by
  have el : (9187201950435737471 : Nat) = (127 + 256 * (127 + 256 * (127 + 256 * (127 + 256 * (127 + 256 * (127 + 256 * (127 + 256 * (127 + 256 * 0)))))))) := by decide
  have ew : (18446744073709551615 : Nat) = (255 + 256 * (255 + 256 * (255 + 256 * (255 + 256 * (255 + 256 * (255 + 256 * (255 + 256 * (255 + 256 * 0)))))))) := by decide
  have eh : (9259542123273814144 : Nat) = (128 + 256 * (128 + 256 * (128 + 256 * (128 + 256 * (128 + 256 * (128 + 256 * (128 + 256 * (128 + 256 * 0)))))))) := by decide
  rw [el, ew, eh]
  simp only [own_pk]
  rw [own_f1 h0, own_f1 h1, own_f1 h2, own_f1 h3, own_f1 h4, own_f1 h5, own_f1 h6, own_f1 h7, own_f0]
theorem own_x8 {a0 a1 a2 a3 a4 a5 a6 a7 b : Nat} (hb : b < 256) (h0 : a0 < 256) (h1 : a1 < 256) (h2 : a2 < 256) (h3 : a3 < 256) (h4 : a4 < 256) (h5 : a5 < 256) (h6 : a6 < 256) (h7 : a7 < 256) :
    (own_pk [a0, a1, a2, a3, a4, a5, a6, a7] ^^^ own_pk [b, b, b, b, b, b, b, b]) = own_pk [a0 ^^^ b, a1 ^^^ b, a2 ^^^ b, a3 ^^^ b, a4 ^^^ b, a5 ^^^ b, a6 ^^^ b, a7 ^^^ b] := by
  simp only [own_pk]
  rw [own_xor1 h0 hb, own_xor1 h1 hb, own_xor1 h2 hb, own_xor1 h3 hb, own_xor1 h4 hb, own_xor1 h5 hb, own_xor1 h6 hb, own_xor1 h7 hb]
  simp
theorem own_or8 {a0 a1 a2 a3 a4 a5 a6 a7 b0 b1 b2 b3 b4 b5 b6 b7 : Nat} (h0 : a0 < 256) (h1 : a1 < 256) (h2 : a2 < 256) (h3 : a3 < 256) (h4 : a4 < 256) (h5 : a5 < 256) (h6 : a6 < 256) (h7 : a7 < 256) (k0 : b0 < 256) (k1 : b1 < 256) (k2 : b2 < 256) (k3 : b3 < 256) (k4 : b4 < 256) (k5 : b5 < 256) (k6 : b6 < 256) (k7 : b7 < 256) :
    (own_pk [a0, a1, a2, a3, a4, a5, a6, a7] ||| own_pk [b0, b1, b2, b3, b4, b5, b6, b7]) = own_pk [a0 ||| b0, a1 ||| b1, a2 ||| b2, a3 ||| b3, a4 ||| b4, a5 ||| b5, a6 ||| b6, a7 ||| b7] := by
  simp only [own_pk]
  rw [own_or1 h0 k0, own_or1 h1 k1, own_or1 h2 k2, own_or1 h3 k3, own_or1 h4 k4, own_or1 h5 k5, own_or1 h6 k6, own_or1 h7 k7]
  simp
theorem own_ors {d0 d1 d2 d3 d4 d5 d6 d7 : Nat} (h0 : d0 < 256) (h1 : d1 < 256) (h2 : d2 < 256) (h3 : d3 < 256) (h4 : d4 < 256) (h5 : d5 < 256) (h6 : d6 < 256) (h7 : d7 < 256) :
    (((((((d0 ||| (d1 * 256)) ||| (d2 * 65536)) ||| (d3 * 16777216)) ||| (d4 * 4294967296)) ||| (d5 * 1099511627776)) ||| (d6 * 281474976710656)) ||| (d7 * 72057594037927936)) = own_pk [d0, d1, d2, d3, d4, d5, d6, d7] := by
  have z : (0 : Nat) < 256 := by decide
  have e0 : d0 = own_pk [d0, 0, 0, 0, 0, 0, 0, 0] := by simp [own_pk]
  have e1 : d1 * 256 = own_pk [0, d1, 0, 0, 0, 0, 0, 0] := by simp only [own_pk, Nat.mul_zero, Nat.add_zero, Nat.zero_add, ← Nat.mul_assoc, Nat.reduceMul]; exact Nat.mul_comm _ _
  have e2 : d2 * 65536 = own_pk [0, 0, d2, 0, 0, 0, 0, 0] := by simp only [own_pk, Nat.mul_zero, Nat.add_zero, Nat.zero_add, ← Nat.mul_assoc, Nat.reduceMul]; exact Nat.mul_comm _ _
  have e3 : d3 * 16777216 = own_pk [0, 0, 0, d3, 0, 0, 0, 0] := by simp only [own_pk, Nat.mul_zero, Nat.add_zero, Nat.zero_add, ← Nat.mul_assoc, Nat.reduceMul]; exact Nat.mul_comm _ _
  have e4 : d4 * 4294967296 = own_pk [0, 0, 0, 0, d4, 0, 0, 0] := by simp only [own_pk, Nat.mul_zero, Nat.add_zero, Nat.zero_add, ← Nat.mul_assoc, Nat.reduceMul]; exact Nat.mul_comm _ _
  have e5 : d5 * 1099511627776 = own_pk [0, 0, 0, 0, 0, d5, 0, 0] := by simp only [own_pk, Nat.mul_zero, Nat.add_zero, Nat.zero_add, ← Nat.mul_assoc, Nat.reduceMul]; exact Nat.mul_comm _ _
  have e6 : d6 * 281474976710656 = own_pk [0, 0, 0, 0, 0, 0, d6, 0] := by simp only [own_pk, Nat.mul_zero, Nat.add_zero, Nat.zero_add, ← Nat.mul_assoc, Nat.reduceMul]; exact Nat.mul_comm _ _
  have e7 : d7 * 72057594037927936 = own_pk [0, 0, 0, 0, 0, 0, 0, d7] := by simp only [own_pk, Nat.mul_zero, Nat.add_zero, Nat.zero_add, ← Nat.mul_assoc, Nat.reduceMul]; exact Nat.mul_comm _ _
  rw [e1, e2, e3, e4, e5, e6, e7]
  conv => lhs; rw [e0]
  rw [own_or8 h0 z z z z z z z z h1 z z z z z z]
  simp only [Nat.or_zero, Nat.zero_or]
  rw [own_or8 h0 h1 z z z z z z z z h2 z z z z z]
  simp only [Nat.or_zero, Nat.zero_or]
  rw [own_or8 h0 h1 h2 z z z z z z z z h3 z z z z]
  simp only [Nat.or_zero, Nat.zero_or]
  rw [own_or8 h0 h1 h2 h3 z z z z z z z z h4 z z z]
  simp only [Nat.or_zero, Nat.zero_or]
  rw [own_or8 h0 h1 h2 h3 h4 z z z z z z z z h5 z z]
  simp only [Nat.or_zero, Nat.zero_or]
  rw [own_or8 h0 h1 h2 h3 h4 h5 z z z z z z z z h6 z]
  simp only [Nat.or_zero, Nat.zero_or]
  rw [own_or8 h0 h1 h2 h3 h4 h5 h6 z z z z z z z z h7]
  simp only [Nat.or_zero, Nat.zero_or]
theorem own_word (W : Nat) (h : W < 18446744073709551616) : W = own_pk [W % 256, W / 256 % 256, W / 65536 % 256, W / 16777216 % 256, W / 4294967296 % 256, W / 1099511627776 % 256, W / 281474976710656 % 256, W / 72057594037927936 % 256] := by
  simp only [own_pk]; omega
theorem own_gx {a b : Nat} (ha : a < 256) (hb : b < 256) : own_g (a ^^^ b) = if a = b then 128 else 0 := by
  rw [own_g_eq _ (own_xlt ha hb)]
  by_cases h : a = b
  · subst h; simp
  · have : (a ^^^ b) ≠ 0 := fun q => h (by
      have z := congrArg (· ^^^ b) q
      simpa [Nat.xor_assoc] using z)
    simp [h, this]
theorem own_bitN (w : Int64) (b : Int32) (B : Nat) (hb : b.toInt = B) (hB : B < 256) (q : Int32) (k : Nat) (hk : q.toBitVec.toNat % 64 = k) (d : Nat) (hd : ((128 : Int64) <<< (q &&& 0x3f).toInt64).toBitVec.toNat = 128 * d) (hw : (((w.toUInt64 >>> (q &&& 0x3f).toInt64.toUInt64).toInt64).toInt) % 256 = ((w.toBitVec.toNat / d : Nat) : Int) % 256) :
    (if (((w.toUInt64 >>> (q &&& 0x3f).toInt64.toUInt64).toInt64) &&& (255 : Int64)) = (b.toInt64) then ((128 : Int64) <<< (q &&& 0x3f).toInt64) else (0 : Int64)).toBitVec.toNat = (if w.toBitVec.toNat / d % 256 = B then 128 else 0) * d := by
  have e : ((((w.toUInt64 >>> (q &&& 0x3f).toInt64.toUInt64).toInt64) &&& (255 : Int64)) = (b.toInt64)) ↔ w.toBitVec.toNat / d % 256 = B := by
    rw [← Int64.toInt_inj, c_i2l, hb, c_maskL _ 255 8 (by decide) (by decide)]
    have e3 : ((2 ^ 8 : Nat) : Int) = 256 := by decide
    rw [e3, hw]
    omega
  simp only [e]
  split
  · rw [hd]
  · simp
theorem own_nn (x : Int64) : ((x.toBitVec.toNat : Nat) : Int) = x.toInt % 18446744073709551616 := by
  have h : x.toInt = x.toBitVec.toInt := rfl
  rw [h, BitVec.toInt_eq_toNat_bmod]
  have := x.toBitVec.isLt
  have b := bm64 (x.toBitVec.toNat : Int)
  omega
theorem own_hw (w : Int64) (q : Int32) (k : Nat) (hk : q.toBitVec.toNat % 64 = k) (h0 : 0 < k) (d : Nat) (hd : 2 ^ k = d) : (((w.toUInt64 >>> (q &&& 0x3f).toInt64.toUInt64).toInt64).toInt) % 256 = ((w.toBitVec.toNat / d : Nat) : Int) % 256 := by
  have a := c_lushr w q k hk h0
  rw [a, ← own_nn, hd]
  omega
theorem own_hw0 (w : Int64) : (((w.toUInt64 >>> (((8 : Int32) * (0 : Int32)) &&& 0x3f).toInt64.toUInt64).toInt64).toInt) % 256 = ((w.toBitVec.toNat / 1 : Nat) : Int) % 256 := by
  have e : (((8 : Int32) * (0 : Int32)) &&& 0x3f).toInt64.toUInt64 = 0 := by decide
  rw [e]
  have e2 : (w.toUInt64 >>> 0).toInt64 = w := by simp
  rw [e2, Nat.div_one]
  have := own_nn w
  omega
theorem own_R (b : Int32) (B : Nat) (hB : b.toInt = B) (hB2 : B < 256) : ((b.toInt64) * (72340172838076673 : Int64)).toBitVec.toNat = own_pk [B, B, B, B, B, B, B, B] := by
  have a := c_lmul (b.toInt64) 72340172838076673
  have e : (72340172838076673 : Int64).toInt = 72340172838076673 := by decide
  rw [c_i2l, e, hB] at a
  have c := own_nn ((b.toInt64) * (72340172838076673 : Int64))
  have d : own_pk [B, B, B, B, B, B, B, B] = B * 72340172838076673 := by
    simp only [own_pk]; omega
  rw [d]
  omega
theorem own_dl {P : Prop} [Decidable P] : (if P then 128 else 0) < 256 := by split <;> decide
theorem own_lhs (W B : Nat) (hW0 : W < 18446744073709551616) (hB2 : B < 256) : ((((((W ^^^ own_pk [B, B, B, B, B, B, B, B]) &&& 9187201950435737471) + 9187201950435737471) % 18446744073709551616) ||| (W ^^^ own_pk [B, B, B, B, B, B, B, B])) ^^^ 18446744073709551615) &&& 9259542123273814144 =
    own_pk [if W % 256 = B then 128 else 0, if W / 256 % 256 = B then 128 else 0, if W / 65536 % 256 = B then 128 else 0, if W / 16777216 % 256 = B then 128 else 0, if W / 4294967296 % 256 = B then 128 else 0, if W / 1099511627776 % 256 = B then 128 else 0, if W / 281474976710656 % 256 = B then 128 else 0, if W / 72057594037927936 % 256 = B then 128 else 0] := by
  have hW := own_word W hW0
  have m : ∀ x : Nat, x % 256 < 256 := fun x => Nat.mod_lt _ (by decide)
  have hX : (W ^^^ own_pk [B, B, B, B, B, B, B, B]) = own_pk [W % 256 ^^^ B, W / 256 % 256 ^^^ B, W / 65536 % 256 ^^^ B, W / 16777216 % 256 ^^^ B, W / 4294967296 % 256 ^^^ B, W / 1099511627776 % 256 ^^^ B, W / 281474976710656 % 256 ^^^ B, W / 72057594037927936 % 256 ^^^ B] := by
    have e := own_x8 (a0 := W % 256) (a1 := W / 256 % 256) (a2 := W / 65536 % 256) (a3 := W / 16777216 % 256) (a4 := W / 4294967296 % 256) (a5 := W / 1099511627776 % 256) (a6 := W / 281474976710656 % 256) (a7 := W / 72057594037927936 % 256) hB2 (m _) (m _) (m _) (m _) (m _) (m _) (m _) (m _)
    rw [← hW] at e
    exact e
  rw [hX]
  generalize hz0 : W % 256 ^^^ B = z0
  generalize hz1 : W / 256 % 256 ^^^ B = z1
  generalize hz2 : W / 65536 % 256 ^^^ B = z2
  generalize hz3 : W / 16777216 % 256 ^^^ B = z3
  generalize hz4 : W / 4294967296 % 256 ^^^ B = z4
  generalize hz5 : W / 1099511627776 % 256 ^^^ B = z5
  generalize hz6 : W / 281474976710656 % 256 ^^^ B = z6
  generalize hz7 : W / 72057594037927936 % 256 ^^^ B = z7
  have hm : ∀ y : Nat, ((y &&& 9187201950435737471) + 9187201950435737471) % 18446744073709551616 = (y &&& 9187201950435737471) + 9187201950435737471 := fun y => by
    have := Nat.and_le_right (n := y) (m := 9187201950435737471)
    apply Nat.mod_eq_of_lt
    omega
  rw [hm]
  have l0 : z0 < 256 := hz0 ▸ own_xlt (m _) hB2
  have l1 : z1 < 256 := hz1 ▸ own_xlt (m _) hB2
  have l2 : z2 < 256 := hz2 ▸ own_xlt (m _) hB2
  have l3 : z3 < 256 := hz3 ▸ own_xlt (m _) hB2
  have l4 : z4 < 256 := hz4 ▸ own_xlt (m _) hB2
  have l5 : z5 < 256 := hz5 ▸ own_xlt (m _) hB2
  have l6 : z6 < 256 := hz6 ▸ own_xlt (m _) hB2
  have l7 : z7 < 256 := hz7 ▸ own_xlt (m _) hB2
  have t := own_f8 l0 l1 l2 l3 l4 l5 l6 l7
  rw [t, ← hz0, ← hz1, ← hz2, ← hz3, ← hz4, ← hz5, ← hz6, ← hz7, own_gx (m _) hB2, own_gx (m _) hB2, own_gx (m _) hB2, own_gx (m _) hB2, own_gx (m _) hB2, own_gx (m _) hB2, own_gx (m _) hB2, own_gx (m _) hB2]
theorem own_Rn (w : Int64) (b : Int32) (B : Nat) (hB : b.toInt = B) (hB2 : B < 256) :
    (((((((((if (((w.toUInt64 >>> (((8 : Int32) * (0 : Int32)) &&& 0x3f).toInt64.toUInt64).toInt64) &&& (255 : Int64)) = (b.toInt64) then ((128 : Int64) <<< (((8 : Int32) * (0 : Int32)) &&& 0x3f).toInt64) else (0 : Int64)) ||| (if (((w.toUInt64 >>> (((8 : Int32) * (1 : Int32)) &&& 0x3f).toInt64.toUInt64).toInt64) &&& (255 : Int64)) = (b.toInt64) then ((128 : Int64) <<< (((8 : Int32) * (1 : Int32)) &&& 0x3f).toInt64) else (0 : Int64))) ||| (if (((w.toUInt64 >>> (((8 : Int32) * (2 : Int32)) &&& 0x3f).toInt64.toUInt64).toInt64) &&& (255 : Int64)) = (b.toInt64) then ((128 : Int64) <<< (((8 : Int32) * (2 : Int32)) &&& 0x3f).toInt64) else (0 : Int64))) ||| (if (((w.toUInt64 >>> (((8 : Int32) * (3 : Int32)) &&& 0x3f).toInt64.toUInt64).toInt64) &&& (255 : Int64)) = (b.toInt64) then ((128 : Int64) <<< (((8 : Int32) * (3 : Int32)) &&& 0x3f).toInt64) else (0 : Int64))) ||| (if (((w.toUInt64 >>> (((8 : Int32) * (4 : Int32)) &&& 0x3f).toInt64.toUInt64).toInt64) &&& (255 : Int64)) = (b.toInt64) then ((128 : Int64) <<< (((8 : Int32) * (4 : Int32)) &&& 0x3f).toInt64) else (0 : Int64))) ||| (if (((w.toUInt64 >>> (((8 : Int32) * (5 : Int32)) &&& 0x3f).toInt64.toUInt64).toInt64) &&& (255 : Int64)) = (b.toInt64) then ((128 : Int64) <<< (((8 : Int32) * (5 : Int32)) &&& 0x3f).toInt64) else (0 : Int64))) ||| (if (((w.toUInt64 >>> (((8 : Int32) * (6 : Int32)) &&& 0x3f).toInt64.toUInt64).toInt64) &&& (255 : Int64)) = (b.toInt64) then ((128 : Int64) <<< (((8 : Int32) * (6 : Int32)) &&& 0x3f).toInt64) else (0 : Int64))) ||| (if (((w.toUInt64 >>> (((8 : Int32) * (7 : Int32)) &&& 0x3f).toInt64.toUInt64).toInt64) &&& (255 : Int64)) = (b.toInt64) then ((128 : Int64) <<< (((8 : Int32) * (7 : Int32)) &&& 0x3f).toInt64) else (0 : Int64)))).toBitVec.toNat = own_pk [if w.toBitVec.toNat % 256 = B then 128 else 0, if w.toBitVec.toNat / 256 % 256 = B then 128 else 0, if w.toBitVec.toNat / 65536 % 256 = B then 128 else 0, if w.toBitVec.toNat / 16777216 % 256 = B then 128 else 0, if w.toBitVec.toNat / 4294967296 % 256 = B then 128 else 0, if w.toBitVec.toNat / 1099511627776 % 256 = B then 128 else 0, if w.toBitVec.toNat / 281474976710656 % 256 = B then 128 else 0, if w.toBitVec.toNat / 72057594037927936 % 256 = B then 128 else 0] := by
  have b0 := own_bitN w b B hB hB2 ((8 : Int32) * (0 : Int32)) 0 (by decide) 1 (by decide) (own_hw0 w)
  have b1 := own_bitN w b B hB hB2 ((8 : Int32) * (1 : Int32)) 8 (by decide) 256 (by decide) (own_hw w _ 8 (by decide) (by decide) _ (by decide))
  have b2 := own_bitN w b B hB hB2 ((8 : Int32) * (2 : Int32)) 16 (by decide) 65536 (by decide) (own_hw w _ 16 (by decide) (by decide) _ (by decide))
  have b3 := own_bitN w b B hB hB2 ((8 : Int32) * (3 : Int32)) 24 (by decide) 16777216 (by decide) (own_hw w _ 24 (by decide) (by decide) _ (by decide))
  have b4 := own_bitN w b B hB hB2 ((8 : Int32) * (4 : Int32)) 32 (by decide) 4294967296 (by decide) (own_hw w _ 32 (by decide) (by decide) _ (by decide))
  have b5 := own_bitN w b B hB hB2 ((8 : Int32) * (5 : Int32)) 40 (by decide) 1099511627776 (by decide) (own_hw w _ 40 (by decide) (by decide) _ (by decide))
  have b6 := own_bitN w b B hB hB2 ((8 : Int32) * (6 : Int32)) 48 (by decide) 281474976710656 (by decide) (own_hw w _ 48 (by decide) (by decide) _ (by decide))
  have b7 := own_bitN w b B hB hB2 ((8 : Int32) * (7 : Int32)) 56 (by decide) 72057594037927936 (by decide) (own_hw w _ 56 (by decide) (by decide) _ (by decide))
  simp only [Int64.toBitVec_or, BitVec.toNat_or, b0, b1, b2, b3, b4, b5, b6, b7]
  rw [Nat.mul_one, Nat.div_one]
  exact own_ors own_dl own_dl own_dl own_dl own_dl own_dl own_dl own_dl
theorem own_Lg (w r cL cM cH : Int64) (nL nM nH N : Nat) (eL : cL.toBitVec.toNat = nL) (eM : cM.toBitVec.toNat = nM) (eH : cH.toBitVec.toNat = nH) (eN : 2 ^ 64 = N) :
    ((((((w ^^^ r) &&& cL) + cL) ||| (w ^^^ r)) ^^^ cM) &&& cH).toBitVec.toNat = (((((((w.toBitVec.toNat ^^^ r.toBitVec.toNat) &&& nL) + nL) % N) ||| (w.toBitVec.toNat ^^^ r.toBitVec.toNat)) ^^^ nM) &&& nH) := by
  subst eL eM eH eN
  simp only [Int64.toBitVec_and, Int64.toBitVec_xor, Int64.toBitVec_add, Int64.toBitVec_or, BitVec.toNat_and, BitVec.toNat_xor, BitVec.toNat_add, BitVec.toNat_or]
theorem own_main (w : Int64) (b : Int32) (hb : 0 ≤ b.toInt ∧ b.toInt ≤ 255) :
    ((((((w ^^^ ((b.toInt64) * (72340172838076673 : Int64))) &&& (9187201950435737471 : Int64)) + (9187201950435737471 : Int64)) ||| (w ^^^ ((b.toInt64) * (72340172838076673 : Int64)))) ^^^ (-1 : Int64)) &&& (-9187201950435737472 : Int64)) =
    ((((((((if (((w.toUInt64 >>> (((8 : Int32) * (0 : Int32)) &&& 0x3f).toInt64.toUInt64).toInt64) &&& (255 : Int64)) = (b.toInt64) then ((128 : Int64) <<< (((8 : Int32) * (0 : Int32)) &&& 0x3f).toInt64) else (0 : Int64)) ||| (if (((w.toUInt64 >>> (((8 : Int32) * (1 : Int32)) &&& 0x3f).toInt64.toUInt64).toInt64) &&& (255 : Int64)) = (b.toInt64) then ((128 : Int64) <<< (((8 : Int32) * (1 : Int32)) &&& 0x3f).toInt64) else (0 : Int64))) ||| (if (((w.toUInt64 >>> (((8 : Int32) * (2 : Int32)) &&& 0x3f).toInt64.toUInt64).toInt64) &&& (255 : Int64)) = (b.toInt64) then ((128 : Int64) <<< (((8 : Int32) * (2 : Int32)) &&& 0x3f).toInt64) else (0 : Int64))) ||| (if (((w.toUInt64 >>> (((8 : Int32) * (3 : Int32)) &&& 0x3f).toInt64.toUInt64).toInt64) &&& (255 : Int64)) = (b.toInt64) then ((128 : Int64) <<< (((8 : Int32) * (3 : Int32)) &&& 0x3f).toInt64) else (0 : Int64))) ||| (if (((w.toUInt64 >>> (((8 : Int32) * (4 : Int32)) &&& 0x3f).toInt64.toUInt64).toInt64) &&& (255 : Int64)) = (b.toInt64) then ((128 : Int64) <<< (((8 : Int32) * (4 : Int32)) &&& 0x3f).toInt64) else (0 : Int64))) ||| (if (((w.toUInt64 >>> (((8 : Int32) * (5 : Int32)) &&& 0x3f).toInt64.toUInt64).toInt64) &&& (255 : Int64)) = (b.toInt64) then ((128 : Int64) <<< (((8 : Int32) * (5 : Int32)) &&& 0x3f).toInt64) else (0 : Int64))) ||| (if (((w.toUInt64 >>> (((8 : Int32) * (6 : Int32)) &&& 0x3f).toInt64.toUInt64).toInt64) &&& (255 : Int64)) = (b.toInt64) then ((128 : Int64) <<< (((8 : Int32) * (6 : Int32)) &&& 0x3f).toInt64) else (0 : Int64))) ||| (if (((w.toUInt64 >>> (((8 : Int32) * (7 : Int32)) &&& 0x3f).toInt64.toUInt64).toInt64) &&& (255 : Int64)) = (b.toInt64) then ((128 : Int64) <<< (((8 : Int32) * (7 : Int32)) &&& 0x3f).toInt64) else (0 : Int64))) := by
  obtain ⟨B, hB, hB2⟩ : ∃ B : Nat, b.toInt = B ∧ B < 256 := ⟨b.toInt.toNat, by omega, by omega⟩
  have h1 := own_Lg w ((b.toInt64) * (72340172838076673 : Int64)) (9187201950435737471 : Int64) (-1 : Int64) (-9187201950435737472 : Int64) 9187201950435737471 18446744073709551615 9259542123273814144 18446744073709551616 (by decide) (by decide) (by decide) (by decide)
  rw [own_R b B hB hB2, own_lhs w.toBitVec.toNat B w.toBitVec.isLt hB2, ← own_Rn w b B hB hB2] at h1
  exact Int64.toBitVec_inj.mp (BitVec.toNat_inj.mp h1)
theorem own_bb (z : Int32) : 0 ≤ (z &&& (255 : Int32)).toInt ∧ (z &&& (255 : Int32)).toInt ≤ 255 := by
  have a := c_mask z 255 8 (by decide) (by decide)
  have e3 : ((2 ^ 8 : Nat) : Int) = 256 := by decide
  rw [e3] at a; omega

theorem pd_0 : parseMethodDescriptor "(JIII)J" = some ⟨[.long, .int, .int, .int], some .long⟩ := by decide +kernel
theorem pd_1 : parseMethodDescriptor "(JII)J" = some ⟨[.long, .int, .int], some .long⟩ := by decide +kernel
theorem pd_2 : parseMethodDescriptor "(JJ)J" = some ⟨[.long, .long], some .long⟩ := by decide +kernel
theorem pn_0 : plainName "com/example/epitome/epitome/csv/PackedBytesEqualPinLaw" = true := by first | (simp [plainName, overriddenIn]; done) | decide +kernel
theorem ef_rm0 (m : MethodId) (q0 : Int64) (p1 : Int32) (p2 : Int32) : entryFrame m #[(.long q0), (.int p1), (.int p2)] maxLocals = mkF m 0 #[.val (.long q0), .second, .val (.int p1), .val (.int p2), .unset, .unset, .unset, .unset, .unset, .unset, .unset] [] := by first | (simp [entryFrame, mkF, argsToLocals, Value.category, maxLocals]; done) | rfl
def Qrm0 (Z : State) (q0 : Int64) (p1 : Int32) (p2 : Int32) (h0 : Heap) (n0 : Nat) (v : Option Value) (h : Heap) (L : List Loc) : Prop := v = some (.int (1 : Int32)) ∧ Fr n0 L
set_option maxRecDepth 65536 in
set_option maxHeartbeats 40000000 in
theorem rm0 (l : Launch) (Z : State) (A0 : Array Value) (hw : ∀ d ∈ tables_1, d.before A0 Z = true) (ws : List Jvm.Cond) (q0 : Int64) (p1 : Int32) (p2 : Int32) (h0 : Heap) (n0 : Nat) (Z0 : n0 ≤ h0.size) :
    MetFree l x (head1 (Jvm.Cond.code x code maxLocals ret :: ws) room_1) (fun a U => a = #[(.long q0), (.int p1), (.int p2)] ∧ Z.Warmed39 U.vm ∧ U.heap = h0) (fun _ _ _ _ _ => True) (fun _ U o U' => ∃ v L, o = .returned v ∧ Qrm0 Z q0 p1 p2 h0 n0 v U'.heap L ∧ FrameEnd U o U' L room_1.cells room_1.slots) := by
  refine MetFree.of_bodySF (plainFor_of_name pn_0) hisR ?_
  intro p e s m args below meth c s₁ Bd hml0 hP hK
  obtain ⟨rfl, hZ, hh⟩ := hP
  have hx := Bd.exec
  have hby := Bd.bytes
  have hml : c.maxLocals = 11 := hml0
  have hown : s.vm.findClass "com/example/epitome/epitome/csv/PackedBytesEqualPinLaw" = some m.cls := findClass_of_methodNamed Bd.named
  have hnm := (name_of_methodNamed Bd.named Bd.method).1
  have X0 : Stand p l e room_1 s m #[(.long q0), (.int p1), (.int p2)] below meth c s₁ [] 0 0 := Stand.of_body Bd
  have e0 : s₁.heap = h0 := by rw [← hh, Bd.state]; rfl
  have N0 := Fr.nil n0
  have K0 : Keep h0 h0 [] := Keep.refl _ _
  have pre0 : ∀ t, Steps p.tables e below (s₁.setTop (mkF m 0 #[.val (.long q0), .second, .val (.int p1), .val (.int p2), .unset, .unset, .unset, .unset, .unset, .unset, .unset] [])) t → Steps p.tables e below (s₁.setTop (entryFrame m #[(.long q0), (.int p1), (.int p2)] maxLocals)) t := fun t k => castTop (ef_rm0 m q0 p1 p2) k
  obtain ⟨b, h_b⟩ : ∃ z : Int32, z = (p1 &&& (255 : Int32)) := ⟨_, rfl⟩
  have Bb : 0 ≤ b.toInt ∧ b.toInt ≤ 255 := h_b ▸ own_bb p1
  obtain ⟨_, _, ⟨T1, L1, k1, n1⟩, -, X1, ⟨Lc1, hQ1, l1, y1, z1⟩, st1⟩ := Jvm.LawKit.callS X0 hx (y := (⟨"com/example/epitome/epitome/csv/PackedBytesEqualPinLaw", "put", "(JIII)J"⟩ : MethodName)) hown (mvT hZ (hw _ (List.mem_of_getElem? (i := 0) rfl))) (mvT hZ (hw _ (List.mem_of_getElem? (i := 1) rfl))) (mvT hZ (hw _ (List.mem_of_getElem? (i := 2) rfl))) (mvT hZ (hw _ (List.mem_of_getElem? (i := 3) rfl))) (by decide) (backOf (W := 0) (rm1 l Z A0 hw [] q0 (0 : Int32) p2 b  h0 n0 Z0 ) hZ (hw _ (List.mem_of_getElem? (i := 3) rfl)) (hw _ (List.mem_of_getElem? (i := 2) rfl)) (by decide) (by decide)) (g := (mkF m 16 #[.val (.long q0), .second, .val (.int p1), .val (.int p2), .val (.int b), .val (.long q0), .second, .unset, .unset, .unset, .unset] [(.int b), (.int p2), (.int (0 : Int32)), (.long q0)])) rfl (by rw [hml]; rfl) (argsL := [(.long q0), (.int (0 : Int32)), (.int p2), (.int b)]) (rest := []) (lenOf pd_0 rfl) rfl (by show 2 * 0 + _ ≤ _; exact Nat.le_of_eq rfl) (hb hby at_16) (fun _ _ => ⟨rfl, e0, (by decide : 0 + 0 ≤ _), (by decide : 0 + 0 ≤ _)⟩)
  dsimp only [Pt.U, Pt.locs, Pt.cells, Pt.slots] at X1 l1 y1 z1 st1 hQ1
  subst l1 y1 z1
  obtain ⟨rfl, N1q, eh1⟩ := hQ1
  have N1 := Fr.app N0 N1q
  obtain ⟨x0, h_x0⟩ : ∃ z : Int64, z = (if (((p2.toUInt32 >>> (((2 : Int32) * (0 : Int32)) &&& 31).toUInt32).toInt32) &&& (3 : Int32)) = (0 : Int32) then q0 else (if (((p2.toUInt32 >>> (((2 : Int32) * (0 : Int32)) &&& 31).toUInt32).toInt32) &&& (3 : Int32)) = (1 : Int32) then ((q0 &&& (((255 : Int64) <<< (((8 : Int32) * (0 : Int32)) &&& 0x3f).toInt64) ^^^ (-1 : Int64))) ||| ((b.toInt64) <<< (((8 : Int32) * (0 : Int32)) &&& 0x3f).toInt64)) else (if (((p2.toUInt32 >>> (((2 : Int32) * (0 : Int32)) &&& 31).toUInt32).toInt32) &&& (3 : Int32)) = (2 : Int32) then ((q0 &&& (((255 : Int64) <<< (((8 : Int32) * (0 : Int32)) &&& 0x3f).toInt64) ^^^ (-1 : Int64))) ||| (((b ^^^ (128 : Int32)).toInt64) <<< (((8 : Int32) * (0 : Int32)) &&& 0x3f).toInt64)) else ((q0 &&& (((255 : Int64) <<< (((8 : Int32) * (0 : Int32)) &&& 0x3f).toInt64) ^^^ (-1 : Int64))) ||| (((b ^^^ (1 : Int32)).toInt64) <<< (((8 : Int32) * (0 : Int32)) &&& 0x3f).toInt64))))) := ⟨_, rfl⟩
  obtain ⟨_, _, ⟨T2, L2, k2, n2⟩, -, X2, ⟨Lc2, hQ2, l2, y2, z2⟩, st2⟩ := Jvm.LawKit.callS X1 hx (y := (⟨"com/example/epitome/epitome/csv/PackedBytesEqualPinLaw", "put", "(JIII)J"⟩ : MethodName)) hown (mvT hZ (hw _ (List.mem_of_getElem? (i := 0) rfl))) (mvT hZ (hw _ (List.mem_of_getElem? (i := 1) rfl))) (mvT hZ (hw _ (List.mem_of_getElem? (i := 2) rfl))) (mvT hZ (hw _ (List.mem_of_getElem? (i := 3) rfl))) (by decide) (backOf (W := 0) (rm1 l Z A0 hw [] x0 (1 : Int32) p2 b  h0 n0 Z0 ) hZ (hw _ (List.mem_of_getElem? (i := 3) rfl)) (hw _ (List.mem_of_getElem? (i := 2) rfl)) (by decide) (by decide)) (g := (mkF m 27 #[.val (.long q0), .second, .val (.int p1), .val (.int p2), .val (.int b), .val (.long x0), .second, .unset, .unset, .unset, .unset] [(.int b), (.int p2), (.int (1 : Int32)), (.long x0)])) rfl (by rw [hml]; rfl) (argsL := [(.long x0), (.int (1 : Int32)), (.int p2), (.int b)]) (rest := []) (lenOf pd_0 rfl) rfl (by show 2 * 0 + _ ≤ _; exact Nat.le_of_eq rfl) (hb hby at_27) (fun _ _ => ⟨rfl, eh1, (by decide : 0 + 0 ≤ _), (by decide : 0 + 0 ≤ _)⟩)
  dsimp only [Pt.U, Pt.locs, Pt.cells, Pt.slots] at X2 l2 y2 z2 st2 hQ2
  subst l2 y2 z2
  obtain ⟨rfl, N2q, eh2⟩ := hQ2
  have N2 := Fr.app N1 N2q
  obtain ⟨x1, h_x1⟩ : ∃ z : Int64, z = (if (((p2.toUInt32 >>> (((2 : Int32) * (1 : Int32)) &&& 31).toUInt32).toInt32) &&& (3 : Int32)) = (0 : Int32) then x0 else (if (((p2.toUInt32 >>> (((2 : Int32) * (1 : Int32)) &&& 31).toUInt32).toInt32) &&& (3 : Int32)) = (1 : Int32) then ((x0 &&& (((255 : Int64) <<< (((8 : Int32) * (1 : Int32)) &&& 0x3f).toInt64) ^^^ (-1 : Int64))) ||| ((b.toInt64) <<< (((8 : Int32) * (1 : Int32)) &&& 0x3f).toInt64)) else (if (((p2.toUInt32 >>> (((2 : Int32) * (1 : Int32)) &&& 31).toUInt32).toInt32) &&& (3 : Int32)) = (2 : Int32) then ((x0 &&& (((255 : Int64) <<< (((8 : Int32) * (1 : Int32)) &&& 0x3f).toInt64) ^^^ (-1 : Int64))) ||| (((b ^^^ (128 : Int32)).toInt64) <<< (((8 : Int32) * (1 : Int32)) &&& 0x3f).toInt64)) else ((x0 &&& (((255 : Int64) <<< (((8 : Int32) * (1 : Int32)) &&& 0x3f).toInt64) ^^^ (-1 : Int64))) ||| (((b ^^^ (1 : Int32)).toInt64) <<< (((8 : Int32) * (1 : Int32)) &&& 0x3f).toInt64))))) := ⟨_, rfl⟩
  obtain ⟨_, _, ⟨T3, L3, k3, n3⟩, -, X3, ⟨Lc3, hQ3, l3, y3, z3⟩, st3⟩ := Jvm.LawKit.callS X2 hx (y := (⟨"com/example/epitome/epitome/csv/PackedBytesEqualPinLaw", "put", "(JIII)J"⟩ : MethodName)) hown (mvT hZ (hw _ (List.mem_of_getElem? (i := 0) rfl))) (mvT hZ (hw _ (List.mem_of_getElem? (i := 1) rfl))) (mvT hZ (hw _ (List.mem_of_getElem? (i := 2) rfl))) (mvT hZ (hw _ (List.mem_of_getElem? (i := 3) rfl))) (by decide) (backOf (W := 0) (rm1 l Z A0 hw [] x1 (2 : Int32) p2 b  h0 n0 Z0 ) hZ (hw _ (List.mem_of_getElem? (i := 3) rfl)) (hw _ (List.mem_of_getElem? (i := 2) rfl)) (by decide) (by decide)) (g := (mkF m 38 #[.val (.long q0), .second, .val (.int p1), .val (.int p2), .val (.int b), .val (.long x1), .second, .unset, .unset, .unset, .unset] [(.int b), (.int p2), (.int (2 : Int32)), (.long x1)])) rfl (by rw [hml]; rfl) (argsL := [(.long x1), (.int (2 : Int32)), (.int p2), (.int b)]) (rest := []) (lenOf pd_0 rfl) rfl (by show 2 * 0 + _ ≤ _; exact Nat.le_of_eq rfl) (hb hby at_38) (fun _ _ => ⟨rfl, eh2, (by decide : 0 + 0 ≤ _), (by decide : 0 + 0 ≤ _)⟩)
  dsimp only [Pt.U, Pt.locs, Pt.cells, Pt.slots] at X3 l3 y3 z3 st3 hQ3
  subst l3 y3 z3
  obtain ⟨rfl, N3q, eh3⟩ := hQ3
  have N3 := Fr.app N2 N3q
  obtain ⟨x2, h_x2⟩ : ∃ z : Int64, z = (if (((p2.toUInt32 >>> (((2 : Int32) * (2 : Int32)) &&& 31).toUInt32).toInt32) &&& (3 : Int32)) = (0 : Int32) then x1 else (if (((p2.toUInt32 >>> (((2 : Int32) * (2 : Int32)) &&& 31).toUInt32).toInt32) &&& (3 : Int32)) = (1 : Int32) then ((x1 &&& (((255 : Int64) <<< (((8 : Int32) * (2 : Int32)) &&& 0x3f).toInt64) ^^^ (-1 : Int64))) ||| ((b.toInt64) <<< (((8 : Int32) * (2 : Int32)) &&& 0x3f).toInt64)) else (if (((p2.toUInt32 >>> (((2 : Int32) * (2 : Int32)) &&& 31).toUInt32).toInt32) &&& (3 : Int32)) = (2 : Int32) then ((x1 &&& (((255 : Int64) <<< (((8 : Int32) * (2 : Int32)) &&& 0x3f).toInt64) ^^^ (-1 : Int64))) ||| (((b ^^^ (128 : Int32)).toInt64) <<< (((8 : Int32) * (2 : Int32)) &&& 0x3f).toInt64)) else ((x1 &&& (((255 : Int64) <<< (((8 : Int32) * (2 : Int32)) &&& 0x3f).toInt64) ^^^ (-1 : Int64))) ||| (((b ^^^ (1 : Int32)).toInt64) <<< (((8 : Int32) * (2 : Int32)) &&& 0x3f).toInt64))))) := ⟨_, rfl⟩
  obtain ⟨_, _, ⟨T4, L4, k4, n4⟩, -, X4, ⟨Lc4, hQ4, l4, y4, z4⟩, st4⟩ := Jvm.LawKit.callS X3 hx (y := (⟨"com/example/epitome/epitome/csv/PackedBytesEqualPinLaw", "put", "(JIII)J"⟩ : MethodName)) hown (mvT hZ (hw _ (List.mem_of_getElem? (i := 0) rfl))) (mvT hZ (hw _ (List.mem_of_getElem? (i := 1) rfl))) (mvT hZ (hw _ (List.mem_of_getElem? (i := 2) rfl))) (mvT hZ (hw _ (List.mem_of_getElem? (i := 3) rfl))) (by decide) (backOf (W := 0) (rm1 l Z A0 hw [] x2 (3 : Int32) p2 b  h0 n0 Z0 ) hZ (hw _ (List.mem_of_getElem? (i := 3) rfl)) (hw _ (List.mem_of_getElem? (i := 2) rfl)) (by decide) (by decide)) (g := (mkF m 49 #[.val (.long q0), .second, .val (.int p1), .val (.int p2), .val (.int b), .val (.long x2), .second, .unset, .unset, .unset, .unset] [(.int b), (.int p2), (.int (3 : Int32)), (.long x2)])) rfl (by rw [hml]; rfl) (argsL := [(.long x2), (.int (3 : Int32)), (.int p2), (.int b)]) (rest := []) (lenOf pd_0 rfl) rfl (by show 2 * 0 + _ ≤ _; exact Nat.le_of_eq rfl) (hb hby at_49) (fun _ _ => ⟨rfl, eh3, (by decide : 0 + 0 ≤ _), (by decide : 0 + 0 ≤ _)⟩)
  dsimp only [Pt.U, Pt.locs, Pt.cells, Pt.slots] at X4 l4 y4 z4 st4 hQ4
  subst l4 y4 z4
  obtain ⟨rfl, N4q, eh4⟩ := hQ4
  have N4 := Fr.app N3 N4q
  obtain ⟨x3, h_x3⟩ : ∃ z : Int64, z = (if (((p2.toUInt32 >>> (((2 : Int32) * (3 : Int32)) &&& 31).toUInt32).toInt32) &&& (3 : Int32)) = (0 : Int32) then x2 else (if (((p2.toUInt32 >>> (((2 : Int32) * (3 : Int32)) &&& 31).toUInt32).toInt32) &&& (3 : Int32)) = (1 : Int32) then ((x2 &&& (((255 : Int64) <<< (((8 : Int32) * (3 : Int32)) &&& 0x3f).toInt64) ^^^ (-1 : Int64))) ||| ((b.toInt64) <<< (((8 : Int32) * (3 : Int32)) &&& 0x3f).toInt64)) else (if (((p2.toUInt32 >>> (((2 : Int32) * (3 : Int32)) &&& 31).toUInt32).toInt32) &&& (3 : Int32)) = (2 : Int32) then ((x2 &&& (((255 : Int64) <<< (((8 : Int32) * (3 : Int32)) &&& 0x3f).toInt64) ^^^ (-1 : Int64))) ||| (((b ^^^ (128 : Int32)).toInt64) <<< (((8 : Int32) * (3 : Int32)) &&& 0x3f).toInt64)) else ((x2 &&& (((255 : Int64) <<< (((8 : Int32) * (3 : Int32)) &&& 0x3f).toInt64) ^^^ (-1 : Int64))) ||| (((b ^^^ (1 : Int32)).toInt64) <<< (((8 : Int32) * (3 : Int32)) &&& 0x3f).toInt64))))) := ⟨_, rfl⟩
  obtain ⟨_, _, ⟨T5, L5, k5, n5⟩, -, X5, ⟨Lc5, hQ5, l5, y5, z5⟩, st5⟩ := Jvm.LawKit.callS X4 hx (y := (⟨"com/example/epitome/epitome/csv/PackedBytesEqualPinLaw", "put", "(JIII)J"⟩ : MethodName)) hown (mvT hZ (hw _ (List.mem_of_getElem? (i := 0) rfl))) (mvT hZ (hw _ (List.mem_of_getElem? (i := 1) rfl))) (mvT hZ (hw _ (List.mem_of_getElem? (i := 2) rfl))) (mvT hZ (hw _ (List.mem_of_getElem? (i := 3) rfl))) (by decide) (backOf (W := 0) (rm1 l Z A0 hw [] x3 (4 : Int32) p2 b  h0 n0 Z0 ) hZ (hw _ (List.mem_of_getElem? (i := 3) rfl)) (hw _ (List.mem_of_getElem? (i := 2) rfl)) (by decide) (by decide)) (g := (mkF m 60 #[.val (.long q0), .second, .val (.int p1), .val (.int p2), .val (.int b), .val (.long x3), .second, .unset, .unset, .unset, .unset] [(.int b), (.int p2), (.int (4 : Int32)), (.long x3)])) rfl (by rw [hml]; rfl) (argsL := [(.long x3), (.int (4 : Int32)), (.int p2), (.int b)]) (rest := []) (lenOf pd_0 rfl) rfl (by show 2 * 0 + _ ≤ _; exact Nat.le_of_eq rfl) (hb hby at_60) (fun _ _ => ⟨rfl, eh4, (by decide : 0 + 0 ≤ _), (by decide : 0 + 0 ≤ _)⟩)
  dsimp only [Pt.U, Pt.locs, Pt.cells, Pt.slots] at X5 l5 y5 z5 st5 hQ5
  subst l5 y5 z5
  obtain ⟨rfl, N5q, eh5⟩ := hQ5
  have N5 := Fr.app N4 N5q
  obtain ⟨x4, h_x4⟩ : ∃ z : Int64, z = (if (((p2.toUInt32 >>> (((2 : Int32) * (4 : Int32)) &&& 31).toUInt32).toInt32) &&& (3 : Int32)) = (0 : Int32) then x3 else (if (((p2.toUInt32 >>> (((2 : Int32) * (4 : Int32)) &&& 31).toUInt32).toInt32) &&& (3 : Int32)) = (1 : Int32) then ((x3 &&& (((255 : Int64) <<< (((8 : Int32) * (4 : Int32)) &&& 0x3f).toInt64) ^^^ (-1 : Int64))) ||| ((b.toInt64) <<< (((8 : Int32) * (4 : Int32)) &&& 0x3f).toInt64)) else (if (((p2.toUInt32 >>> (((2 : Int32) * (4 : Int32)) &&& 31).toUInt32).toInt32) &&& (3 : Int32)) = (2 : Int32) then ((x3 &&& (((255 : Int64) <<< (((8 : Int32) * (4 : Int32)) &&& 0x3f).toInt64) ^^^ (-1 : Int64))) ||| (((b ^^^ (128 : Int32)).toInt64) <<< (((8 : Int32) * (4 : Int32)) &&& 0x3f).toInt64)) else ((x3 &&& (((255 : Int64) <<< (((8 : Int32) * (4 : Int32)) &&& 0x3f).toInt64) ^^^ (-1 : Int64))) ||| (((b ^^^ (1 : Int32)).toInt64) <<< (((8 : Int32) * (4 : Int32)) &&& 0x3f).toInt64))))) := ⟨_, rfl⟩
  obtain ⟨_, _, ⟨T6, L6, k6, n6⟩, -, X6, ⟨Lc6, hQ6, l6, y6, z6⟩, st6⟩ := Jvm.LawKit.callS X5 hx (y := (⟨"com/example/epitome/epitome/csv/PackedBytesEqualPinLaw", "put", "(JIII)J"⟩ : MethodName)) hown (mvT hZ (hw _ (List.mem_of_getElem? (i := 0) rfl))) (mvT hZ (hw _ (List.mem_of_getElem? (i := 1) rfl))) (mvT hZ (hw _ (List.mem_of_getElem? (i := 2) rfl))) (mvT hZ (hw _ (List.mem_of_getElem? (i := 3) rfl))) (by decide) (backOf (W := 0) (rm1 l Z A0 hw [] x4 (5 : Int32) p2 b  h0 n0 Z0 ) hZ (hw _ (List.mem_of_getElem? (i := 3) rfl)) (hw _ (List.mem_of_getElem? (i := 2) rfl)) (by decide) (by decide)) (g := (mkF m 71 #[.val (.long q0), .second, .val (.int p1), .val (.int p2), .val (.int b), .val (.long x4), .second, .unset, .unset, .unset, .unset] [(.int b), (.int p2), (.int (5 : Int32)), (.long x4)])) rfl (by rw [hml]; rfl) (argsL := [(.long x4), (.int (5 : Int32)), (.int p2), (.int b)]) (rest := []) (lenOf pd_0 rfl) rfl (by show 2 * 0 + _ ≤ _; exact Nat.le_of_eq rfl) (hb hby at_71) (fun _ _ => ⟨rfl, eh5, (by decide : 0 + 0 ≤ _), (by decide : 0 + 0 ≤ _)⟩)
  dsimp only [Pt.U, Pt.locs, Pt.cells, Pt.slots] at X6 l6 y6 z6 st6 hQ6
  subst l6 y6 z6
  obtain ⟨rfl, N6q, eh6⟩ := hQ6
  have N6 := Fr.app N5 N6q
  obtain ⟨x5, h_x5⟩ : ∃ z : Int64, z = (if (((p2.toUInt32 >>> (((2 : Int32) * (5 : Int32)) &&& 31).toUInt32).toInt32) &&& (3 : Int32)) = (0 : Int32) then x4 else (if (((p2.toUInt32 >>> (((2 : Int32) * (5 : Int32)) &&& 31).toUInt32).toInt32) &&& (3 : Int32)) = (1 : Int32) then ((x4 &&& (((255 : Int64) <<< (((8 : Int32) * (5 : Int32)) &&& 0x3f).toInt64) ^^^ (-1 : Int64))) ||| ((b.toInt64) <<< (((8 : Int32) * (5 : Int32)) &&& 0x3f).toInt64)) else (if (((p2.toUInt32 >>> (((2 : Int32) * (5 : Int32)) &&& 31).toUInt32).toInt32) &&& (3 : Int32)) = (2 : Int32) then ((x4 &&& (((255 : Int64) <<< (((8 : Int32) * (5 : Int32)) &&& 0x3f).toInt64) ^^^ (-1 : Int64))) ||| (((b ^^^ (128 : Int32)).toInt64) <<< (((8 : Int32) * (5 : Int32)) &&& 0x3f).toInt64)) else ((x4 &&& (((255 : Int64) <<< (((8 : Int32) * (5 : Int32)) &&& 0x3f).toInt64) ^^^ (-1 : Int64))) ||| (((b ^^^ (1 : Int32)).toInt64) <<< (((8 : Int32) * (5 : Int32)) &&& 0x3f).toInt64))))) := ⟨_, rfl⟩
  obtain ⟨_, _, ⟨T7, L7, k7, n7⟩, -, X7, ⟨Lc7, hQ7, l7, y7, z7⟩, st7⟩ := Jvm.LawKit.callS X6 hx (y := (⟨"com/example/epitome/epitome/csv/PackedBytesEqualPinLaw", "put", "(JIII)J"⟩ : MethodName)) hown (mvT hZ (hw _ (List.mem_of_getElem? (i := 0) rfl))) (mvT hZ (hw _ (List.mem_of_getElem? (i := 1) rfl))) (mvT hZ (hw _ (List.mem_of_getElem? (i := 2) rfl))) (mvT hZ (hw _ (List.mem_of_getElem? (i := 3) rfl))) (by decide) (backOf (W := 0) (rm1 l Z A0 hw [] x5 (6 : Int32) p2 b  h0 n0 Z0 ) hZ (hw _ (List.mem_of_getElem? (i := 3) rfl)) (hw _ (List.mem_of_getElem? (i := 2) rfl)) (by decide) (by decide)) (g := (mkF m 83 #[.val (.long q0), .second, .val (.int p1), .val (.int p2), .val (.int b), .val (.long x5), .second, .unset, .unset, .unset, .unset] [(.int b), (.int p2), (.int (6 : Int32)), (.long x5)])) rfl (by rw [hml]; rfl) (argsL := [(.long x5), (.int (6 : Int32)), (.int p2), (.int b)]) (rest := []) (lenOf pd_0 rfl) rfl (by show 2 * 0 + _ ≤ _; exact Nat.le_of_eq rfl) (hb hby at_83) (fun _ _ => ⟨rfl, eh6, (by decide : 0 + 0 ≤ _), (by decide : 0 + 0 ≤ _)⟩)
  dsimp only [Pt.U, Pt.locs, Pt.cells, Pt.slots] at X7 l7 y7 z7 st7 hQ7
  subst l7 y7 z7
  obtain ⟨rfl, N7q, eh7⟩ := hQ7
  have N7 := Fr.app N6 N7q
  obtain ⟨x6, h_x6⟩ : ∃ z : Int64, z = (if (((p2.toUInt32 >>> (((2 : Int32) * (6 : Int32)) &&& 31).toUInt32).toInt32) &&& (3 : Int32)) = (0 : Int32) then x5 else (if (((p2.toUInt32 >>> (((2 : Int32) * (6 : Int32)) &&& 31).toUInt32).toInt32) &&& (3 : Int32)) = (1 : Int32) then ((x5 &&& (((255 : Int64) <<< (((8 : Int32) * (6 : Int32)) &&& 0x3f).toInt64) ^^^ (-1 : Int64))) ||| ((b.toInt64) <<< (((8 : Int32) * (6 : Int32)) &&& 0x3f).toInt64)) else (if (((p2.toUInt32 >>> (((2 : Int32) * (6 : Int32)) &&& 31).toUInt32).toInt32) &&& (3 : Int32)) = (2 : Int32) then ((x5 &&& (((255 : Int64) <<< (((8 : Int32) * (6 : Int32)) &&& 0x3f).toInt64) ^^^ (-1 : Int64))) ||| (((b ^^^ (128 : Int32)).toInt64) <<< (((8 : Int32) * (6 : Int32)) &&& 0x3f).toInt64)) else ((x5 &&& (((255 : Int64) <<< (((8 : Int32) * (6 : Int32)) &&& 0x3f).toInt64) ^^^ (-1 : Int64))) ||| (((b ^^^ (1 : Int32)).toInt64) <<< (((8 : Int32) * (6 : Int32)) &&& 0x3f).toInt64))))) := ⟨_, rfl⟩
  obtain ⟨_, _, ⟨T8, L8, k8, n8⟩, -, X8, ⟨Lc8, hQ8, l8, y8, z8⟩, st8⟩ := Jvm.LawKit.callS X7 hx (y := (⟨"com/example/epitome/epitome/csv/PackedBytesEqualPinLaw", "put", "(JIII)J"⟩ : MethodName)) hown (mvT hZ (hw _ (List.mem_of_getElem? (i := 0) rfl))) (mvT hZ (hw _ (List.mem_of_getElem? (i := 1) rfl))) (mvT hZ (hw _ (List.mem_of_getElem? (i := 2) rfl))) (mvT hZ (hw _ (List.mem_of_getElem? (i := 3) rfl))) (by decide) (backOf (W := 0) (rm1 l Z A0 hw [] x6 (7 : Int32) p2 b  h0 n0 Z0 ) hZ (hw _ (List.mem_of_getElem? (i := 3) rfl)) (hw _ (List.mem_of_getElem? (i := 2) rfl)) (by decide) (by decide)) (g := (mkF m 95 #[.val (.long q0), .second, .val (.int p1), .val (.int p2), .val (.int b), .val (.long x6), .second, .unset, .unset, .unset, .unset] [(.int b), (.int p2), (.int (7 : Int32)), (.long x6)])) rfl (by rw [hml]; rfl) (argsL := [(.long x6), (.int (7 : Int32)), (.int p2), (.int b)]) (rest := []) (lenOf pd_0 rfl) rfl (by show 2 * 0 + _ ≤ _; exact Nat.le_of_eq rfl) (hb hby at_95) (fun _ _ => ⟨rfl, eh7, (by decide : 0 + 0 ≤ _), (by decide : 0 + 0 ≤ _)⟩)
  dsimp only [Pt.U, Pt.locs, Pt.cells, Pt.slots] at X8 l8 y8 z8 st8 hQ8
  subst l8 y8 z8
  obtain ⟨rfl, N8q, eh8⟩ := hQ8
  have N8 := Fr.app N7 N8q
  obtain ⟨x7, h_x7⟩ : ∃ z : Int64, z = (if (((p2.toUInt32 >>> (((2 : Int32) * (7 : Int32)) &&& 31).toUInt32).toInt32) &&& (3 : Int32)) = (0 : Int32) then x6 else (if (((p2.toUInt32 >>> (((2 : Int32) * (7 : Int32)) &&& 31).toUInt32).toInt32) &&& (3 : Int32)) = (1 : Int32) then ((x6 &&& (((255 : Int64) <<< (((8 : Int32) * (7 : Int32)) &&& 0x3f).toInt64) ^^^ (-1 : Int64))) ||| ((b.toInt64) <<< (((8 : Int32) * (7 : Int32)) &&& 0x3f).toInt64)) else (if (((p2.toUInt32 >>> (((2 : Int32) * (7 : Int32)) &&& 31).toUInt32).toInt32) &&& (3 : Int32)) = (2 : Int32) then ((x6 &&& (((255 : Int64) <<< (((8 : Int32) * (7 : Int32)) &&& 0x3f).toInt64) ^^^ (-1 : Int64))) ||| (((b ^^^ (128 : Int32)).toInt64) <<< (((8 : Int32) * (7 : Int32)) &&& 0x3f).toInt64)) else ((x6 &&& (((255 : Int64) <<< (((8 : Int32) * (7 : Int32)) &&& 0x3f).toInt64) ^^^ (-1 : Int64))) ||| (((b ^^^ (1 : Int32)).toInt64) <<< (((8 : Int32) * (7 : Int32)) &&& 0x3f).toInt64))))) := ⟨_, rfl⟩
  obtain ⟨rp, h_rp⟩ : ∃ z : Int64, z = ((b.toInt64) * (72340172838076673 : Int64)) := ⟨_, rfl⟩
  obtain ⟨_, _, ⟨T9, L9, k9, n9⟩, -, X9, ⟨Lc9, hQ9, l9, y9, z9⟩, st9⟩ := Jvm.LawKit.callS X8 hx (y := (⟨"com/example/epitome/epitome/csv/PackedBytesEqualPinLaw", "bit", "(JII)J"⟩ : MethodName)) hown (mvT hZ (hw _ (List.mem_of_getElem? (i := 7) rfl))) (mvT hZ (hw _ (List.mem_of_getElem? (i := 8) rfl))) (mvT hZ (hw _ (List.mem_of_getElem? (i := 2) rfl))) (mvT hZ (hw _ (List.mem_of_getElem? (i := 9) rfl))) (by decide) (backOf (W := 0) (rm2 l Z A0 hw [] x7 b (0 : Int32)  h0 n0 Z0 ) hZ (hw _ (List.mem_of_getElem? (i := 9) rfl)) (hw _ (List.mem_of_getElem? (i := 2) rfl)) (by decide) (by decide)) (g := (mkF m 114 #[.val (.long q0), .second, .val (.int p1), .val (.int p2), .val (.int b), .val (.long x7), .second, .val (.long rp), .second, .unset, .unset] [(.int (0 : Int32)), (.int b), (.long x7)])) rfl (by rw [hml]; rfl) (argsL := [(.long x7), (.int b), (.int (0 : Int32))]) (rest := []) (lenOf pd_1 rfl) rfl (by show 2 * 0 + _ ≤ _; exact Nat.le_of_eq rfl) (hb hby at_114) (fun _ _ => ⟨rfl, eh8, (by decide : 0 + 0 ≤ _), (by decide : 0 + 0 ≤ _)⟩)
  dsimp only [Pt.U, Pt.locs, Pt.cells, Pt.slots] at X9 l9 y9 z9 st9 hQ9
  subst l9 y9 z9
  obtain ⟨rfl, N9q, eh9⟩ := hQ9
  have N9 := Fr.app N8 N9q
  obtain ⟨y0, h_y0⟩ : ∃ z : Int64, z = (if (((x7.toUInt64 >>> (((8 : Int32) * (0 : Int32)) &&& 0x3f).toInt64.toUInt64).toInt64) &&& (255 : Int64)) = (b.toInt64) then ((128 : Int64) <<< (((8 : Int32) * (0 : Int32)) &&& 0x3f).toInt64) else (0 : Int64)) := ⟨_, rfl⟩
  obtain ⟨_, _, ⟨T10, L10, k10, n10⟩, -, X10, ⟨Lc10, hQ10, l10, y10, z10⟩, st10⟩ := Jvm.LawKit.callS X9 hx (y := (⟨"com/example/epitome/epitome/csv/PackedBytesEqualPinLaw", "bit", "(JII)J"⟩ : MethodName)) hown (mvT hZ (hw _ (List.mem_of_getElem? (i := 7) rfl))) (mvT hZ (hw _ (List.mem_of_getElem? (i := 8) rfl))) (mvT hZ (hw _ (List.mem_of_getElem? (i := 2) rfl))) (mvT hZ (hw _ (List.mem_of_getElem? (i := 9) rfl))) (by decide) (backOf (W := 2) (rm2 l Z A0 hw [] x7 b (1 : Int32)  h0 n0 Z0 ) hZ (hw _ (List.mem_of_getElem? (i := 9) rfl)) (hw _ (List.mem_of_getElem? (i := 2) rfl)) (by decide) (by decide)) (g := (mkF m 122 #[.val (.long q0), .second, .val (.int p1), .val (.int p2), .val (.int b), .val (.long x7), .second, .val (.long rp), .second, .unset, .unset] [(.int (1 : Int32)), (.int b), (.long x7), (.long y0)])) rfl (by rw [hml]; rfl) (argsL := [(.long x7), (.int b), (.int (1 : Int32))]) (rest := [(.long y0)]) (lenOf pd_1 rfl) rfl (by show 2 * 0 + _ ≤ _; exact Nat.le_of_eq rfl) (hb hby at_122) (fun _ _ => ⟨rfl, eh9, (by decide : 0 + 0 ≤ _), (by decide : 0 + 0 ≤ _)⟩)
  dsimp only [Pt.U, Pt.locs, Pt.cells, Pt.slots] at X10 l10 y10 z10 st10 hQ10
  subst l10 y10 z10
  obtain ⟨rfl, N10q, eh10⟩ := hQ10
  have N10 := Fr.app N9 N10q
  obtain ⟨y1, h_y1⟩ : ∃ z : Int64, z = (if (((x7.toUInt64 >>> (((8 : Int32) * (1 : Int32)) &&& 0x3f).toInt64.toUInt64).toInt64) &&& (255 : Int64)) = (b.toInt64) then ((128 : Int64) <<< (((8 : Int32) * (1 : Int32)) &&& 0x3f).toInt64) else (0 : Int64)) := ⟨_, rfl⟩
  obtain ⟨_, _, ⟨T11, L11, k11, n11⟩, -, X11, ⟨Lc11, hQ11, l11, y11, z11⟩, st11⟩ := Jvm.LawKit.callS X10 hx (y := (⟨"com/example/epitome/epitome/csv/PackedBytesEqualPinLaw", "bit", "(JII)J"⟩ : MethodName)) hown (mvT hZ (hw _ (List.mem_of_getElem? (i := 7) rfl))) (mvT hZ (hw _ (List.mem_of_getElem? (i := 8) rfl))) (mvT hZ (hw _ (List.mem_of_getElem? (i := 2) rfl))) (mvT hZ (hw _ (List.mem_of_getElem? (i := 9) rfl))) (by decide) (backOf (W := 2) (rm2 l Z A0 hw [] x7 b (2 : Int32)  h0 n0 Z0 ) hZ (hw _ (List.mem_of_getElem? (i := 9) rfl)) (hw _ (List.mem_of_getElem? (i := 2) rfl)) (by decide) (by decide)) (g := (mkF m 131 #[.val (.long q0), .second, .val (.int p1), .val (.int p2), .val (.int b), .val (.long x7), .second, .val (.long rp), .second, .unset, .unset] [(.int (2 : Int32)), (.int b), (.long x7), (.long (y0 ||| y1))])) rfl (by rw [hml]; rfl) (argsL := [(.long x7), (.int b), (.int (2 : Int32))]) (rest := [(.long (y0 ||| y1))]) (lenOf pd_1 rfl) rfl (by show 2 * 0 + _ ≤ _; exact Nat.le_of_eq rfl) (hb hby at_131) (fun _ _ => ⟨rfl, eh10, (by decide : 0 + 0 ≤ _), (by decide : 0 + 0 ≤ _)⟩)
  dsimp only [Pt.U, Pt.locs, Pt.cells, Pt.slots] at X11 l11 y11 z11 st11 hQ11
  subst l11 y11 z11
  obtain ⟨rfl, N11q, eh11⟩ := hQ11
  have N11 := Fr.app N10 N11q
  obtain ⟨y2, h_y2⟩ : ∃ z : Int64, z = (if (((x7.toUInt64 >>> (((8 : Int32) * (2 : Int32)) &&& 0x3f).toInt64.toUInt64).toInt64) &&& (255 : Int64)) = (b.toInt64) then ((128 : Int64) <<< (((8 : Int32) * (2 : Int32)) &&& 0x3f).toInt64) else (0 : Int64)) := ⟨_, rfl⟩
  obtain ⟨_, _, ⟨T12, L12, k12, n12⟩, -, X12, ⟨Lc12, hQ12, l12, y12, z12⟩, st12⟩ := Jvm.LawKit.callS X11 hx (y := (⟨"com/example/epitome/epitome/csv/PackedBytesEqualPinLaw", "bit", "(JII)J"⟩ : MethodName)) hown (mvT hZ (hw _ (List.mem_of_getElem? (i := 7) rfl))) (mvT hZ (hw _ (List.mem_of_getElem? (i := 8) rfl))) (mvT hZ (hw _ (List.mem_of_getElem? (i := 2) rfl))) (mvT hZ (hw _ (List.mem_of_getElem? (i := 9) rfl))) (by decide) (backOf (W := 2) (rm2 l Z A0 hw [] x7 b (3 : Int32)  h0 n0 Z0 ) hZ (hw _ (List.mem_of_getElem? (i := 9) rfl)) (hw _ (List.mem_of_getElem? (i := 2) rfl)) (by decide) (by decide)) (g := (mkF m 140 #[.val (.long q0), .second, .val (.int p1), .val (.int p2), .val (.int b), .val (.long x7), .second, .val (.long rp), .second, .unset, .unset] [(.int (3 : Int32)), (.int b), (.long x7), (.long ((y0 ||| y1) ||| y2))])) rfl (by rw [hml]; rfl) (argsL := [(.long x7), (.int b), (.int (3 : Int32))]) (rest := [(.long ((y0 ||| y1) ||| y2))]) (lenOf pd_1 rfl) rfl (by show 2 * 0 + _ ≤ _; exact Nat.le_of_eq rfl) (hb hby at_140) (fun _ _ => ⟨rfl, eh11, (by decide : 0 + 0 ≤ _), (by decide : 0 + 0 ≤ _)⟩)
  dsimp only [Pt.U, Pt.locs, Pt.cells, Pt.slots] at X12 l12 y12 z12 st12 hQ12
  subst l12 y12 z12
  obtain ⟨rfl, N12q, eh12⟩ := hQ12
  have N12 := Fr.app N11 N12q
  obtain ⟨y3, h_y3⟩ : ∃ z : Int64, z = (if (((x7.toUInt64 >>> (((8 : Int32) * (3 : Int32)) &&& 0x3f).toInt64.toUInt64).toInt64) &&& (255 : Int64)) = (b.toInt64) then ((128 : Int64) <<< (((8 : Int32) * (3 : Int32)) &&& 0x3f).toInt64) else (0 : Int64)) := ⟨_, rfl⟩
  obtain ⟨_, _, ⟨T13, L13, k13, n13⟩, -, X13, ⟨Lc13, hQ13, l13, y13, z13⟩, st13⟩ := Jvm.LawKit.callS X12 hx (y := (⟨"com/example/epitome/epitome/csv/PackedBytesEqualPinLaw", "bit", "(JII)J"⟩ : MethodName)) hown (mvT hZ (hw _ (List.mem_of_getElem? (i := 7) rfl))) (mvT hZ (hw _ (List.mem_of_getElem? (i := 8) rfl))) (mvT hZ (hw _ (List.mem_of_getElem? (i := 2) rfl))) (mvT hZ (hw _ (List.mem_of_getElem? (i := 9) rfl))) (by decide) (backOf (W := 2) (rm2 l Z A0 hw [] x7 b (4 : Int32)  h0 n0 Z0 ) hZ (hw _ (List.mem_of_getElem? (i := 9) rfl)) (hw _ (List.mem_of_getElem? (i := 2) rfl)) (by decide) (by decide)) (g := (mkF m 149 #[.val (.long q0), .second, .val (.int p1), .val (.int p2), .val (.int b), .val (.long x7), .second, .val (.long rp), .second, .unset, .unset] [(.int (4 : Int32)), (.int b), (.long x7), (.long (((y0 ||| y1) ||| y2) ||| y3))])) rfl (by rw [hml]; rfl) (argsL := [(.long x7), (.int b), (.int (4 : Int32))]) (rest := [(.long (((y0 ||| y1) ||| y2) ||| y3))]) (lenOf pd_1 rfl) rfl (by show 2 * 0 + _ ≤ _; exact Nat.le_of_eq rfl) (hb hby at_149) (fun _ _ => ⟨rfl, eh12, (by decide : 0 + 0 ≤ _), (by decide : 0 + 0 ≤ _)⟩)
  dsimp only [Pt.U, Pt.locs, Pt.cells, Pt.slots] at X13 l13 y13 z13 st13 hQ13
  subst l13 y13 z13
  obtain ⟨rfl, N13q, eh13⟩ := hQ13
  have N13 := Fr.app N12 N13q
  obtain ⟨y4, h_y4⟩ : ∃ z : Int64, z = (if (((x7.toUInt64 >>> (((8 : Int32) * (4 : Int32)) &&& 0x3f).toInt64.toUInt64).toInt64) &&& (255 : Int64)) = (b.toInt64) then ((128 : Int64) <<< (((8 : Int32) * (4 : Int32)) &&& 0x3f).toInt64) else (0 : Int64)) := ⟨_, rfl⟩
  obtain ⟨_, _, ⟨T14, L14, k14, n14⟩, -, X14, ⟨Lc14, hQ14, l14, y14, z14⟩, st14⟩ := Jvm.LawKit.callS X13 hx (y := (⟨"com/example/epitome/epitome/csv/PackedBytesEqualPinLaw", "bit", "(JII)J"⟩ : MethodName)) hown (mvT hZ (hw _ (List.mem_of_getElem? (i := 7) rfl))) (mvT hZ (hw _ (List.mem_of_getElem? (i := 8) rfl))) (mvT hZ (hw _ (List.mem_of_getElem? (i := 2) rfl))) (mvT hZ (hw _ (List.mem_of_getElem? (i := 9) rfl))) (by decide) (backOf (W := 2) (rm2 l Z A0 hw [] x7 b (5 : Int32)  h0 n0 Z0 ) hZ (hw _ (List.mem_of_getElem? (i := 9) rfl)) (hw _ (List.mem_of_getElem? (i := 2) rfl)) (by decide) (by decide)) (g := (mkF m 158 #[.val (.long q0), .second, .val (.int p1), .val (.int p2), .val (.int b), .val (.long x7), .second, .val (.long rp), .second, .unset, .unset] [(.int (5 : Int32)), (.int b), (.long x7), (.long ((((y0 ||| y1) ||| y2) ||| y3) ||| y4))])) rfl (by rw [hml]; rfl) (argsL := [(.long x7), (.int b), (.int (5 : Int32))]) (rest := [(.long ((((y0 ||| y1) ||| y2) ||| y3) ||| y4))]) (lenOf pd_1 rfl) rfl (by show 2 * 0 + _ ≤ _; exact Nat.le_of_eq rfl) (hb hby at_158) (fun _ _ => ⟨rfl, eh13, (by decide : 0 + 0 ≤ _), (by decide : 0 + 0 ≤ _)⟩)
  dsimp only [Pt.U, Pt.locs, Pt.cells, Pt.slots] at X14 l14 y14 z14 st14 hQ14
  subst l14 y14 z14
  obtain ⟨rfl, N14q, eh14⟩ := hQ14
  have N14 := Fr.app N13 N14q
  obtain ⟨y5, h_y5⟩ : ∃ z : Int64, z = (if (((x7.toUInt64 >>> (((8 : Int32) * (5 : Int32)) &&& 0x3f).toInt64.toUInt64).toInt64) &&& (255 : Int64)) = (b.toInt64) then ((128 : Int64) <<< (((8 : Int32) * (5 : Int32)) &&& 0x3f).toInt64) else (0 : Int64)) := ⟨_, rfl⟩
  obtain ⟨_, _, ⟨T15, L15, k15, n15⟩, -, X15, ⟨Lc15, hQ15, l15, y15, z15⟩, st15⟩ := Jvm.LawKit.callS X14 hx (y := (⟨"com/example/epitome/epitome/csv/PackedBytesEqualPinLaw", "bit", "(JII)J"⟩ : MethodName)) hown (mvT hZ (hw _ (List.mem_of_getElem? (i := 7) rfl))) (mvT hZ (hw _ (List.mem_of_getElem? (i := 8) rfl))) (mvT hZ (hw _ (List.mem_of_getElem? (i := 2) rfl))) (mvT hZ (hw _ (List.mem_of_getElem? (i := 9) rfl))) (by decide) (backOf (W := 2) (rm2 l Z A0 hw [] x7 b (6 : Int32)  h0 n0 Z0 ) hZ (hw _ (List.mem_of_getElem? (i := 9) rfl)) (hw _ (List.mem_of_getElem? (i := 2) rfl)) (by decide) (by decide)) (g := (mkF m 168 #[.val (.long q0), .second, .val (.int p1), .val (.int p2), .val (.int b), .val (.long x7), .second, .val (.long rp), .second, .unset, .unset] [(.int (6 : Int32)), (.int b), (.long x7), (.long (((((y0 ||| y1) ||| y2) ||| y3) ||| y4) ||| y5))])) rfl (by rw [hml]; rfl) (argsL := [(.long x7), (.int b), (.int (6 : Int32))]) (rest := [(.long (((((y0 ||| y1) ||| y2) ||| y3) ||| y4) ||| y5))]) (lenOf pd_1 rfl) rfl (by show 2 * 0 + _ ≤ _; exact Nat.le_of_eq rfl) (hb hby at_168) (fun _ _ => ⟨rfl, eh14, (by decide : 0 + 0 ≤ _), (by decide : 0 + 0 ≤ _)⟩)
  dsimp only [Pt.U, Pt.locs, Pt.cells, Pt.slots] at X15 l15 y15 z15 st15 hQ15
  subst l15 y15 z15
  obtain ⟨rfl, N15q, eh15⟩ := hQ15
  have N15 := Fr.app N14 N15q
  obtain ⟨y6, h_y6⟩ : ∃ z : Int64, z = (if (((x7.toUInt64 >>> (((8 : Int32) * (6 : Int32)) &&& 0x3f).toInt64.toUInt64).toInt64) &&& (255 : Int64)) = (b.toInt64) then ((128 : Int64) <<< (((8 : Int32) * (6 : Int32)) &&& 0x3f).toInt64) else (0 : Int64)) := ⟨_, rfl⟩
  obtain ⟨_, _, ⟨T16, L16, k16, n16⟩, -, X16, ⟨Lc16, hQ16, l16, y16, z16⟩, st16⟩ := Jvm.LawKit.callS X15 hx (y := (⟨"com/example/epitome/epitome/csv/PackedBytesEqualPinLaw", "bit", "(JII)J"⟩ : MethodName)) hown (mvT hZ (hw _ (List.mem_of_getElem? (i := 7) rfl))) (mvT hZ (hw _ (List.mem_of_getElem? (i := 8) rfl))) (mvT hZ (hw _ (List.mem_of_getElem? (i := 2) rfl))) (mvT hZ (hw _ (List.mem_of_getElem? (i := 9) rfl))) (by decide) (backOf (W := 2) (rm2 l Z A0 hw [] x7 b (7 : Int32)  h0 n0 Z0 ) hZ (hw _ (List.mem_of_getElem? (i := 9) rfl)) (hw _ (List.mem_of_getElem? (i := 2) rfl)) (by decide) (by decide)) (g := (mkF m 178 #[.val (.long q0), .second, .val (.int p1), .val (.int p2), .val (.int b), .val (.long x7), .second, .val (.long rp), .second, .unset, .unset] [(.int (7 : Int32)), (.int b), (.long x7), (.long ((((((y0 ||| y1) ||| y2) ||| y3) ||| y4) ||| y5) ||| y6))])) rfl (by rw [hml]; rfl) (argsL := [(.long x7), (.int b), (.int (7 : Int32))]) (rest := [(.long ((((((y0 ||| y1) ||| y2) ||| y3) ||| y4) ||| y5) ||| y6))]) (lenOf pd_1 rfl) rfl (by show 2 * 0 + _ ≤ _; exact Nat.le_of_eq rfl) (hb hby at_178) (fun _ _ => ⟨rfl, eh15, (by decide : 0 + 0 ≤ _), (by decide : 0 + 0 ≤ _)⟩)
  dsimp only [Pt.U, Pt.locs, Pt.cells, Pt.slots] at X16 l16 y16 z16 st16 hQ16
  subst l16 y16 z16
  obtain ⟨rfl, N16q, eh16⟩ := hQ16
  have N16 := Fr.app N15 N16q
  obtain ⟨y7, h_y7⟩ : ∃ z : Int64, z = (if (((x7.toUInt64 >>> (((8 : Int32) * (7 : Int32)) &&& 0x3f).toInt64.toUInt64).toInt64) &&& (255 : Int64)) = (b.toInt64) then ((128 : Int64) <<< (((8 : Int32) * (7 : Int32)) &&& 0x3f).toInt64) else (0 : Int64)) := ⟨_, rfl⟩
  obtain ⟨_, _, ⟨T17, L17, k17, n17⟩, -, X17, ⟨Lc17, hQ17, l17, y17, z17⟩, st17⟩ := Jvm.LawKit.callS X16 hx (y := (⟨"com/example/epitome/epitome/csv/PackedBytes", "equal", "(JJ)J"⟩ : MethodName)) hown (mvT hZ (hw _ (List.mem_of_getElem? (i := 11) rfl))) (mvT hZ (hw _ (List.mem_of_getElem? (i := 12) rfl))) (mvT hZ (hw _ (List.mem_of_getElem? (i := 13) rfl))) (mvT hZ (hw _ (List.mem_of_getElem? (i := 14) rfl))) (by decide) (backOf (W := 0) (rm3 l Z A0 hw [] x7 rp  h0 n0 Z0 ) hZ (hw _ (List.mem_of_getElem? (i := 14) rfl)) (hw _ (List.mem_of_getElem? (i := 13) rfl)) (by decide) (by decide)) (g := (mkF m 188 #[.val (.long q0), .second, .val (.int p1), .val (.int p2), .val (.int b), .val (.long x7), .second, .val (.long rp), .second, .val (.long (((((((y0 ||| y1) ||| y2) ||| y3) ||| y4) ||| y5) ||| y6) ||| y7)), .second] [(.long rp), (.long x7)])) rfl (by rw [hml]; rfl) (argsL := [(.long x7), (.long rp)]) (rest := []) (lenOf pd_2 rfl) rfl (by show 2 * 0 + _ ≤ _; exact Nat.le_of_eq rfl) (hb hby at_188) (fun _ _ => ⟨rfl, eh16, (by decide : 0 + 0 ≤ _), (by decide : 0 + 0 ≤ _)⟩)
  dsimp only [Pt.U, Pt.locs, Pt.cells, Pt.slots] at X17 l17 y17 z17 st17 hQ17
  subst l17 y17 z17
  obtain ⟨rfl, N17q, eh17⟩ := hQ17
  have N17 := Fr.app N16 N17q
  obtain ⟨fs, hr, hrun, hended, hW, hsame⟩ := X17.leave (v := some (.int (1 : Int32))) (fun h => by rw [Bd.returns] at h; cases h)
  refine ⟨_, _, pre0 _ ?_, hrun, hended, _, _, rfl, ?_, ⟨_, rfl⟩, hW, hsame.mono (by decide) (by decide)⟩
  · show Steps p.tables e below (s₁.setTop (mkF m 0 #[.val (.long q0), .second, .val (.int p1), .val (.int p2), .unset, .unset, .unset, .unset, .unset, .unset, .unset] [])) _
    refine XS.iloadN X0.here hx rfl (hb hby at_0) rfl ?_
    show Steps p.tables e below (s₁.setTop (mkF m 1 #[.val (.long q0), .second, .val (.int p1), .val (.int p2), .unset, .unset, .unset, .unset, .unset, .unset, .unset] [(.int p1)])) _
    refine XS.sipush X0.here hx rfl (hb hby at_1) ?_
    show Steps p.tables e below (s₁.setTop (mkF m 4 #[.val (.long q0), .second, .val (.int p1), .val (.int p2), .unset, .unset, .unset, .unset, .unset, .unset, .unset] [(.int (255 : Int32)), (.int p1)])) _
    refine XS.iand X0.here hx rfl (hb hby at_4) rfl ?_
    show Steps p.tables e below (s₁.setTop (mkF m 5 #[.val (.long q0), .second, .val (.int p1), .val (.int p2), .unset, .unset, .unset, .unset, .unset, .unset, .unset] [(.int (p1 &&& (255 : Int32)))])) _
    rw [← h_b]
    show Steps p.tables e below (s₁.setTop (mkF m 5 #[.val (.long q0), .second, .val (.int p1), .val (.int p2), .unset, .unset, .unset, .unset, .unset, .unset, .unset] [(.int b)])) _
    refine XS.istore X0.here hx rfl (hb hby at_5) rfl (l' := #[.val (.long q0), .second, .val (.int p1), .val (.int p2), .val (.int b), .unset, .unset, .unset, .unset, .unset, .unset]) rfl ?_
    show Steps p.tables e below (s₁.setTop (mkF m 7 #[.val (.long q0), .second, .val (.int p1), .val (.int p2), .val (.int b), .unset, .unset, .unset, .unset, .unset, .unset] [])) _
    refine XS.lloadN X0.here hx rfl (hb hby at_7) rfl ?_
    show Steps p.tables e below (s₁.setTop (mkF m 8 #[.val (.long q0), .second, .val (.int p1), .val (.int p2), .val (.int b), .unset, .unset, .unset, .unset, .unset, .unset] [(.long q0)])) _
    refine XS.lstore X0.here hx rfl (hb hby at_8) rfl (l' := #[.val (.long q0), .second, .val (.int p1), .val (.int p2), .val (.int b), .val (.long q0), .second, .unset, .unset, .unset, .unset]) rfl ?_
    show Steps p.tables e below (s₁.setTop (mkF m 10 #[.val (.long q0), .second, .val (.int p1), .val (.int p2), .val (.int b), .val (.long q0), .second, .unset, .unset, .unset, .unset] [])) _
    refine XS.lload X0.here hx rfl (hb hby at_10) rfl ?_
    show Steps p.tables e below (s₁.setTop (mkF m 12 #[.val (.long q0), .second, .val (.int p1), .val (.int p2), .val (.int b), .val (.long q0), .second, .unset, .unset, .unset, .unset] [(.long q0)])) _
    refine XS.iconst X0.here hx rfl (hb hby at_12) ?_
    show Steps p.tables e below (s₁.setTop (mkF m 13 #[.val (.long q0), .second, .val (.int p1), .val (.int p2), .val (.int b), .val (.long q0), .second, .unset, .unset, .unset, .unset] [(.int (0 : Int32)), (.long q0)])) _
    refine XS.iloadN X0.here hx rfl (hb hby at_13) rfl ?_
    show Steps p.tables e below (s₁.setTop (mkF m 14 #[.val (.long q0), .second, .val (.int p1), .val (.int p2), .val (.int b), .val (.long q0), .second, .unset, .unset, .unset, .unset] [(.int p2), (.int (0 : Int32)), (.long q0)])) _
    refine XS.iload X0.here hx rfl (hb hby at_14) rfl ?_
    show Steps p.tables e below (s₁.setTop (mkF m 16 #[.val (.long q0), .second, .val (.int p1), .val (.int p2), .val (.int b), .val (.long q0), .second, .unset, .unset, .unset, .unset] [(.int b), (.int p2), (.int (0 : Int32)), (.long q0)])) _
    refine st1 _ ?_
    show Steps p.tables e below (T1.setTop (mkF m 19 #[.val (.long q0), .second, .val (.int p1), .val (.int p2), .val (.int b), .val (.long q0), .second, .unset, .unset, .unset, .unset] [(.long (if (((p2.toUInt32 >>> (((2 : Int32) * (0 : Int32)) &&& 31).toUInt32).toInt32) &&& (3 : Int32)) = (0 : Int32) then q0 else (if (((p2.toUInt32 >>> (((2 : Int32) * (0 : Int32)) &&& 31).toUInt32).toInt32) &&& (3 : Int32)) = (1 : Int32) then ((q0 &&& (((255 : Int64) <<< (((8 : Int32) * (0 : Int32)) &&& 0x3f).toInt64) ^^^ (-1 : Int64))) ||| ((b.toInt64) <<< (((8 : Int32) * (0 : Int32)) &&& 0x3f).toInt64)) else (if (((p2.toUInt32 >>> (((2 : Int32) * (0 : Int32)) &&& 31).toUInt32).toInt32) &&& (3 : Int32)) = (2 : Int32) then ((q0 &&& (((255 : Int64) <<< (((8 : Int32) * (0 : Int32)) &&& 0x3f).toInt64) ^^^ (-1 : Int64))) ||| (((b ^^^ (128 : Int32)).toInt64) <<< (((8 : Int32) * (0 : Int32)) &&& 0x3f).toInt64)) else ((q0 &&& (((255 : Int64) <<< (((8 : Int32) * (0 : Int32)) &&& 0x3f).toInt64) ^^^ (-1 : Int64))) ||| (((b ^^^ (1 : Int32)).toInt64) <<< (((8 : Int32) * (0 : Int32)) &&& 0x3f).toInt64))))))])) _
    rw [← h_x0]
    show Steps p.tables e below (T1.setTop (mkF m 19 #[.val (.long q0), .second, .val (.int p1), .val (.int p2), .val (.int b), .val (.long q0), .second, .unset, .unset, .unset, .unset] [(.long x0)])) _
    refine XS.lstore X1.here hx rfl (hb hby at_19) rfl (l' := #[.val (.long q0), .second, .val (.int p1), .val (.int p2), .val (.int b), .val (.long x0), .second, .unset, .unset, .unset, .unset]) rfl ?_
    show Steps p.tables e below (T1.setTop (mkF m 21 #[.val (.long q0), .second, .val (.int p1), .val (.int p2), .val (.int b), .val (.long x0), .second, .unset, .unset, .unset, .unset] [])) _
    refine XS.lload X1.here hx rfl (hb hby at_21) rfl ?_
    show Steps p.tables e below (T1.setTop (mkF m 23 #[.val (.long q0), .second, .val (.int p1), .val (.int p2), .val (.int b), .val (.long x0), .second, .unset, .unset, .unset, .unset] [(.long x0)])) _
    refine XS.iconst X1.here hx rfl (hb hby at_23) ?_
    show Steps p.tables e below (T1.setTop (mkF m 24 #[.val (.long q0), .second, .val (.int p1), .val (.int p2), .val (.int b), .val (.long x0), .second, .unset, .unset, .unset, .unset] [(.int (1 : Int32)), (.long x0)])) _
    refine XS.iloadN X1.here hx rfl (hb hby at_24) rfl ?_
    show Steps p.tables e below (T1.setTop (mkF m 25 #[.val (.long q0), .second, .val (.int p1), .val (.int p2), .val (.int b), .val (.long x0), .second, .unset, .unset, .unset, .unset] [(.int p2), (.int (1 : Int32)), (.long x0)])) _
    refine XS.iload X1.here hx rfl (hb hby at_25) rfl ?_
    show Steps p.tables e below (T1.setTop (mkF m 27 #[.val (.long q0), .second, .val (.int p1), .val (.int p2), .val (.int b), .val (.long x0), .second, .unset, .unset, .unset, .unset] [(.int b), (.int p2), (.int (1 : Int32)), (.long x0)])) _
    refine st2 _ ?_
    show Steps p.tables e below (T2.setTop (mkF m 30 #[.val (.long q0), .second, .val (.int p1), .val (.int p2), .val (.int b), .val (.long x0), .second, .unset, .unset, .unset, .unset] [(.long (if (((p2.toUInt32 >>> (((2 : Int32) * (1 : Int32)) &&& 31).toUInt32).toInt32) &&& (3 : Int32)) = (0 : Int32) then x0 else (if (((p2.toUInt32 >>> (((2 : Int32) * (1 : Int32)) &&& 31).toUInt32).toInt32) &&& (3 : Int32)) = (1 : Int32) then ((x0 &&& (((255 : Int64) <<< (((8 : Int32) * (1 : Int32)) &&& 0x3f).toInt64) ^^^ (-1 : Int64))) ||| ((b.toInt64) <<< (((8 : Int32) * (1 : Int32)) &&& 0x3f).toInt64)) else (if (((p2.toUInt32 >>> (((2 : Int32) * (1 : Int32)) &&& 31).toUInt32).toInt32) &&& (3 : Int32)) = (2 : Int32) then ((x0 &&& (((255 : Int64) <<< (((8 : Int32) * (1 : Int32)) &&& 0x3f).toInt64) ^^^ (-1 : Int64))) ||| (((b ^^^ (128 : Int32)).toInt64) <<< (((8 : Int32) * (1 : Int32)) &&& 0x3f).toInt64)) else ((x0 &&& (((255 : Int64) <<< (((8 : Int32) * (1 : Int32)) &&& 0x3f).toInt64) ^^^ (-1 : Int64))) ||| (((b ^^^ (1 : Int32)).toInt64) <<< (((8 : Int32) * (1 : Int32)) &&& 0x3f).toInt64))))))])) _
    rw [← h_x1]
    show Steps p.tables e below (T2.setTop (mkF m 30 #[.val (.long q0), .second, .val (.int p1), .val (.int p2), .val (.int b), .val (.long x0), .second, .unset, .unset, .unset, .unset] [(.long x1)])) _
    refine XS.lstore X2.here hx rfl (hb hby at_30) rfl (l' := #[.val (.long q0), .second, .val (.int p1), .val (.int p2), .val (.int b), .val (.long x1), .second, .unset, .unset, .unset, .unset]) rfl ?_
    show Steps p.tables e below (T2.setTop (mkF m 32 #[.val (.long q0), .second, .val (.int p1), .val (.int p2), .val (.int b), .val (.long x1), .second, .unset, .unset, .unset, .unset] [])) _
    refine XS.lload X2.here hx rfl (hb hby at_32) rfl ?_
    show Steps p.tables e below (T2.setTop (mkF m 34 #[.val (.long q0), .second, .val (.int p1), .val (.int p2), .val (.int b), .val (.long x1), .second, .unset, .unset, .unset, .unset] [(.long x1)])) _
    refine XS.iconst X2.here hx rfl (hb hby at_34) ?_
    show Steps p.tables e below (T2.setTop (mkF m 35 #[.val (.long q0), .second, .val (.int p1), .val (.int p2), .val (.int b), .val (.long x1), .second, .unset, .unset, .unset, .unset] [(.int (2 : Int32)), (.long x1)])) _
    refine XS.iloadN X2.here hx rfl (hb hby at_35) rfl ?_
    show Steps p.tables e below (T2.setTop (mkF m 36 #[.val (.long q0), .second, .val (.int p1), .val (.int p2), .val (.int b), .val (.long x1), .second, .unset, .unset, .unset, .unset] [(.int p2), (.int (2 : Int32)), (.long x1)])) _
    refine XS.iload X2.here hx rfl (hb hby at_36) rfl ?_
    show Steps p.tables e below (T2.setTop (mkF m 38 #[.val (.long q0), .second, .val (.int p1), .val (.int p2), .val (.int b), .val (.long x1), .second, .unset, .unset, .unset, .unset] [(.int b), (.int p2), (.int (2 : Int32)), (.long x1)])) _
    refine st3 _ ?_
    show Steps p.tables e below (T3.setTop (mkF m 41 #[.val (.long q0), .second, .val (.int p1), .val (.int p2), .val (.int b), .val (.long x1), .second, .unset, .unset, .unset, .unset] [(.long (if (((p2.toUInt32 >>> (((2 : Int32) * (2 : Int32)) &&& 31).toUInt32).toInt32) &&& (3 : Int32)) = (0 : Int32) then x1 else (if (((p2.toUInt32 >>> (((2 : Int32) * (2 : Int32)) &&& 31).toUInt32).toInt32) &&& (3 : Int32)) = (1 : Int32) then ((x1 &&& (((255 : Int64) <<< (((8 : Int32) * (2 : Int32)) &&& 0x3f).toInt64) ^^^ (-1 : Int64))) ||| ((b.toInt64) <<< (((8 : Int32) * (2 : Int32)) &&& 0x3f).toInt64)) else (if (((p2.toUInt32 >>> (((2 : Int32) * (2 : Int32)) &&& 31).toUInt32).toInt32) &&& (3 : Int32)) = (2 : Int32) then ((x1 &&& (((255 : Int64) <<< (((8 : Int32) * (2 : Int32)) &&& 0x3f).toInt64) ^^^ (-1 : Int64))) ||| (((b ^^^ (128 : Int32)).toInt64) <<< (((8 : Int32) * (2 : Int32)) &&& 0x3f).toInt64)) else ((x1 &&& (((255 : Int64) <<< (((8 : Int32) * (2 : Int32)) &&& 0x3f).toInt64) ^^^ (-1 : Int64))) ||| (((b ^^^ (1 : Int32)).toInt64) <<< (((8 : Int32) * (2 : Int32)) &&& 0x3f).toInt64))))))])) _
    rw [← h_x2]
    show Steps p.tables e below (T3.setTop (mkF m 41 #[.val (.long q0), .second, .val (.int p1), .val (.int p2), .val (.int b), .val (.long x1), .second, .unset, .unset, .unset, .unset] [(.long x2)])) _
    refine XS.lstore X3.here hx rfl (hb hby at_41) rfl (l' := #[.val (.long q0), .second, .val (.int p1), .val (.int p2), .val (.int b), .val (.long x2), .second, .unset, .unset, .unset, .unset]) rfl ?_
    show Steps p.tables e below (T3.setTop (mkF m 43 #[.val (.long q0), .second, .val (.int p1), .val (.int p2), .val (.int b), .val (.long x2), .second, .unset, .unset, .unset, .unset] [])) _
    refine XS.lload X3.here hx rfl (hb hby at_43) rfl ?_
    show Steps p.tables e below (T3.setTop (mkF m 45 #[.val (.long q0), .second, .val (.int p1), .val (.int p2), .val (.int b), .val (.long x2), .second, .unset, .unset, .unset, .unset] [(.long x2)])) _
    refine XS.iconst X3.here hx rfl (hb hby at_45) ?_
    show Steps p.tables e below (T3.setTop (mkF m 46 #[.val (.long q0), .second, .val (.int p1), .val (.int p2), .val (.int b), .val (.long x2), .second, .unset, .unset, .unset, .unset] [(.int (3 : Int32)), (.long x2)])) _
    refine XS.iloadN X3.here hx rfl (hb hby at_46) rfl ?_
    show Steps p.tables e below (T3.setTop (mkF m 47 #[.val (.long q0), .second, .val (.int p1), .val (.int p2), .val (.int b), .val (.long x2), .second, .unset, .unset, .unset, .unset] [(.int p2), (.int (3 : Int32)), (.long x2)])) _
    refine XS.iload X3.here hx rfl (hb hby at_47) rfl ?_
    show Steps p.tables e below (T3.setTop (mkF m 49 #[.val (.long q0), .second, .val (.int p1), .val (.int p2), .val (.int b), .val (.long x2), .second, .unset, .unset, .unset, .unset] [(.int b), (.int p2), (.int (3 : Int32)), (.long x2)])) _
    refine st4 _ ?_
    show Steps p.tables e below (T4.setTop (mkF m 52 #[.val (.long q0), .second, .val (.int p1), .val (.int p2), .val (.int b), .val (.long x2), .second, .unset, .unset, .unset, .unset] [(.long (if (((p2.toUInt32 >>> (((2 : Int32) * (3 : Int32)) &&& 31).toUInt32).toInt32) &&& (3 : Int32)) = (0 : Int32) then x2 else (if (((p2.toUInt32 >>> (((2 : Int32) * (3 : Int32)) &&& 31).toUInt32).toInt32) &&& (3 : Int32)) = (1 : Int32) then ((x2 &&& (((255 : Int64) <<< (((8 : Int32) * (3 : Int32)) &&& 0x3f).toInt64) ^^^ (-1 : Int64))) ||| ((b.toInt64) <<< (((8 : Int32) * (3 : Int32)) &&& 0x3f).toInt64)) else (if (((p2.toUInt32 >>> (((2 : Int32) * (3 : Int32)) &&& 31).toUInt32).toInt32) &&& (3 : Int32)) = (2 : Int32) then ((x2 &&& (((255 : Int64) <<< (((8 : Int32) * (3 : Int32)) &&& 0x3f).toInt64) ^^^ (-1 : Int64))) ||| (((b ^^^ (128 : Int32)).toInt64) <<< (((8 : Int32) * (3 : Int32)) &&& 0x3f).toInt64)) else ((x2 &&& (((255 : Int64) <<< (((8 : Int32) * (3 : Int32)) &&& 0x3f).toInt64) ^^^ (-1 : Int64))) ||| (((b ^^^ (1 : Int32)).toInt64) <<< (((8 : Int32) * (3 : Int32)) &&& 0x3f).toInt64))))))])) _
    rw [← h_x3]
    show Steps p.tables e below (T4.setTop (mkF m 52 #[.val (.long q0), .second, .val (.int p1), .val (.int p2), .val (.int b), .val (.long x2), .second, .unset, .unset, .unset, .unset] [(.long x3)])) _
    refine XS.lstore X4.here hx rfl (hb hby at_52) rfl (l' := #[.val (.long q0), .second, .val (.int p1), .val (.int p2), .val (.int b), .val (.long x3), .second, .unset, .unset, .unset, .unset]) rfl ?_
    show Steps p.tables e below (T4.setTop (mkF m 54 #[.val (.long q0), .second, .val (.int p1), .val (.int p2), .val (.int b), .val (.long x3), .second, .unset, .unset, .unset, .unset] [])) _
    refine XS.lload X4.here hx rfl (hb hby at_54) rfl ?_
    show Steps p.tables e below (T4.setTop (mkF m 56 #[.val (.long q0), .second, .val (.int p1), .val (.int p2), .val (.int b), .val (.long x3), .second, .unset, .unset, .unset, .unset] [(.long x3)])) _
    refine XS.iconst X4.here hx rfl (hb hby at_56) ?_
    show Steps p.tables e below (T4.setTop (mkF m 57 #[.val (.long q0), .second, .val (.int p1), .val (.int p2), .val (.int b), .val (.long x3), .second, .unset, .unset, .unset, .unset] [(.int (4 : Int32)), (.long x3)])) _
    refine XS.iloadN X4.here hx rfl (hb hby at_57) rfl ?_
    show Steps p.tables e below (T4.setTop (mkF m 58 #[.val (.long q0), .second, .val (.int p1), .val (.int p2), .val (.int b), .val (.long x3), .second, .unset, .unset, .unset, .unset] [(.int p2), (.int (4 : Int32)), (.long x3)])) _
    refine XS.iload X4.here hx rfl (hb hby at_58) rfl ?_
    show Steps p.tables e below (T4.setTop (mkF m 60 #[.val (.long q0), .second, .val (.int p1), .val (.int p2), .val (.int b), .val (.long x3), .second, .unset, .unset, .unset, .unset] [(.int b), (.int p2), (.int (4 : Int32)), (.long x3)])) _
    refine st5 _ ?_
    show Steps p.tables e below (T5.setTop (mkF m 63 #[.val (.long q0), .second, .val (.int p1), .val (.int p2), .val (.int b), .val (.long x3), .second, .unset, .unset, .unset, .unset] [(.long (if (((p2.toUInt32 >>> (((2 : Int32) * (4 : Int32)) &&& 31).toUInt32).toInt32) &&& (3 : Int32)) = (0 : Int32) then x3 else (if (((p2.toUInt32 >>> (((2 : Int32) * (4 : Int32)) &&& 31).toUInt32).toInt32) &&& (3 : Int32)) = (1 : Int32) then ((x3 &&& (((255 : Int64) <<< (((8 : Int32) * (4 : Int32)) &&& 0x3f).toInt64) ^^^ (-1 : Int64))) ||| ((b.toInt64) <<< (((8 : Int32) * (4 : Int32)) &&& 0x3f).toInt64)) else (if (((p2.toUInt32 >>> (((2 : Int32) * (4 : Int32)) &&& 31).toUInt32).toInt32) &&& (3 : Int32)) = (2 : Int32) then ((x3 &&& (((255 : Int64) <<< (((8 : Int32) * (4 : Int32)) &&& 0x3f).toInt64) ^^^ (-1 : Int64))) ||| (((b ^^^ (128 : Int32)).toInt64) <<< (((8 : Int32) * (4 : Int32)) &&& 0x3f).toInt64)) else ((x3 &&& (((255 : Int64) <<< (((8 : Int32) * (4 : Int32)) &&& 0x3f).toInt64) ^^^ (-1 : Int64))) ||| (((b ^^^ (1 : Int32)).toInt64) <<< (((8 : Int32) * (4 : Int32)) &&& 0x3f).toInt64))))))])) _
    rw [← h_x4]
    show Steps p.tables e below (T5.setTop (mkF m 63 #[.val (.long q0), .second, .val (.int p1), .val (.int p2), .val (.int b), .val (.long x3), .second, .unset, .unset, .unset, .unset] [(.long x4)])) _
    refine XS.lstore X5.here hx rfl (hb hby at_63) rfl (l' := #[.val (.long q0), .second, .val (.int p1), .val (.int p2), .val (.int b), .val (.long x4), .second, .unset, .unset, .unset, .unset]) rfl ?_
    show Steps p.tables e below (T5.setTop (mkF m 65 #[.val (.long q0), .second, .val (.int p1), .val (.int p2), .val (.int b), .val (.long x4), .second, .unset, .unset, .unset, .unset] [])) _
    refine XS.lload X5.here hx rfl (hb hby at_65) rfl ?_
    show Steps p.tables e below (T5.setTop (mkF m 67 #[.val (.long q0), .second, .val (.int p1), .val (.int p2), .val (.int b), .val (.long x4), .second, .unset, .unset, .unset, .unset] [(.long x4)])) _
    refine XS.iconst X5.here hx rfl (hb hby at_67) ?_
    show Steps p.tables e below (T5.setTop (mkF m 68 #[.val (.long q0), .second, .val (.int p1), .val (.int p2), .val (.int b), .val (.long x4), .second, .unset, .unset, .unset, .unset] [(.int (5 : Int32)), (.long x4)])) _
    refine XS.iloadN X5.here hx rfl (hb hby at_68) rfl ?_
    show Steps p.tables e below (T5.setTop (mkF m 69 #[.val (.long q0), .second, .val (.int p1), .val (.int p2), .val (.int b), .val (.long x4), .second, .unset, .unset, .unset, .unset] [(.int p2), (.int (5 : Int32)), (.long x4)])) _
    refine XS.iload X5.here hx rfl (hb hby at_69) rfl ?_
    show Steps p.tables e below (T5.setTop (mkF m 71 #[.val (.long q0), .second, .val (.int p1), .val (.int p2), .val (.int b), .val (.long x4), .second, .unset, .unset, .unset, .unset] [(.int b), (.int p2), (.int (5 : Int32)), (.long x4)])) _
    refine st6 _ ?_
    show Steps p.tables e below (T6.setTop (mkF m 74 #[.val (.long q0), .second, .val (.int p1), .val (.int p2), .val (.int b), .val (.long x4), .second, .unset, .unset, .unset, .unset] [(.long (if (((p2.toUInt32 >>> (((2 : Int32) * (5 : Int32)) &&& 31).toUInt32).toInt32) &&& (3 : Int32)) = (0 : Int32) then x4 else (if (((p2.toUInt32 >>> (((2 : Int32) * (5 : Int32)) &&& 31).toUInt32).toInt32) &&& (3 : Int32)) = (1 : Int32) then ((x4 &&& (((255 : Int64) <<< (((8 : Int32) * (5 : Int32)) &&& 0x3f).toInt64) ^^^ (-1 : Int64))) ||| ((b.toInt64) <<< (((8 : Int32) * (5 : Int32)) &&& 0x3f).toInt64)) else (if (((p2.toUInt32 >>> (((2 : Int32) * (5 : Int32)) &&& 31).toUInt32).toInt32) &&& (3 : Int32)) = (2 : Int32) then ((x4 &&& (((255 : Int64) <<< (((8 : Int32) * (5 : Int32)) &&& 0x3f).toInt64) ^^^ (-1 : Int64))) ||| (((b ^^^ (128 : Int32)).toInt64) <<< (((8 : Int32) * (5 : Int32)) &&& 0x3f).toInt64)) else ((x4 &&& (((255 : Int64) <<< (((8 : Int32) * (5 : Int32)) &&& 0x3f).toInt64) ^^^ (-1 : Int64))) ||| (((b ^^^ (1 : Int32)).toInt64) <<< (((8 : Int32) * (5 : Int32)) &&& 0x3f).toInt64))))))])) _
    rw [← h_x5]
    show Steps p.tables e below (T6.setTop (mkF m 74 #[.val (.long q0), .second, .val (.int p1), .val (.int p2), .val (.int b), .val (.long x4), .second, .unset, .unset, .unset, .unset] [(.long x5)])) _
    refine XS.lstore X6.here hx rfl (hb hby at_74) rfl (l' := #[.val (.long q0), .second, .val (.int p1), .val (.int p2), .val (.int b), .val (.long x5), .second, .unset, .unset, .unset, .unset]) rfl ?_
    show Steps p.tables e below (T6.setTop (mkF m 76 #[.val (.long q0), .second, .val (.int p1), .val (.int p2), .val (.int b), .val (.long x5), .second, .unset, .unset, .unset, .unset] [])) _
    refine XS.lload X6.here hx rfl (hb hby at_76) rfl ?_
    show Steps p.tables e below (T6.setTop (mkF m 78 #[.val (.long q0), .second, .val (.int p1), .val (.int p2), .val (.int b), .val (.long x5), .second, .unset, .unset, .unset, .unset] [(.long x5)])) _
    refine XS.bipush X6.here hx rfl (hb hby at_78) ?_
    show Steps p.tables e below (T6.setTop (mkF m 80 #[.val (.long q0), .second, .val (.int p1), .val (.int p2), .val (.int b), .val (.long x5), .second, .unset, .unset, .unset, .unset] [(.int (6 : Int32)), (.long x5)])) _
    refine XS.iloadN X6.here hx rfl (hb hby at_80) rfl ?_
    show Steps p.tables e below (T6.setTop (mkF m 81 #[.val (.long q0), .second, .val (.int p1), .val (.int p2), .val (.int b), .val (.long x5), .second, .unset, .unset, .unset, .unset] [(.int p2), (.int (6 : Int32)), (.long x5)])) _
    refine XS.iload X6.here hx rfl (hb hby at_81) rfl ?_
    show Steps p.tables e below (T6.setTop (mkF m 83 #[.val (.long q0), .second, .val (.int p1), .val (.int p2), .val (.int b), .val (.long x5), .second, .unset, .unset, .unset, .unset] [(.int b), (.int p2), (.int (6 : Int32)), (.long x5)])) _
    refine st7 _ ?_
    show Steps p.tables e below (T7.setTop (mkF m 86 #[.val (.long q0), .second, .val (.int p1), .val (.int p2), .val (.int b), .val (.long x5), .second, .unset, .unset, .unset, .unset] [(.long (if (((p2.toUInt32 >>> (((2 : Int32) * (6 : Int32)) &&& 31).toUInt32).toInt32) &&& (3 : Int32)) = (0 : Int32) then x5 else (if (((p2.toUInt32 >>> (((2 : Int32) * (6 : Int32)) &&& 31).toUInt32).toInt32) &&& (3 : Int32)) = (1 : Int32) then ((x5 &&& (((255 : Int64) <<< (((8 : Int32) * (6 : Int32)) &&& 0x3f).toInt64) ^^^ (-1 : Int64))) ||| ((b.toInt64) <<< (((8 : Int32) * (6 : Int32)) &&& 0x3f).toInt64)) else (if (((p2.toUInt32 >>> (((2 : Int32) * (6 : Int32)) &&& 31).toUInt32).toInt32) &&& (3 : Int32)) = (2 : Int32) then ((x5 &&& (((255 : Int64) <<< (((8 : Int32) * (6 : Int32)) &&& 0x3f).toInt64) ^^^ (-1 : Int64))) ||| (((b ^^^ (128 : Int32)).toInt64) <<< (((8 : Int32) * (6 : Int32)) &&& 0x3f).toInt64)) else ((x5 &&& (((255 : Int64) <<< (((8 : Int32) * (6 : Int32)) &&& 0x3f).toInt64) ^^^ (-1 : Int64))) ||| (((b ^^^ (1 : Int32)).toInt64) <<< (((8 : Int32) * (6 : Int32)) &&& 0x3f).toInt64))))))])) _
    rw [← h_x6]
    show Steps p.tables e below (T7.setTop (mkF m 86 #[.val (.long q0), .second, .val (.int p1), .val (.int p2), .val (.int b), .val (.long x5), .second, .unset, .unset, .unset, .unset] [(.long x6)])) _
    refine XS.lstore X7.here hx rfl (hb hby at_86) rfl (l' := #[.val (.long q0), .second, .val (.int p1), .val (.int p2), .val (.int b), .val (.long x6), .second, .unset, .unset, .unset, .unset]) rfl ?_
    show Steps p.tables e below (T7.setTop (mkF m 88 #[.val (.long q0), .second, .val (.int p1), .val (.int p2), .val (.int b), .val (.long x6), .second, .unset, .unset, .unset, .unset] [])) _
    refine XS.lload X7.here hx rfl (hb hby at_88) rfl ?_
    show Steps p.tables e below (T7.setTop (mkF m 90 #[.val (.long q0), .second, .val (.int p1), .val (.int p2), .val (.int b), .val (.long x6), .second, .unset, .unset, .unset, .unset] [(.long x6)])) _
    refine XS.bipush X7.here hx rfl (hb hby at_90) ?_
    show Steps p.tables e below (T7.setTop (mkF m 92 #[.val (.long q0), .second, .val (.int p1), .val (.int p2), .val (.int b), .val (.long x6), .second, .unset, .unset, .unset, .unset] [(.int (7 : Int32)), (.long x6)])) _
    refine XS.iloadN X7.here hx rfl (hb hby at_92) rfl ?_
    show Steps p.tables e below (T7.setTop (mkF m 93 #[.val (.long q0), .second, .val (.int p1), .val (.int p2), .val (.int b), .val (.long x6), .second, .unset, .unset, .unset, .unset] [(.int p2), (.int (7 : Int32)), (.long x6)])) _
    refine XS.iload X7.here hx rfl (hb hby at_93) rfl ?_
    show Steps p.tables e below (T7.setTop (mkF m 95 #[.val (.long q0), .second, .val (.int p1), .val (.int p2), .val (.int b), .val (.long x6), .second, .unset, .unset, .unset, .unset] [(.int b), (.int p2), (.int (7 : Int32)), (.long x6)])) _
    refine st8 _ ?_
    show Steps p.tables e below (T8.setTop (mkF m 98 #[.val (.long q0), .second, .val (.int p1), .val (.int p2), .val (.int b), .val (.long x6), .second, .unset, .unset, .unset, .unset] [(.long (if (((p2.toUInt32 >>> (((2 : Int32) * (7 : Int32)) &&& 31).toUInt32).toInt32) &&& (3 : Int32)) = (0 : Int32) then x6 else (if (((p2.toUInt32 >>> (((2 : Int32) * (7 : Int32)) &&& 31).toUInt32).toInt32) &&& (3 : Int32)) = (1 : Int32) then ((x6 &&& (((255 : Int64) <<< (((8 : Int32) * (7 : Int32)) &&& 0x3f).toInt64) ^^^ (-1 : Int64))) ||| ((b.toInt64) <<< (((8 : Int32) * (7 : Int32)) &&& 0x3f).toInt64)) else (if (((p2.toUInt32 >>> (((2 : Int32) * (7 : Int32)) &&& 31).toUInt32).toInt32) &&& (3 : Int32)) = (2 : Int32) then ((x6 &&& (((255 : Int64) <<< (((8 : Int32) * (7 : Int32)) &&& 0x3f).toInt64) ^^^ (-1 : Int64))) ||| (((b ^^^ (128 : Int32)).toInt64) <<< (((8 : Int32) * (7 : Int32)) &&& 0x3f).toInt64)) else ((x6 &&& (((255 : Int64) <<< (((8 : Int32) * (7 : Int32)) &&& 0x3f).toInt64) ^^^ (-1 : Int64))) ||| (((b ^^^ (1 : Int32)).toInt64) <<< (((8 : Int32) * (7 : Int32)) &&& 0x3f).toInt64))))))])) _
    rw [← h_x7]
    show Steps p.tables e below (T8.setTop (mkF m 98 #[.val (.long q0), .second, .val (.int p1), .val (.int p2), .val (.int b), .val (.long x6), .second, .unset, .unset, .unset, .unset] [(.long x7)])) _
    refine XS.lstore X8.here hx rfl (hb hby at_98) rfl (l' := #[.val (.long q0), .second, .val (.int p1), .val (.int p2), .val (.int b), .val (.long x7), .second, .unset, .unset, .unset, .unset]) rfl ?_
    show Steps p.tables e below (T8.setTop (mkF m 100 #[.val (.long q0), .second, .val (.int p1), .val (.int p2), .val (.int b), .val (.long x7), .second, .unset, .unset, .unset, .unset] [])) _
    refine XS.iload X8.here hx rfl (hb hby at_100) rfl ?_
    show Steps p.tables e below (T8.setTop (mkF m 102 #[.val (.long q0), .second, .val (.int p1), .val (.int p2), .val (.int b), .val (.long x7), .second, .unset, .unset, .unset, .unset] [(.int b)])) _
    refine XS.i2l X8.here hx rfl (hb hby at_102) rfl ?_
    show Steps p.tables e below (T8.setTop (mkF m 103 #[.val (.long q0), .second, .val (.int p1), .val (.int p2), .val (.int b), .val (.long x7), .second, .unset, .unset, .unset, .unset] [(.long (b.toInt64))])) _
    refine X8.ldc2Long hx hown (mvT hZ (hw _ (List.mem_of_getElem? (i := 6) rfl))) (g := (mkF m 103 #[.val (.long q0), .second, .val (.int p1), .val (.int p2), .val (.int b), .val (.long x7), .second, .unset, .unset, .unset, .unset] [(.long (b.toInt64))])) rfl (hb hby at_103) _ ?_
    show Steps p.tables e below (T8.setTop (mkF m 106 #[.val (.long q0), .second, .val (.int p1), .val (.int p2), .val (.int b), .val (.long x7), .second, .unset, .unset, .unset, .unset] [(.long (72340172838076673 : Int64)), (.long (b.toInt64))])) _
    refine XS.lmul X8.here hx rfl (hb hby at_106) rfl ?_
    show Steps p.tables e below (T8.setTop (mkF m 107 #[.val (.long q0), .second, .val (.int p1), .val (.int p2), .val (.int b), .val (.long x7), .second, .unset, .unset, .unset, .unset] [(.long ((b.toInt64) * (72340172838076673 : Int64)))])) _
    rw [← h_rp]
    show Steps p.tables e below (T8.setTop (mkF m 107 #[.val (.long q0), .second, .val (.int p1), .val (.int p2), .val (.int b), .val (.long x7), .second, .unset, .unset, .unset, .unset] [(.long rp)])) _
    refine XS.lstore X8.here hx rfl (hb hby at_107) rfl (l' := #[.val (.long q0), .second, .val (.int p1), .val (.int p2), .val (.int b), .val (.long x7), .second, .val (.long rp), .second, .unset, .unset]) rfl ?_
    show Steps p.tables e below (T8.setTop (mkF m 109 #[.val (.long q0), .second, .val (.int p1), .val (.int p2), .val (.int b), .val (.long x7), .second, .val (.long rp), .second, .unset, .unset] [])) _
    refine XS.lload X8.here hx rfl (hb hby at_109) rfl ?_
    show Steps p.tables e below (T8.setTop (mkF m 111 #[.val (.long q0), .second, .val (.int p1), .val (.int p2), .val (.int b), .val (.long x7), .second, .val (.long rp), .second, .unset, .unset] [(.long x7)])) _
    refine XS.iload X8.here hx rfl (hb hby at_111) rfl ?_
    show Steps p.tables e below (T8.setTop (mkF m 113 #[.val (.long q0), .second, .val (.int p1), .val (.int p2), .val (.int b), .val (.long x7), .second, .val (.long rp), .second, .unset, .unset] [(.int b), (.long x7)])) _
    refine XS.iconst X8.here hx rfl (hb hby at_113) ?_
    show Steps p.tables e below (T8.setTop (mkF m 114 #[.val (.long q0), .second, .val (.int p1), .val (.int p2), .val (.int b), .val (.long x7), .second, .val (.long rp), .second, .unset, .unset] [(.int (0 : Int32)), (.int b), (.long x7)])) _
    refine st9 _ ?_
    show Steps p.tables e below (T9.setTop (mkF m 117 #[.val (.long q0), .second, .val (.int p1), .val (.int p2), .val (.int b), .val (.long x7), .second, .val (.long rp), .second, .unset, .unset] [(.long (if (((x7.toUInt64 >>> (((8 : Int32) * (0 : Int32)) &&& 0x3f).toInt64.toUInt64).toInt64) &&& (255 : Int64)) = (b.toInt64) then ((128 : Int64) <<< (((8 : Int32) * (0 : Int32)) &&& 0x3f).toInt64) else (0 : Int64)))])) _
    rw [← h_y0]
    show Steps p.tables e below (T9.setTop (mkF m 117 #[.val (.long q0), .second, .val (.int p1), .val (.int p2), .val (.int b), .val (.long x7), .second, .val (.long rp), .second, .unset, .unset] [(.long y0)])) _
    refine XS.lload X9.here hx rfl (hb hby at_117) rfl ?_
    show Steps p.tables e below (T9.setTop (mkF m 119 #[.val (.long q0), .second, .val (.int p1), .val (.int p2), .val (.int b), .val (.long x7), .second, .val (.long rp), .second, .unset, .unset] [(.long x7), (.long y0)])) _
    refine XS.iload X9.here hx rfl (hb hby at_119) rfl ?_
    show Steps p.tables e below (T9.setTop (mkF m 121 #[.val (.long q0), .second, .val (.int p1), .val (.int p2), .val (.int b), .val (.long x7), .second, .val (.long rp), .second, .unset, .unset] [(.int b), (.long x7), (.long y0)])) _
    refine XS.iconst X9.here hx rfl (hb hby at_121) ?_
    show Steps p.tables e below (T9.setTop (mkF m 122 #[.val (.long q0), .second, .val (.int p1), .val (.int p2), .val (.int b), .val (.long x7), .second, .val (.long rp), .second, .unset, .unset] [(.int (1 : Int32)), (.int b), (.long x7), (.long y0)])) _
    refine st10 _ ?_
    show Steps p.tables e below (T10.setTop (mkF m 125 #[.val (.long q0), .second, .val (.int p1), .val (.int p2), .val (.int b), .val (.long x7), .second, .val (.long rp), .second, .unset, .unset] [(.long (if (((x7.toUInt64 >>> (((8 : Int32) * (1 : Int32)) &&& 0x3f).toInt64.toUInt64).toInt64) &&& (255 : Int64)) = (b.toInt64) then ((128 : Int64) <<< (((8 : Int32) * (1 : Int32)) &&& 0x3f).toInt64) else (0 : Int64))), (.long y0)])) _
    rw [← h_y1]
    show Steps p.tables e below (T10.setTop (mkF m 125 #[.val (.long q0), .second, .val (.int p1), .val (.int p2), .val (.int b), .val (.long x7), .second, .val (.long rp), .second, .unset, .unset] [(.long y1), (.long y0)])) _
    refine XS.lor X10.here hx rfl (hb hby at_125) rfl ?_
    show Steps p.tables e below (T10.setTop (mkF m 126 #[.val (.long q0), .second, .val (.int p1), .val (.int p2), .val (.int b), .val (.long x7), .second, .val (.long rp), .second, .unset, .unset] [(.long (y0 ||| y1))])) _
    refine XS.lload X10.here hx rfl (hb hby at_126) rfl ?_
    show Steps p.tables e below (T10.setTop (mkF m 128 #[.val (.long q0), .second, .val (.int p1), .val (.int p2), .val (.int b), .val (.long x7), .second, .val (.long rp), .second, .unset, .unset] [(.long x7), (.long (y0 ||| y1))])) _
    refine XS.iload X10.here hx rfl (hb hby at_128) rfl ?_
    show Steps p.tables e below (T10.setTop (mkF m 130 #[.val (.long q0), .second, .val (.int p1), .val (.int p2), .val (.int b), .val (.long x7), .second, .val (.long rp), .second, .unset, .unset] [(.int b), (.long x7), (.long (y0 ||| y1))])) _
    refine XS.iconst X10.here hx rfl (hb hby at_130) ?_
    show Steps p.tables e below (T10.setTop (mkF m 131 #[.val (.long q0), .second, .val (.int p1), .val (.int p2), .val (.int b), .val (.long x7), .second, .val (.long rp), .second, .unset, .unset] [(.int (2 : Int32)), (.int b), (.long x7), (.long (y0 ||| y1))])) _
    refine st11 _ ?_
    show Steps p.tables e below (T11.setTop (mkF m 134 #[.val (.long q0), .second, .val (.int p1), .val (.int p2), .val (.int b), .val (.long x7), .second, .val (.long rp), .second, .unset, .unset] [(.long (if (((x7.toUInt64 >>> (((8 : Int32) * (2 : Int32)) &&& 0x3f).toInt64.toUInt64).toInt64) &&& (255 : Int64)) = (b.toInt64) then ((128 : Int64) <<< (((8 : Int32) * (2 : Int32)) &&& 0x3f).toInt64) else (0 : Int64))), (.long (y0 ||| y1))])) _
    rw [← h_y2]
    show Steps p.tables e below (T11.setTop (mkF m 134 #[.val (.long q0), .second, .val (.int p1), .val (.int p2), .val (.int b), .val (.long x7), .second, .val (.long rp), .second, .unset, .unset] [(.long y2), (.long (y0 ||| y1))])) _
    refine XS.lor X11.here hx rfl (hb hby at_134) rfl ?_
    show Steps p.tables e below (T11.setTop (mkF m 135 #[.val (.long q0), .second, .val (.int p1), .val (.int p2), .val (.int b), .val (.long x7), .second, .val (.long rp), .second, .unset, .unset] [(.long ((y0 ||| y1) ||| y2))])) _
    refine XS.lload X11.here hx rfl (hb hby at_135) rfl ?_
    show Steps p.tables e below (T11.setTop (mkF m 137 #[.val (.long q0), .second, .val (.int p1), .val (.int p2), .val (.int b), .val (.long x7), .second, .val (.long rp), .second, .unset, .unset] [(.long x7), (.long ((y0 ||| y1) ||| y2))])) _
    refine XS.iload X11.here hx rfl (hb hby at_137) rfl ?_
    show Steps p.tables e below (T11.setTop (mkF m 139 #[.val (.long q0), .second, .val (.int p1), .val (.int p2), .val (.int b), .val (.long x7), .second, .val (.long rp), .second, .unset, .unset] [(.int b), (.long x7), (.long ((y0 ||| y1) ||| y2))])) _
    refine XS.iconst X11.here hx rfl (hb hby at_139) ?_
    show Steps p.tables e below (T11.setTop (mkF m 140 #[.val (.long q0), .second, .val (.int p1), .val (.int p2), .val (.int b), .val (.long x7), .second, .val (.long rp), .second, .unset, .unset] [(.int (3 : Int32)), (.int b), (.long x7), (.long ((y0 ||| y1) ||| y2))])) _
    refine st12 _ ?_
    show Steps p.tables e below (T12.setTop (mkF m 143 #[.val (.long q0), .second, .val (.int p1), .val (.int p2), .val (.int b), .val (.long x7), .second, .val (.long rp), .second, .unset, .unset] [(.long (if (((x7.toUInt64 >>> (((8 : Int32) * (3 : Int32)) &&& 0x3f).toInt64.toUInt64).toInt64) &&& (255 : Int64)) = (b.toInt64) then ((128 : Int64) <<< (((8 : Int32) * (3 : Int32)) &&& 0x3f).toInt64) else (0 : Int64))), (.long ((y0 ||| y1) ||| y2))])) _
    rw [← h_y3]
    show Steps p.tables e below (T12.setTop (mkF m 143 #[.val (.long q0), .second, .val (.int p1), .val (.int p2), .val (.int b), .val (.long x7), .second, .val (.long rp), .second, .unset, .unset] [(.long y3), (.long ((y0 ||| y1) ||| y2))])) _
    refine XS.lor X12.here hx rfl (hb hby at_143) rfl ?_
    show Steps p.tables e below (T12.setTop (mkF m 144 #[.val (.long q0), .second, .val (.int p1), .val (.int p2), .val (.int b), .val (.long x7), .second, .val (.long rp), .second, .unset, .unset] [(.long (((y0 ||| y1) ||| y2) ||| y3))])) _
    refine XS.lload X12.here hx rfl (hb hby at_144) rfl ?_
    show Steps p.tables e below (T12.setTop (mkF m 146 #[.val (.long q0), .second, .val (.int p1), .val (.int p2), .val (.int b), .val (.long x7), .second, .val (.long rp), .second, .unset, .unset] [(.long x7), (.long (((y0 ||| y1) ||| y2) ||| y3))])) _
    refine XS.iload X12.here hx rfl (hb hby at_146) rfl ?_
    show Steps p.tables e below (T12.setTop (mkF m 148 #[.val (.long q0), .second, .val (.int p1), .val (.int p2), .val (.int b), .val (.long x7), .second, .val (.long rp), .second, .unset, .unset] [(.int b), (.long x7), (.long (((y0 ||| y1) ||| y2) ||| y3))])) _
    refine XS.iconst X12.here hx rfl (hb hby at_148) ?_
    show Steps p.tables e below (T12.setTop (mkF m 149 #[.val (.long q0), .second, .val (.int p1), .val (.int p2), .val (.int b), .val (.long x7), .second, .val (.long rp), .second, .unset, .unset] [(.int (4 : Int32)), (.int b), (.long x7), (.long (((y0 ||| y1) ||| y2) ||| y3))])) _
    refine st13 _ ?_
    show Steps p.tables e below (T13.setTop (mkF m 152 #[.val (.long q0), .second, .val (.int p1), .val (.int p2), .val (.int b), .val (.long x7), .second, .val (.long rp), .second, .unset, .unset] [(.long (if (((x7.toUInt64 >>> (((8 : Int32) * (4 : Int32)) &&& 0x3f).toInt64.toUInt64).toInt64) &&& (255 : Int64)) = (b.toInt64) then ((128 : Int64) <<< (((8 : Int32) * (4 : Int32)) &&& 0x3f).toInt64) else (0 : Int64))), (.long (((y0 ||| y1) ||| y2) ||| y3))])) _
    rw [← h_y4]
    show Steps p.tables e below (T13.setTop (mkF m 152 #[.val (.long q0), .second, .val (.int p1), .val (.int p2), .val (.int b), .val (.long x7), .second, .val (.long rp), .second, .unset, .unset] [(.long y4), (.long (((y0 ||| y1) ||| y2) ||| y3))])) _
    refine XS.lor X13.here hx rfl (hb hby at_152) rfl ?_
    show Steps p.tables e below (T13.setTop (mkF m 153 #[.val (.long q0), .second, .val (.int p1), .val (.int p2), .val (.int b), .val (.long x7), .second, .val (.long rp), .second, .unset, .unset] [(.long ((((y0 ||| y1) ||| y2) ||| y3) ||| y4))])) _
    refine XS.lload X13.here hx rfl (hb hby at_153) rfl ?_
    show Steps p.tables e below (T13.setTop (mkF m 155 #[.val (.long q0), .second, .val (.int p1), .val (.int p2), .val (.int b), .val (.long x7), .second, .val (.long rp), .second, .unset, .unset] [(.long x7), (.long ((((y0 ||| y1) ||| y2) ||| y3) ||| y4))])) _
    refine XS.iload X13.here hx rfl (hb hby at_155) rfl ?_
    show Steps p.tables e below (T13.setTop (mkF m 157 #[.val (.long q0), .second, .val (.int p1), .val (.int p2), .val (.int b), .val (.long x7), .second, .val (.long rp), .second, .unset, .unset] [(.int b), (.long x7), (.long ((((y0 ||| y1) ||| y2) ||| y3) ||| y4))])) _
    refine XS.iconst X13.here hx rfl (hb hby at_157) ?_
    show Steps p.tables e below (T13.setTop (mkF m 158 #[.val (.long q0), .second, .val (.int p1), .val (.int p2), .val (.int b), .val (.long x7), .second, .val (.long rp), .second, .unset, .unset] [(.int (5 : Int32)), (.int b), (.long x7), (.long ((((y0 ||| y1) ||| y2) ||| y3) ||| y4))])) _
    refine st14 _ ?_
    show Steps p.tables e below (T14.setTop (mkF m 161 #[.val (.long q0), .second, .val (.int p1), .val (.int p2), .val (.int b), .val (.long x7), .second, .val (.long rp), .second, .unset, .unset] [(.long (if (((x7.toUInt64 >>> (((8 : Int32) * (5 : Int32)) &&& 0x3f).toInt64.toUInt64).toInt64) &&& (255 : Int64)) = (b.toInt64) then ((128 : Int64) <<< (((8 : Int32) * (5 : Int32)) &&& 0x3f).toInt64) else (0 : Int64))), (.long ((((y0 ||| y1) ||| y2) ||| y3) ||| y4))])) _
    rw [← h_y5]
    show Steps p.tables e below (T14.setTop (mkF m 161 #[.val (.long q0), .second, .val (.int p1), .val (.int p2), .val (.int b), .val (.long x7), .second, .val (.long rp), .second, .unset, .unset] [(.long y5), (.long ((((y0 ||| y1) ||| y2) ||| y3) ||| y4))])) _
    refine XS.lor X14.here hx rfl (hb hby at_161) rfl ?_
    show Steps p.tables e below (T14.setTop (mkF m 162 #[.val (.long q0), .second, .val (.int p1), .val (.int p2), .val (.int b), .val (.long x7), .second, .val (.long rp), .second, .unset, .unset] [(.long (((((y0 ||| y1) ||| y2) ||| y3) ||| y4) ||| y5))])) _
    refine XS.lload X14.here hx rfl (hb hby at_162) rfl ?_
    show Steps p.tables e below (T14.setTop (mkF m 164 #[.val (.long q0), .second, .val (.int p1), .val (.int p2), .val (.int b), .val (.long x7), .second, .val (.long rp), .second, .unset, .unset] [(.long x7), (.long (((((y0 ||| y1) ||| y2) ||| y3) ||| y4) ||| y5))])) _
    refine XS.iload X14.here hx rfl (hb hby at_164) rfl ?_
    show Steps p.tables e below (T14.setTop (mkF m 166 #[.val (.long q0), .second, .val (.int p1), .val (.int p2), .val (.int b), .val (.long x7), .second, .val (.long rp), .second, .unset, .unset] [(.int b), (.long x7), (.long (((((y0 ||| y1) ||| y2) ||| y3) ||| y4) ||| y5))])) _
    refine XS.bipush X14.here hx rfl (hb hby at_166) ?_
    show Steps p.tables e below (T14.setTop (mkF m 168 #[.val (.long q0), .second, .val (.int p1), .val (.int p2), .val (.int b), .val (.long x7), .second, .val (.long rp), .second, .unset, .unset] [(.int (6 : Int32)), (.int b), (.long x7), (.long (((((y0 ||| y1) ||| y2) ||| y3) ||| y4) ||| y5))])) _
    refine st15 _ ?_
    show Steps p.tables e below (T15.setTop (mkF m 171 #[.val (.long q0), .second, .val (.int p1), .val (.int p2), .val (.int b), .val (.long x7), .second, .val (.long rp), .second, .unset, .unset] [(.long (if (((x7.toUInt64 >>> (((8 : Int32) * (6 : Int32)) &&& 0x3f).toInt64.toUInt64).toInt64) &&& (255 : Int64)) = (b.toInt64) then ((128 : Int64) <<< (((8 : Int32) * (6 : Int32)) &&& 0x3f).toInt64) else (0 : Int64))), (.long (((((y0 ||| y1) ||| y2) ||| y3) ||| y4) ||| y5))])) _
    rw [← h_y6]
    show Steps p.tables e below (T15.setTop (mkF m 171 #[.val (.long q0), .second, .val (.int p1), .val (.int p2), .val (.int b), .val (.long x7), .second, .val (.long rp), .second, .unset, .unset] [(.long y6), (.long (((((y0 ||| y1) ||| y2) ||| y3) ||| y4) ||| y5))])) _
    refine XS.lor X15.here hx rfl (hb hby at_171) rfl ?_
    show Steps p.tables e below (T15.setTop (mkF m 172 #[.val (.long q0), .second, .val (.int p1), .val (.int p2), .val (.int b), .val (.long x7), .second, .val (.long rp), .second, .unset, .unset] [(.long ((((((y0 ||| y1) ||| y2) ||| y3) ||| y4) ||| y5) ||| y6))])) _
    refine XS.lload X15.here hx rfl (hb hby at_172) rfl ?_
    show Steps p.tables e below (T15.setTop (mkF m 174 #[.val (.long q0), .second, .val (.int p1), .val (.int p2), .val (.int b), .val (.long x7), .second, .val (.long rp), .second, .unset, .unset] [(.long x7), (.long ((((((y0 ||| y1) ||| y2) ||| y3) ||| y4) ||| y5) ||| y6))])) _
    refine XS.iload X15.here hx rfl (hb hby at_174) rfl ?_
    show Steps p.tables e below (T15.setTop (mkF m 176 #[.val (.long q0), .second, .val (.int p1), .val (.int p2), .val (.int b), .val (.long x7), .second, .val (.long rp), .second, .unset, .unset] [(.int b), (.long x7), (.long ((((((y0 ||| y1) ||| y2) ||| y3) ||| y4) ||| y5) ||| y6))])) _
    refine XS.bipush X15.here hx rfl (hb hby at_176) ?_
    show Steps p.tables e below (T15.setTop (mkF m 178 #[.val (.long q0), .second, .val (.int p1), .val (.int p2), .val (.int b), .val (.long x7), .second, .val (.long rp), .second, .unset, .unset] [(.int (7 : Int32)), (.int b), (.long x7), (.long ((((((y0 ||| y1) ||| y2) ||| y3) ||| y4) ||| y5) ||| y6))])) _
    refine st16 _ ?_
    show Steps p.tables e below (T16.setTop (mkF m 181 #[.val (.long q0), .second, .val (.int p1), .val (.int p2), .val (.int b), .val (.long x7), .second, .val (.long rp), .second, .unset, .unset] [(.long (if (((x7.toUInt64 >>> (((8 : Int32) * (7 : Int32)) &&& 0x3f).toInt64.toUInt64).toInt64) &&& (255 : Int64)) = (b.toInt64) then ((128 : Int64) <<< (((8 : Int32) * (7 : Int32)) &&& 0x3f).toInt64) else (0 : Int64))), (.long ((((((y0 ||| y1) ||| y2) ||| y3) ||| y4) ||| y5) ||| y6))])) _
    rw [← h_y7]
    show Steps p.tables e below (T16.setTop (mkF m 181 #[.val (.long q0), .second, .val (.int p1), .val (.int p2), .val (.int b), .val (.long x7), .second, .val (.long rp), .second, .unset, .unset] [(.long y7), (.long ((((((y0 ||| y1) ||| y2) ||| y3) ||| y4) ||| y5) ||| y6))])) _
    refine XS.lor X16.here hx rfl (hb hby at_181) rfl ?_
    show Steps p.tables e below (T16.setTop (mkF m 182 #[.val (.long q0), .second, .val (.int p1), .val (.int p2), .val (.int b), .val (.long x7), .second, .val (.long rp), .second, .unset, .unset] [(.long (((((((y0 ||| y1) ||| y2) ||| y3) ||| y4) ||| y5) ||| y6) ||| y7))])) _
    refine XS.lstore X16.here hx rfl (hb hby at_182) rfl (l' := #[.val (.long q0), .second, .val (.int p1), .val (.int p2), .val (.int b), .val (.long x7), .second, .val (.long rp), .second, .val (.long (((((((y0 ||| y1) ||| y2) ||| y3) ||| y4) ||| y5) ||| y6) ||| y7)), .second]) rfl ?_
    show Steps p.tables e below (T16.setTop (mkF m 184 #[.val (.long q0), .second, .val (.int p1), .val (.int p2), .val (.int b), .val (.long x7), .second, .val (.long rp), .second, .val (.long (((((((y0 ||| y1) ||| y2) ||| y3) ||| y4) ||| y5) ||| y6) ||| y7)), .second] [])) _
    refine XS.lload X16.here hx rfl (hb hby at_184) rfl ?_
    show Steps p.tables e below (T16.setTop (mkF m 186 #[.val (.long q0), .second, .val (.int p1), .val (.int p2), .val (.int b), .val (.long x7), .second, .val (.long rp), .second, .val (.long (((((((y0 ||| y1) ||| y2) ||| y3) ||| y4) ||| y5) ||| y6) ||| y7)), .second] [(.long x7)])) _
    refine XS.lload X16.here hx rfl (hb hby at_186) rfl ?_
    show Steps p.tables e below (T16.setTop (mkF m 188 #[.val (.long q0), .second, .val (.int p1), .val (.int p2), .val (.int b), .val (.long x7), .second, .val (.long rp), .second, .val (.long (((((((y0 ||| y1) ||| y2) ||| y3) ||| y4) ||| y5) ||| y6) ||| y7)), .second] [(.long rp), (.long x7)])) _
    refine st17 _ ?_
    show Steps p.tables e below (T17.setTop (mkF m 191 #[.val (.long q0), .second, .val (.int p1), .val (.int p2), .val (.int b), .val (.long x7), .second, .val (.long rp), .second, .val (.long (((((((y0 ||| y1) ||| y2) ||| y3) ||| y4) ||| y5) ||| y6) ||| y7)), .second] [(.long ((((((x7 ^^^ rp) &&& (9187201950435737471 : Int64)) + (9187201950435737471 : Int64)) ||| (x7 ^^^ rp)) ^^^ (-1 : Int64)) &&& (-9187201950435737472 : Int64)))])) _
    refine XS.lload X17.here hx rfl (hb hby at_191) rfl ?_
    show Steps p.tables e below (T17.setTop (mkF m 193 #[.val (.long q0), .second, .val (.int p1), .val (.int p2), .val (.int b), .val (.long x7), .second, .val (.long rp), .second, .val (.long (((((((y0 ||| y1) ||| y2) ||| y3) ||| y4) ||| y5) ||| y6) ||| y7)), .second] [(.long (((((((y0 ||| y1) ||| y2) ||| y3) ||| y4) ||| y5) ||| y6) ||| y7)), (.long ((((((x7 ^^^ rp) &&& (9187201950435737471 : Int64)) + (9187201950435737471 : Int64)) ||| (x7 ^^^ rp)) ^^^ (-1 : Int64)) &&& (-9187201950435737472 : Int64)))])) _
    refine XS.lcmp X17.here hx rfl (hb hby at_193) rfl ?_
    show Steps p.tables e below (T17.setTop (mkF m 194 #[.val (.long q0), .second, .val (.int p1), .val (.int p2), .val (.int b), .val (.long x7), .second, .val (.long rp), .second, .val (.long (((((((y0 ||| y1) ||| y2) ||| y3) ||| y4) ||| y5) ||| y6) ||| y7)), .second] [(.int (lcmpW ((((((x7 ^^^ rp) &&& (9187201950435737471 : Int64)) + (9187201950435737471 : Int64)) ||| (x7 ^^^ rp)) ^^^ (-1 : Int64)) &&& (-9187201950435737472 : Int64)) (((((((y0 ||| y1) ||| y2) ||| y3) ||| y4) ||| y5) ||| y6) ||| y7)))])) _
    refine XS.ifNo X17.here hx rfl (hb hby at_194) rfl ((if0 _ _).trans (teq ((lw_eq _ _).mpr (by rw [h_rp, h_y0, h_y1, h_y2, h_y3, h_y4, h_y5, h_y6, h_y7]; exact own_main x7 b Bb : ((((((x7 ^^^ rp) &&& (9187201950435737471 : Int64)) + (9187201950435737471 : Int64)) ||| (x7 ^^^ rp)) ^^^ (-1 : Int64)) &&& (-9187201950435737472 : Int64)) = (((((((y0 ||| y1) ||| y2) ||| y3) ||| y4) ||| y5) ||| y6) ||| y7)))).2) ?_
    show Steps p.tables e below (T17.setTop (mkF m 197 #[.val (.long q0), .second, .val (.int p1), .val (.int p2), .val (.int b), .val (.long x7), .second, .val (.long rp), .second, .val (.long (((((((y0 ||| y1) ||| y2) ||| y3) ||| y4) ||| y5) ||| y6) ||| y7)), .second] [])) _
    refine XS.iconst X17.here hx rfl (hb hby at_197) ?_
    show Steps p.tables e below (T17.setTop (mkF m 198 #[.val (.long q0), .second, .val (.int p1), .val (.int p2), .val (.int b), .val (.long x7), .second, .val (.long rp), .second, .val (.long (((((((y0 ||| y1) ||| y2) ||| y3) ||| y4) ||| y5) ||| y6) ||| y7)), .second] [(.int (1 : Int32))])) _
    refine XS.goto X17.here hx rfl (pc0 := 198) (pc' := 202) rfl (hb hby at_198) (by decide) (by decide) ?_
    show Steps p.tables e below (T17.setTop (mkF m 202 #[.val (.long q0), .second, .val (.int p1), .val (.int p2), .val (.int b), .val (.long x7), .second, .val (.long rp), .second, .val (.long (((((((y0 ||| y1) ||| y2) ||| y3) ||| y4) ||| y5) ||| y6) ||| y7)), .second] [(.int (1 : Int32))])) _
    exact retN X17 hx (t := .boolean) Bd.returns (by simp) (hb hby at_202) hr
  · show Qrm0 Z q0 p1 p2 h0 n0 _ T17.heap _
    rw [eh17]
    exact ⟨rfl, N17⟩
set_option maxRecDepth 65536 in
set_option maxHeartbeats 40000000 in
theorem comes_1 {Post : Tables → Env → Array Value → State → Outcome → State → Prop} (hpost : ∀ tb e args s v u, (limb_1_1.after args s (.returned v) u = true ∧ limb_1_2.after args s (.returned v) u = true ∧ True) → FrameEnd s (.returned v) u (Jvm.fieldLocs frame_1_writes args s ++ Jvm.arrayLocs frame_1_arrays args s ++ Jvm.staticLocs frame_1_statics s) 0 0 → Post tb e args s (.returned v) u) :
    ArmFor flags0 classFile x code maxLocals ret World_1 tables_1 room_1 Calls_1 rest_1 Pre_1 Post := by
  intro l hfl _ _ p e ha hc hk s m args below hf hA hF happ hP
  obtain ⟨hcalls, hrest, hpre⟩ := hP
  obtain ⟨-, -, -, hnamed, -, -, -, hat⟩ := (Spec.applies_iff hf).mp happ
  obtain ⟨hg, hn⟩ := and_e (Cond.before_iff.mp (show (Jvm.Cond.and given_1 narrow_1).before args s = true from hpre))
  obtain ⟨g1, g2⟩ := and_e hg
  obtain ⟨g3, g4⟩ := and_e g2
  obtain ⟨g5, g6⟩ := and_e g4
  obtain ⟨w0, w1, w2, rfl⟩ : ∃ w0 w1 w2 : Value, args = #[w0, w1, w2] := by
    have hs : args.size = 3 := by simpa [Cond.value, given_1] using g1
    obtain ⟨L⟩ := args
    match L, hs with
    | [w0, w1, w2], _ => exact ⟨w0, w1, w2, rfl⟩
  have hw := fun d (hd : d ∈ tables_1) => atoms_spec (ws := Jvm.Cond.code x code maxLocals ret :: tables_1) hat d (List.mem_cons_of_mem _ hd)
  obtain ⟨i0, ei0⟩ := isL_v g3
  obtain rfl : w0 = (.long i0) := Option.some.inj ei0
  obtain ⟨i1, ei1⟩ := is_v g5
  obtain rfl : w1 = (.int i1) := Option.some.inj ei1
  obtain ⟨i2, ei2⟩ := is_v g6
  obtain rfl : w2 = (.int i2) := Option.some.inj ei2
  obtain ⟨n, o, h1, h2, h3, _, L, rfl, ⟨rfl, N⟩, hq⟩ := rm0 l s _ hw tables_1 i0 i1 i2  s.heap s.heap.size (Nat.le_refl _) p e ha hc hk s m _ below hf ((Spec.applies_iff_loose hf).mp happ).1 ⟨rfl, State.Warmed39.refl s, rfl⟩ trivial
  refine ⟨n, _, h1, h2, h3, hpost _ _ _ _ _ _ ⟨Cond.after_iff.mpr rfl, Cond.after_iff.mpr (eq_i res_at (Term.int_eval (1)) rfl), trivial⟩ ⟨hq.1, hq.2.1, (hq.2.2.sift fun y hy => Or.inr (N y hy)).mono (by decide) (by decide)⟩⟩
theorem main_1_1 : Claimed_1_1 := comes_1 fun _ _ _ _ _ _ h hF => ⟨h.1, hF⟩
theorem main_1_2 : Claimed_1_2 := comes_1 fun _ _ _ _ _ _ h hF => ⟨h.2.1, hF⟩
end Jvm.Pilot.@@N@@
namespace Jvm.Pilot.@@N@@
open Jvm Jvm.ClassFile Sem Op Lib Jvm.Free Jvm.Stand Jvm.Pilot.@@N@@.Jvm.D
/-! MADE BY PROGRAM (witnessworld.py) out of the Statement's table words and the real class files: 9 classes; the members and pool entries that the words name. The judged class is class 1, her method 3. -/
namespace start1
open Jvm.ClassFile
def u (s : String) : CpInfo := .utf8 (stringToUtf16 s)
/-- a pool by its gaps: so many unusable entries, then the entry; so many at the end -/
def gap : Nat → List CpInfo → List CpInfo
  | 0, r => r
  | n + 1, r => .unusable :: gap n r
def poolList (es : List (Nat × CpInfo)) (last : Nat) : List CpInfo := es.foldr (fun e r => gap e.1 (e.2 :: r)) (gap last [])
def pool (es : List (Nat × CpInfo)) (last : Nat) : Array CpInfo := ⟨poolList es last⟩
def fileOf (pool : Array CpInfo) (this : Nat) (attrs : Array Attribute := #[]) (ms : Array MethodInfo := #[]) (fl : Nat := 33) (sup : Nat := 0) (ifs : Array Nat := #[]) (fds : Array FieldInfo := #[]) : ClassFile where
  minorVersion := 0
  majorVersion := 65
  constantPool := pool
  accessFlags := fl
  thisClass := this
  superClass := sup
  interfaces := ifs
  fields := fds
  methods := ms
  attributes := attrs
def plain (name : String) (sup : Option ClassId) : Class where
  name := name
  kind := .ordinary
  loader := none
  accessFlags := 33
  super := sup
  interfaces := #[]
  cf := none
  fields := #[]
  methods := #[]
  instanceTypes := #[]
  staticTypes := #[]
  resolved := #[]
  callSites := []
  init := .initialized
  statics := none
  mirror := none

def pool0 : Array CpInfo := pool [(5, u "<init>"), (0, u "()V"), (1, .class_ 10), (1, u "java/lang/Object")] 113

def k0m0 : Method := { name := "<init>", desc := "()V", sig := { parameters := [], returnType := none }, accessFlags := 1, code := none }
/-- java/lang/Object -/
def k0 : Class := { plain "java/lang/Object" none with
  accessFlags := 33
  interfaces := #[]
  cf := some (fileOf pool0 8 #[] #[{ accessFlags := 1, nameIndex := 5, descriptorIndex := 6, attributes := #[] }] 33 0 #[] #[])
  fields := #[]
  methods := #[k0m0]
  instanceTypes := #[]
  staticTypes := #[]
  resolved := Array.replicate 124 none
  statics := none }

def pool1 : Array CpInfo := pool [(2, .class_ 4), (1, u "java/lang/Object"), (0, u "<init>"), (0, u "()V"), (0, .long 255), (1, .long 18446744073709551615), (1, .long 128), (1, .methodref 14 15), (0, .class_ 16), (0, .nameAndType 17 18), (0, u "com/example/epitome/epitome/csv/PackedBytesEqualPinLaw"), (0, u "put"), (0, u "(JIII)J"), (0, .long 72340172838076673), (1, .methodref 14 22), (0, .nameAndType 23 24), (0, u "bit"), (0, u "(JII)J"), (0, .methodref 26 27), (0, .class_ 28), (0, .nameAndType 29 30), (0, u "com/example/epitome/epitome/csv/PackedBytes"), (0, u "equal"), (0, u "(JJ)J"), (3, u "law"), (0, u "(JII)Z")] 2

def k1m0 : Method := { name := "<init>", desc := "()V", sig := { parameters := [], returnType := none }, accessFlags := 2, code := none }
def k1c1 : Code := { maxStack := 6, maxLocals := 10, code := method_2_code, exceptionTable := #[], attributes := #[] }
def k1m1 : Method := { name := "put", desc := "(JIII)J", sig := { parameters := [.long, .int, .int, .int], returnType := some .long }, accessFlags := 10, code := some k1c1 }
def k1c2 : Code := { maxStack := 4, maxLocals := 5, code := method_3_code, exceptionTable := #[], attributes := #[] }
def k1m2 : Method := { name := "bit", desc := "(JII)J", sig := { parameters := [.long, .int, .int], returnType := some .long }, accessFlags := 10, code := some k1c2 }
def k1c3 : Code := { maxStack := 6, maxLocals := 11, code := code, exceptionTable := #[], attributes := #[] }
def k1m3 : Method := { name := "law", desc := "(JII)Z", sig := { parameters := [.long, .int, .int], returnType := some .boolean }, accessFlags := 9, code := some k1c3 }
/-- com/example/epitome/epitome/csv/PackedBytesEqualPinLaw -/
def k1 : Class := { plain "com/example/epitome/epitome/csv/PackedBytesEqualPinLaw" (some 0) with
  accessFlags := 49
  interfaces := #[]
  cf := some (fileOf pool1 14 #[] #[{ accessFlags := 2, nameIndex := 5, descriptorIndex := 6, attributes := #[] }, { accessFlags := 10, nameIndex := 17, descriptorIndex := 18, attributes := #[] }, { accessFlags := 10, nameIndex := 23, descriptorIndex := 24, attributes := #[] }, { accessFlags := 9, nameIndex := 34, descriptorIndex := 35, attributes := #[] }] 49 2 #[] #[])
  fields := #[]
  methods := #[k1m0, k1m1, k1m2, k1m3]
  instanceTypes := #[]
  staticTypes := #[]
  resolved := Array.replicate 38 none
  statics := none }

def pool2 : Array CpInfo := pool [(4, .class_ 6), (1, u "java/lang/Object"), (0, u "<init>"), (0, u "()V"), (1, .class_ 12), (1, u "com/example/epitome/epitome/csv/PackedBytes"), (0, u "WORDS"), (0, u "Ljava/lang/invoke/VarHandle;"), (10, .long 9187201950435737471), (1, .long 18446744073709551615), (1, .long 9259542123273814144), (44, u "LENGTH"), (0, u "I"), (2, u "EVERY_BYTE"), (0, u "J"), (0, u "LOW_SEVEN_BITS"), (0, u "ONES"), (0, u "ZEROS"), (0, u "SIXES"), (0, u "HIGH_NIBBLES"), (4, u "equal"), (0, u "(JJ)J")] 10

def k2m0 : Method := { name := "<init>", desc := "()V", sig := { parameters := [], returnType := none }, accessFlags := 2, code := none }
def k2c1 : Code := { maxStack := 4, maxLocals := 8, code := prog_12_method_4_code, exceptionTable := #[], attributes := #[] }
def k2m1 : Method := { name := "equal", desc := "(JJ)J", sig := { parameters := [.long, .long], returnType := some .long }, accessFlags := 8, code := some k2c1 }
/-- com/example/epitome/epitome/csv/PackedBytes -/
def k2 : Class := { plain "com/example/epitome/epitome/csv/PackedBytes" (some 0) with
  accessFlags := 48
  interfaces := #[]
  cf := some (fileOf pool2 10 #[] #[{ accessFlags := 2, nameIndex := 7, descriptorIndex := 8, attributes := #[] }, { accessFlags := 8, nameIndex := 89, descriptorIndex := 90, attributes := #[] }] 48 4 #[] #[{ accessFlags := 24, nameIndex := 74, descriptorIndex := 75, attributes := #[] }, { accessFlags := 24, nameIndex := 78, descriptorIndex := 79, attributes := #[] }, { accessFlags := 26, nameIndex := 80, descriptorIndex := 79, attributes := #[] }, { accessFlags := 26, nameIndex := 81, descriptorIndex := 79, attributes := #[] }, { accessFlags := 26, nameIndex := 82, descriptorIndex := 79, attributes := #[] }, { accessFlags := 26, nameIndex := 83, descriptorIndex := 79, attributes := #[] }, { accessFlags := 26, nameIndex := 84, descriptorIndex := 79, attributes := #[] }, { accessFlags := 26, nameIndex := 13, descriptorIndex := 14, attributes := #[] }])
  fields := #[{ name := "LENGTH", type := .int, accessFlags := 24, slot := 0, constantValue := 0 }, { name := "EVERY_BYTE", type := .long, accessFlags := 24, slot := 1, constantValue := 0 }, { name := "LOW_SEVEN_BITS", type := .long, accessFlags := 26, slot := 2, constantValue := 0 }, { name := "ONES", type := .long, accessFlags := 26, slot := 3, constantValue := 0 }, { name := "ZEROS", type := .long, accessFlags := 26, slot := 4, constantValue := 0 }, { name := "SIXES", type := .long, accessFlags := 26, slot := 5, constantValue := 0 }, { name := "HIGH_NIBBLES", type := .long, accessFlags := 26, slot := 6, constantValue := 0 }, { name := "WORDS", type := (.object "java/lang/invoke/VarHandle"), accessFlags := 26, slot := 7, constantValue := 0 }]
  methods := #[k2m0, k2m1]
  instanceTypes := #[]
  staticTypes := #[.int, .long, .long, .long, .long, .long, .long, (.object "java/lang/invoke/VarHandle")]
  resolved := Array.replicate 101 none
  statics := none }

def pool3 : Array CpInfo := pool [(1, u "java/lang/Cloneable"), (0, .class_ 1), (0, u "java/lang/Object"), (0, .class_ 3)] 3

/-- java/lang/Cloneable -/
def k3 : Class := { plain "java/lang/Cloneable" (some 0) with
  accessFlags := 1537
  interfaces := #[]
  cf := some (fileOf pool3 2 #[] #[] 1537 4 #[] #[])
  fields := #[]
  methods := #[]
  instanceTypes := #[]
  staticTypes := #[]
  resolved := Array.replicate 8 none
  statics := none }

def pool4 : Array CpInfo := pool [(1, u "java/io/Serializable"), (0, .class_ 1), (0, u "java/lang/Object"), (0, .class_ 3)] 3

/-- java/io/Serializable -/
def k4 : Class := { plain "java/io/Serializable" (some 0) with
  accessFlags := 1537
  interfaces := #[]
  cf := some (fileOf pool4 2 #[] #[] 1537 4 #[] #[])
  fields := #[]
  methods := #[]
  instanceTypes := #[]
  staticTypes := #[]
  resolved := Array.replicate 8 none
  statics := none }

/-- the primitive byte -/
def k5 : Class := { plain "byte" none with kind := .primitive 'B', accessFlags := 0x411 }
/-- [B -/
def k6 : Class := { plain "[B" (some 0) with kind := .array 5 .byte, interfaces := #[3, 4], accessFlags := 1041 }

/-- the primitive int -/
def k7 : Class := { plain "int" none with kind := .primitive 'I', accessFlags := 0x411 }
/-- [I -/
def k8 : Class := { plain "[I" (some 0) with kind := .array 7 .int, interfaces := #[3, 4], accessFlags := 1041 }

def heap : Heap := #[]
def classes : Array Class := #[k0, k1, k2, k3, k4, k5, k6, k7, k8]
def interned : List (Array UInt16 × Addr) := []
def slotsUsed : Nat := 0
def theMethod : MethodId := ⟨1, 3⟩
def args0 : Array Value := #[.long 5, .int 5, .int 5]
def aboutOver (below : List Frame) : State where
  vm := { classes := classes, interned := interned.toArray }
  heap := heap
  slotsUsed := slotsUsed
  threads := #[{ frames := .invoking theMethod args0 :: below }]
def below0 : List Frame := [.native { method := ⟨0, 0⟩, args := #[] }]
def about1 : State := aboutOver below0
def p0 : Program := .bare "" "" ""
def e0 : Env := launch0.env 0 0 0
theorem w_frames : about1.frames = Frame.invoking theMethod args0 :: below0 := rfl
set_option maxRecDepth 65536 in
theorem w_args : argsFit about1.vm theMethod args0 = true := by decide +kernel
set_option maxRecDepth 65536 in
theorem w_heap : heapFits about1 = true := by decide +kernel
set_option maxRecDepth 65536 in
theorem w_runnable : about1.curStatus? = some .runnable := by decide +kernel
set_option maxRecDepth 65536 in
theorem w_alone : about1.alone = true := by decide +kernel
set_option maxRecDepth 65536 in
theorem w_named : about1.methodNamed? x = some theMethod := by decide +kernel
set_option maxRecDepth 65536 in
theorem w_hears : about1.hears theMethod below0 = true := by decide +kernel
set_option maxRecDepth 65536 in
theorem w_ripe : about1.ripe theMethod args0 below0 = true := by decide +kernel
theorem w_running : about1.status = .running := rfl
set_option maxRecDepth 65536 in
theorem w_room : about1.hasRoom e0.platform room_1 = true :=
  launch0.hasRoom_least _ room_1 (by decide +kernel) (by decide +kernel) (by decide +kernel) (by decide +kernel) (by decide +kernel) (by decide +kernel)
theorem allAtoms_all (ts : List Jvm.Cond) (a : Array Jvm.Value) (st : Jvm.State) : (allAtoms ts).before a st = ts.all (fun c => c.before a st) := by
  induction ts with
  | nil => rfl
  | cons c t ih =>
    show (Jvm.Cond.and c (allAtoms t)).before a st = _
    rw [Jvm.Cond.before_and, ih, List.all_cons]
def words1 : List Jvm.Cond := Jvm.Cond.code x code maxLocals ret :: tables_1
/-- a 'code' word, met by the world's own term for the bytes: nothing is compared byte by byte -/
theorem code_word {y : MethodName} {bytes : ByteArray} {mx : Nat} {rt : Option FieldType} {a : Array Value} {s : State} {m : MethodId} {meth : Method} {c : Code} (h1 : s.methodNamed? y = some m) (h2 : s.vm.method? m = some meth) (h3 : meth.code = some c) (h4 : c.code = bytes)
    (h5 : (c.maxLocals == mx && c.exceptionTable.isEmpty && decide (c.maxStack ≤ mostOperands) && decide (meth.sig.returnType = rt) && !meth.locks && decide (parseMethodDescriptor y.desc = some meth.sig)) = true) : (Jvm.Cond.code y bytes mx rt).before a s = true := by
  simp only [Bool.and_eq_true, beq_iff_eq, Bool.not_eq_true', decide_eq_true_eq] at h5
  obtain ⟨⟨⟨⟨⟨g1, g2⟩, g3⟩, g4⟩, g5⟩, g6⟩ := h5
  simp [Cond.before, Cond.holds, Cond.value, h1, h2, h3, h4, g1, g2, g3, g4, g5, g6]
def isCode : Jvm.Cond → Bool
  | .code _ _ _ _ => true
  | _ => false
theorem all_split {L : List Jvm.Cond} {P : Jvm.Cond → Bool} (h1 : L.all (fun c => isCode c || P c) = true) (h2 : ∀ c ∈ L.filter isCode, P c = true) : L.all P = true := by
  refine List.all_eq_true.mpr fun c hc => ?_
  have h := List.all_eq_true.mp h1 c hc
  rcases Bool.eq_false_or_eq_true (isCode c) with hi | hi
  · exact h2 c (List.mem_filter.mpr ⟨hc, hi⟩)
  · simpa [hi] using h
set_option maxRecDepth 65536 in
theorem w_c0 : (Jvm.Cond.code x code maxLocals ret).before args0 about1 = true := code_word (m := ⟨1, 3⟩) (meth := k1m3) (c := k1c3) (by decide +kernel) rfl rfl rfl (by decide +kernel)
set_option maxRecDepth 65536 in
theorem w_c1 : (Jvm.Cond.code ({ cls := "com/example/epitome/epitome/csv/PackedBytesEqualPinLaw", name := "put", desc := "(JIII)J" } : Jvm.MethodName) method_2_code (10 : Nat) (Option.some Jvm.ClassFile.FieldType.long)).before args0 about1 = true := code_word (m := ⟨1, 1⟩) (meth := k1m1) (c := k1c1) (by decide +kernel) rfl rfl rfl (by decide +kernel)
set_option maxRecDepth 65536 in
theorem w_c2 : (Jvm.Cond.code ({ cls := "com/example/epitome/epitome/csv/PackedBytesEqualPinLaw", name := "bit", desc := "(JII)J" } : Jvm.MethodName) method_3_code (5 : Nat) (Option.some Jvm.ClassFile.FieldType.long)).before args0 about1 = true := code_word (m := ⟨1, 2⟩) (meth := k1m2) (c := k1c2) (by decide +kernel) rfl rfl rfl (by decide +kernel)
set_option maxRecDepth 65536 in
theorem w_c3 : (Jvm.Cond.code ({ cls := "com/example/epitome/epitome/csv/PackedBytes", name := "equal", desc := "(JJ)J" } : Jvm.MethodName) prog_12_method_4_code (8 : Nat) (Option.some Jvm.ClassFile.FieldType.long)).before args0 about1 = true := code_word (m := ⟨2, 1⟩) (meth := k2m1) (c := k2c1) (by decide +kernel) rfl rfl rfl (by decide +kernel)
def codes1 : List Jvm.Cond := [Jvm.Cond.code x code maxLocals ret, Jvm.Cond.code ({ cls := "com/example/epitome/epitome/csv/PackedBytesEqualPinLaw", name := "put", desc := "(JIII)J" } : Jvm.MethodName) method_2_code (10 : Nat) (Option.some Jvm.ClassFile.FieldType.long), Jvm.Cond.code ({ cls := "com/example/epitome/epitome/csv/PackedBytesEqualPinLaw", name := "bit", desc := "(JII)J" } : Jvm.MethodName) method_3_code (5 : Nat) (Option.some Jvm.ClassFile.FieldType.long), Jvm.Cond.code ({ cls := "com/example/epitome/epitome/csv/PackedBytes", name := "equal", desc := "(JJ)J" } : Jvm.MethodName) prog_12_method_4_code (8 : Nat) (Option.some Jvm.ClassFile.FieldType.long)]
set_option maxRecDepth 65536 in
theorem codes_eq : words1.filter isCode = codes1 := rfl
theorem w_codes : ∀ c ∈ words1.filter isCode, c.before args0 about1 = true := by
  rw [codes_eq]
  intro c hc
  simp only [codes1, List.mem_cons, List.not_mem_nil, or_false] at hc
  rcases hc with rfl | rfl | rfl | rfl
  · exact w_c0
  · exact w_c1
  · exact w_c2
  · exact w_c3
set_option maxRecDepth 65536 in
theorem w_t1 : words1.all (fun c => isCode c || c.before args0 about1) = true := by decide +kernel
theorem w_tables : (allAtoms (Jvm.Cond.code x code maxLocals ret :: tables_1)).before args0 about1 = true := by
  rw [allAtoms_all]
  show words1.all (fun c => c.before args0 about1) = true
  refine all_split ?_ w_codes
  rw [w_t1]
set_option maxRecDepth 65536 in
theorem w_case : (Jvm.Cond.and given_1 narrow_1).before args0 about1 = true := by decide +kernel
theorem w_applies : (headSpec (Jvm.Cond.code x code maxLocals ret :: tables_1) room_1).applies x e0.platform about1 = true :=
  (Spec.applies_iff w_frames).mpr ⟨w_running, w_runnable, w_alone, w_named, w_hears, w_ripe, w_room, w_tables⟩
theorem atStart : AtStart classFile x code maxLocals ret World_1 tables_1 room_1 Calls_1 rest_1 Pre_1 launch0 p0 e0 about1 theMethod args0 below0 :=
  ⟨lists_1, trivial, launch0.admits_env _ _ _, launch0.least_env, fairChoices_fair.cas, fairChoices_fair.clock, w_frames, w_args, w_heap, w_applies, trivial, trivial, w_case⟩
end start1
theorem witness_1 : WitnessClaimed_1 := ⟨start1.p0, start1.e0, start1.about1, start1.theMethod, start1.args0, start1.below0, start1.atStart⟩
end Jvm.Pilot.@@N@@
