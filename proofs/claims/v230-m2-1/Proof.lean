import JvmDerived
import JvmDerived.Pilot.@@N@@Statement
import JvmDerived.Pilot.@@N@@Code
set_option linter.unusedVariables false
set_option linter.unusedSimpArgs false
namespace Jvm.RoadKit
open Sem ClassFile Op Lib Jvm.Stand Jvm.Free Jvm.LawKit
section New
variable {p : Program} {l : Launch} {e : Env} {R : Room} {s : State} {m : MethodId} {args : Array Value} {below : List Frame} {meth : Method} {c : Code} {T : State} {locs : List Loc} {cells slots : Nat}
theorem retI (X : Stand p l e R s m args below meth c T locs cells slots) (hx : p.tables.exec = Jvm.exec) {pc : Nat} {Ls : Array Slot} {z : Int32} {rest : List Value} (hret : meth.sig.returnType = some .int) (hd : decode c.code pc = .ok (.ireturn, 1)) {fs : List Frame}
    (hl : ∀ (f : JFrame) (acts : List Action), f.method = m → f.locked = none → f.entered = [] → (doReturn e (T.setTop f) acts (some (.int z))).1 = T.setFrames fs) : Steps p.tables e below (T.setTop (mkF m pc Ls (.int z :: rest))) (T.setFrames fs) := by
  have hm' : T.vm.method? m = some meth := X.method'
  have hn : narrow .int (.int z) = .int z := rfl
  show Steps p.tables e below (T.setTop { method := m, pc := pc, locals := Ls, stack := _ :: rest, locked := none }) _
  jvm_step X.here [X.here.top, hx, hd, hm', hret, hn]
  first | (intro acts; rw [hl _ acts rfl rfl rfl]) | rw [hl _ _ rfl rfl rfl]
  exact Steps.refl _
theorem own_lrem {target : State} (X : Stand p l e R s m args below meth c T locs cells slots) (hx : p.tables.exec = Jvm.exec) {g : JFrame} (hg : g.method = m) {x y : Int64} {rest : List Value} (hd : decode c.code g.pc = .ok (.lrem, 1)) (hs : g.stack = .long y :: .long x :: rest) (hy : y ≠ 0)
    (hr : Steps p.tables e below (T.setTop { g with pc := g.pc + 1, stack := .long (x % y) :: rest }) target) : Steps p.tables e below (T.setTop g) target :=
  XS.lrem X.here hx hg hd hs hy (by rw [lrem_mod]; exact hr)
theorem own_retJ (Y : Stand p l e R s m args below meth c T locs cells slots) (hexec : p.tables.exec = Jvm.exec) {pc : Nat} {Ls : Array Slot} {w : Int64} (hret : meth.sig.returnType = some .long)
    (hdg : decode c.code pc = .ok (.lreturn, 1)) {fs : List Frame} (hleave : ∀ (f : JFrame) (acts : List Action), f.method = m → f.locked = none → f.entered = [] → (doReturn e (T.setTop f) acts (some (.long w))).1 = T.setFrames fs) :
    Steps p.tables e below (T.setTop (mkF m pc Ls [.long w])) (T.setFrames fs) := Y.lreturnOut hexec hret hdg hleave
theorem own_retR (X : Stand p l e R s m args below meth c T locs cells slots) (hx : p.tables.exec = Jvm.exec) {pc : Nat} {Ls : Array Slot} {w : Value} {t : FieldType} {rest : List Value} (hret : meth.sig.returnType = some t) (hn : narrow t w = w) (ht : t.isReference = true) (hw : w.isRef = true)
    (hd : decode c.code pc = .ok (.areturn, 1)) {fs : List Frame} (hl : ∀ (f : JFrame) (acts : List Action), f.method = m → f.locked = none → f.entered = [] → (doReturn e (T.setTop f) acts (some w)).1 = T.setFrames fs) :
    Steps p.tables e below (T.setTop (mkF m pc Ls (w :: rest))) (T.setFrames fs) := retOut X hx hret hn (Or.inr (Or.inr (Or.inr (Or.inr ⟨rfl, ht, hw⟩)))) hd hl
theorem own_via {tb : Tables} {s0 target : State} (s' : State) (h : Steps tb e below s' target → Steps tb e below s0 target) (k : Steps tb e below s' target) : Steps tb e below s0 target := h k
end New
end Jvm.RoadKit
namespace Jvm.Pilot.@@N@@
open Jvm Jvm.ClassFile Sem Op Lib Jvm.Free Jvm.Stand Jvm.LawKit Jvm.RoadKit Bundle Jvm.Pilot.@@N@@.Jvm.D
theorem d1_0 : decode method_3_code 0 = .ok (.lload_n 0, 1) := by decide +kernel
theorem d1_1 : decode method_3_code 1 = .ok (.bipush 63, 2) := by decide +kernel
theorem d1_3 : decode method_3_code 3 = .ok (.lushr, 1) := by decide +kernel
theorem d1_4 : decode method_3_code 4 = .ok (.lconst 0, 1) := by decide +kernel
theorem d1_5 : decode method_3_code 5 = .ok (.lcmp, 1) := by decide +kernel
theorem d1_6 : decode method_3_code 6 = .ok (.ifCond .eq 6, 3) := by decide +kernel
theorem d1_9 : decode method_3_code 9 = .ok (.bipush 10, 2) := by decide +kernel
theorem d1_11 : decode method_3_code 11 = .ok (.ireturn, 1) := by decide +kernel
theorem d1_12 : decode method_3_code 12 = .ok (.lload_n 0, 1) := by decide +kernel
theorem d1_13 : decode method_3_code 13 = .ok (.bipush 56, 2) := by decide +kernel
theorem d1_15 : decode method_3_code 15 = .ok (.lushr, 1) := by decide +kernel
theorem d1_16 : decode method_3_code 16 = .ok (.lconst 0, 1) := by decide +kernel
theorem d1_17 : decode method_3_code 17 = .ok (.lcmp, 1) := by decide +kernel
theorem d1_18 : decode method_3_code 18 = .ok (.ifCond .eq 6, 3) := by decide +kernel
theorem d1_21 : decode method_3_code 21 = .ok (.bipush 9, 2) := by decide +kernel
theorem d1_23 : decode method_3_code 23 = .ok (.ireturn, 1) := by decide +kernel
theorem d1_24 : decode method_3_code 24 = .ok (.lload_n 0, 1) := by decide +kernel
theorem d1_25 : decode method_3_code 25 = .ok (.bipush 49, 2) := by decide +kernel
theorem d1_27 : decode method_3_code 27 = .ok (.lushr, 1) := by decide +kernel
theorem d1_28 : decode method_3_code 28 = .ok (.lconst 0, 1) := by decide +kernel
theorem d1_29 : decode method_3_code 29 = .ok (.lcmp, 1) := by decide +kernel
theorem d1_30 : decode method_3_code 30 = .ok (.ifCond .eq 6, 3) := by decide +kernel
theorem d1_33 : decode method_3_code 33 = .ok (.bipush 8, 2) := by decide +kernel
theorem d1_35 : decode method_3_code 35 = .ok (.ireturn, 1) := by decide +kernel
theorem d1_36 : decode method_3_code 36 = .ok (.lload_n 0, 1) := by decide +kernel
theorem d1_37 : decode method_3_code 37 = .ok (.bipush 42, 2) := by decide +kernel
theorem d1_39 : decode method_3_code 39 = .ok (.lushr, 1) := by decide +kernel
theorem d1_40 : decode method_3_code 40 = .ok (.lconst 0, 1) := by decide +kernel
theorem d1_41 : decode method_3_code 41 = .ok (.lcmp, 1) := by decide +kernel
theorem d1_42 : decode method_3_code 42 = .ok (.ifCond .eq 6, 3) := by decide +kernel
theorem d1_45 : decode method_3_code 45 = .ok (.bipush 7, 2) := by decide +kernel
theorem d1_47 : decode method_3_code 47 = .ok (.ireturn, 1) := by decide +kernel
theorem d1_48 : decode method_3_code 48 = .ok (.lload_n 0, 1) := by decide +kernel
theorem d1_49 : decode method_3_code 49 = .ok (.bipush 35, 2) := by decide +kernel
theorem d1_51 : decode method_3_code 51 = .ok (.lushr, 1) := by decide +kernel
theorem d1_52 : decode method_3_code 52 = .ok (.lconst 0, 1) := by decide +kernel
theorem d1_53 : decode method_3_code 53 = .ok (.lcmp, 1) := by decide +kernel
theorem d1_54 : decode method_3_code 54 = .ok (.ifCond .eq 6, 3) := by decide +kernel
theorem d1_57 : decode method_3_code 57 = .ok (.bipush 6, 2) := by decide +kernel
theorem d1_59 : decode method_3_code 59 = .ok (.ireturn, 1) := by decide +kernel
theorem d1_60 : decode method_3_code 60 = .ok (.lload_n 0, 1) := by decide +kernel
theorem d1_61 : decode method_3_code 61 = .ok (.bipush 28, 2) := by decide +kernel
theorem d1_63 : decode method_3_code 63 = .ok (.lushr, 1) := by decide +kernel
theorem d1_64 : decode method_3_code 64 = .ok (.lconst 0, 1) := by decide +kernel
theorem d1_65 : decode method_3_code 65 = .ok (.lcmp, 1) := by decide +kernel
theorem d1_66 : decode method_3_code 66 = .ok (.ifCond .eq 5, 3) := by decide +kernel
theorem d1_69 : decode method_3_code 69 = .ok (.iconst 5, 1) := by decide +kernel
theorem d1_70 : decode method_3_code 70 = .ok (.ireturn, 1) := by decide +kernel
theorem d1_71 : decode method_3_code 71 = .ok (.lload_n 0, 1) := by decide +kernel
theorem d1_72 : decode method_3_code 72 = .ok (.bipush 21, 2) := by decide +kernel
theorem d1_74 : decode method_3_code 74 = .ok (.lushr, 1) := by decide +kernel
theorem d1_75 : decode method_3_code 75 = .ok (.lconst 0, 1) := by decide +kernel
theorem d1_76 : decode method_3_code 76 = .ok (.lcmp, 1) := by decide +kernel
theorem d1_77 : decode method_3_code 77 = .ok (.ifCond .eq 5, 3) := by decide +kernel
theorem d1_80 : decode method_3_code 80 = .ok (.iconst 4, 1) := by decide +kernel
theorem d1_81 : decode method_3_code 81 = .ok (.ireturn, 1) := by decide +kernel
theorem d1_82 : decode method_3_code 82 = .ok (.lload_n 0, 1) := by decide +kernel
theorem d1_83 : decode method_3_code 83 = .ok (.bipush 14, 2) := by decide +kernel
theorem d1_85 : decode method_3_code 85 = .ok (.lushr, 1) := by decide +kernel
theorem d1_86 : decode method_3_code 86 = .ok (.lconst 0, 1) := by decide +kernel
theorem d1_87 : decode method_3_code 87 = .ok (.lcmp, 1) := by decide +kernel
theorem d1_88 : decode method_3_code 88 = .ok (.ifCond .eq 5, 3) := by decide +kernel
theorem d1_91 : decode method_3_code 91 = .ok (.iconst 3, 1) := by decide +kernel
theorem d1_92 : decode method_3_code 92 = .ok (.ireturn, 1) := by decide +kernel
theorem d1_93 : decode method_3_code 93 = .ok (.lload_n 0, 1) := by decide +kernel
theorem d1_94 : decode method_3_code 94 = .ok (.bipush 7, 2) := by decide +kernel
theorem d1_96 : decode method_3_code 96 = .ok (.lushr, 1) := by decide +kernel
theorem d1_97 : decode method_3_code 97 = .ok (.lconst 0, 1) := by decide +kernel
theorem d1_98 : decode method_3_code 98 = .ok (.lcmp, 1) := by decide +kernel
theorem d1_99 : decode method_3_code 99 = .ok (.ifCond .eq 5, 3) := by decide +kernel
theorem d1_102 : decode method_3_code 102 = .ok (.iconst 2, 1) := by decide +kernel
theorem d1_103 : decode method_3_code 103 = .ok (.ireturn, 1) := by decide +kernel
theorem d1_104 : decode method_3_code 104 = .ok (.iconst 1, 1) := by decide +kernel
theorem d1_105 : decode method_3_code 105 = .ok (.ireturn, 1) := by decide +kernel
theorem pn_1 : plainName "com/example/parley/parley/wire/WireWriterPutUnsignedVarintPinLaw" = true := by first | (simp [plainName, overriddenIn]; done) | decide +kernel
theorem ef_rm1 (m : MethodId) (q0 : Int64) : entryFrame m #[(.long q0)] 2 = mkF m 0 #[.val (.long q0), .second] [] := by first | (simp [entryFrame, mkF, argsToLocals, Value.category]; done) | rfl
def Qrm1 (Z : State) (q0 : Int64) (h0 : Heap) (n0 : Nat) (v : Option Value) (h : Heap) (L : List Loc) : Prop := v = some (.int (if ((q0.toUInt64 >>> ((63 : Int32) &&& 0x3f).toInt64.toUInt64).toInt64) = (0 : Int64) then (if ((q0.toUInt64 >>> ((56 : Int32) &&& 0x3f).toInt64.toUInt64).toInt64) = (0 : Int64) then (if ((q0.toUInt64 >>> ((49 : Int32) &&& 0x3f).toInt64.toUInt64).toInt64) = (0 : Int64) then (if ((q0.toUInt64 >>> ((42 : Int32) &&& 0x3f).toInt64.toUInt64).toInt64) = (0 : Int64) then (if ((q0.toUInt64 >>> ((35 : Int32) &&& 0x3f).toInt64.toUInt64).toInt64) = (0 : Int64) then (if ((q0.toUInt64 >>> ((28 : Int32) &&& 0x3f).toInt64.toUInt64).toInt64) = (0 : Int64) then (if ((q0.toUInt64 >>> ((21 : Int32) &&& 0x3f).toInt64.toUInt64).toInt64) = (0 : Int64) then (if ((q0.toUInt64 >>> ((14 : Int32) &&& 0x3f).toInt64.toUInt64).toInt64) = (0 : Int64) then (if ((q0.toUInt64 >>> ((7 : Int32) &&& 0x3f).toInt64.toUInt64).toInt64) = (0 : Int64) then (1 : Int32) else (2 : Int32)) else (3 : Int32)) else (4 : Int32)) else (5 : Int32)) else (6 : Int32)) else (7 : Int32)) else (8 : Int32)) else (9 : Int32)) else (10 : Int32))) ∧ Fr n0 L ∧ h = h0
set_option maxRecDepth 65536 in
set_option maxHeartbeats 40000000 in
theorem rm1 (l : Launch) (Z : State) (A0 : Array Value) (hw : ∀ d ∈ tables_1, d.before A0 Z = true) (ws : List Jvm.Cond) (q0 : Int64) (h0 : Heap) (n0 : Nat) (Z0 : n0 ≤ h0.size) :
    MetFree l (⟨"com/example/parley/parley/wire/WireWriterPutUnsignedVarintPinLaw", "size", "(J)I"⟩ : MethodName) (head1 (Jvm.Cond.code (⟨"com/example/parley/parley/wire/WireWriterPutUnsignedVarintPinLaw", "size", "(J)I"⟩ : MethodName) method_3_code 2 (some .int) :: ws) ({ frames := 0, cells := 0, slots := 0, locals := 0 } : Room)) (fun a U => a = #[(.long q0)] ∧ Z.Warmed39 U.vm ∧ U.heap = h0) (fun _ _ _ _ _ => True) (fun _ U o U' => ∃ v L, o = .returned v ∧ Qrm1 Z q0 h0 n0 v U'.heap L ∧ FrameEnd U o U' L ({ frames := 0, cells := 0, slots := 0, locals := 0 } : Room).cells ({ frames := 0, cells := 0, slots := 0, locals := 0 } : Room).slots) := by
  refine MetFree.of_bodySF (plainFor_of_name pn_1) hisR ?_
  intro p e s m args below meth c s₁ Bd hml0 hP hK
  obtain ⟨rfl, hZ, hh⟩ := hP
  have hx := Bd.exec
  have hby := Bd.bytes
  have hml : c.maxLocals = 2 := hml0
  have hown : s.vm.findClass "com/example/parley/parley/wire/WireWriterPutUnsignedVarintPinLaw" = some m.cls := findClass_of_methodNamed Bd.named
  have hnm := (name_of_methodNamed Bd.named Bd.method).1
  have X0 : Stand p l e ({ frames := 0, cells := 0, slots := 0, locals := 0 } : Room) s m #[(.long q0)] below meth c s₁ [] 0 0 := Stand.of_body Bd
  have e0 : s₁.heap = h0 := by rw [← hh, Bd.state]; rfl
  have N0 := Fr.nil n0
  have K0 : Keep h0 h0 [] := Keep.refl _ _
  have pre0 : ∀ t, Steps p.tables e below (s₁.setTop (mkF m 0 #[.val (.long q0), .second] [])) t → Steps p.tables e below (s₁.setTop (entryFrame m #[(.long q0)] 2)) t := fun t k => castTop (ef_rm1 m q0) k
  obtain ⟨fs, hr, hrun, hended, hW, hsame⟩ := X0.leave (v := some (.int (if ((q0.toUInt64 >>> ((63 : Int32) &&& 0x3f).toInt64.toUInt64).toInt64) = (0 : Int64) then (if ((q0.toUInt64 >>> ((56 : Int32) &&& 0x3f).toInt64.toUInt64).toInt64) = (0 : Int64) then (if ((q0.toUInt64 >>> ((49 : Int32) &&& 0x3f).toInt64.toUInt64).toInt64) = (0 : Int64) then (if ((q0.toUInt64 >>> ((42 : Int32) &&& 0x3f).toInt64.toUInt64).toInt64) = (0 : Int64) then (if ((q0.toUInt64 >>> ((35 : Int32) &&& 0x3f).toInt64.toUInt64).toInt64) = (0 : Int64) then (if ((q0.toUInt64 >>> ((28 : Int32) &&& 0x3f).toInt64.toUInt64).toInt64) = (0 : Int64) then (if ((q0.toUInt64 >>> ((21 : Int32) &&& 0x3f).toInt64.toUInt64).toInt64) = (0 : Int64) then (if ((q0.toUInt64 >>> ((14 : Int32) &&& 0x3f).toInt64.toUInt64).toInt64) = (0 : Int64) then (if ((q0.toUInt64 >>> ((7 : Int32) &&& 0x3f).toInt64.toUInt64).toInt64) = (0 : Int64) then (1 : Int32) else (2 : Int32)) else (3 : Int32)) else (4 : Int32)) else (5 : Int32)) else (6 : Int32)) else (7 : Int32)) else (8 : Int32)) else (9 : Int32)) else (10 : Int32)))) (fun h => by rw [Bd.returns] at h; cases h)
  refine ⟨_, _, pre0 _ ?_, hrun, hended, _, _, rfl, ?_, ⟨_, rfl⟩, hW, hsame.mono (by decide) (by decide)⟩
  · show Steps p.tables e below (s₁.setTop (mkF m 0 #[.val (.long q0), .second] [])) _
    refine XS.lloadN X0.here hx rfl (hb hby d1_0) rfl ?_
    show Steps p.tables e below (s₁.setTop (mkF m 1 #[.val (.long q0), .second] [(.long q0)])) _
    refine XS.bipush X0.here hx rfl (hb hby d1_1) ?_
    show Steps p.tables e below (s₁.setTop (mkF m 3 #[.val (.long q0), .second] [(.int (63 : Int32)), (.long q0)])) _
    refine XS.lushr X0.here hx rfl (hb hby d1_3) rfl ?_
    show Steps p.tables e below (s₁.setTop (mkF m 4 #[.val (.long q0), .second] [(.long ((q0.toUInt64 >>> ((63 : Int32) &&& 0x3f).toInt64.toUInt64).toInt64))])) _
    refine XS.lconst X0.here hx rfl (hb hby d1_4) ?_
    show Steps p.tables e below (s₁.setTop (mkF m 5 #[.val (.long q0), .second] [(.long (0 : Int64)), (.long ((q0.toUInt64 >>> ((63 : Int32) &&& 0x3f).toInt64.toUInt64).toInt64))])) _
    refine XS.lcmp X0.here hx rfl (hb hby d1_5) rfl ?_
    by_cases hc6 : ((q0.toUInt64 >>> ((63 : Int32) &&& 0x3f).toInt64.toUInt64).toInt64) = (0 : Int64)
    · show Steps p.tables e below (s₁.setTop (mkF m 6 #[.val (.long q0), .second] [(.int (lcmpW ((q0.toUInt64 >>> ((63 : Int32) &&& 0x3f).toInt64.toUInt64).toInt64) (0 : Int64)))])) _
      refine XS.ifYes X0.here hx rfl (pc0 := 6) (pc' := 12) rfl (hb hby d1_6) rfl ((if0 _ _).trans (teq ((lw_eq _ _).mpr hc6)).1) (by decide) (by decide) ?_
      show Steps p.tables e below (s₁.setTop (mkF m 12 #[.val (.long q0), .second] [])) _
      refine XS.lloadN X0.here hx rfl (hb hby d1_12) rfl ?_
      show Steps p.tables e below (s₁.setTop (mkF m 13 #[.val (.long q0), .second] [(.long q0)])) _
      refine XS.bipush X0.here hx rfl (hb hby d1_13) ?_
      show Steps p.tables e below (s₁.setTop (mkF m 15 #[.val (.long q0), .second] [(.int (56 : Int32)), (.long q0)])) _
      refine XS.lushr X0.here hx rfl (hb hby d1_15) rfl ?_
      show Steps p.tables e below (s₁.setTop (mkF m 16 #[.val (.long q0), .second] [(.long ((q0.toUInt64 >>> ((56 : Int32) &&& 0x3f).toInt64.toUInt64).toInt64))])) _
      refine XS.lconst X0.here hx rfl (hb hby d1_16) ?_
      show Steps p.tables e below (s₁.setTop (mkF m 17 #[.val (.long q0), .second] [(.long (0 : Int64)), (.long ((q0.toUInt64 >>> ((56 : Int32) &&& 0x3f).toInt64.toUInt64).toInt64))])) _
      refine XS.lcmp X0.here hx rfl (hb hby d1_17) rfl ?_
      by_cases hc18 : ((q0.toUInt64 >>> ((56 : Int32) &&& 0x3f).toInt64.toUInt64).toInt64) = (0 : Int64)
      · show Steps p.tables e below (s₁.setTop (mkF m 18 #[.val (.long q0), .second] [(.int (lcmpW ((q0.toUInt64 >>> ((56 : Int32) &&& 0x3f).toInt64.toUInt64).toInt64) (0 : Int64)))])) _
        refine XS.ifYes X0.here hx rfl (pc0 := 18) (pc' := 24) rfl (hb hby d1_18) rfl ((if0 _ _).trans (teq ((lw_eq _ _).mpr hc18)).1) (by decide) (by decide) ?_
        show Steps p.tables e below (s₁.setTop (mkF m 24 #[.val (.long q0), .second] [])) _
        refine XS.lloadN X0.here hx rfl (hb hby d1_24) rfl ?_
        show Steps p.tables e below (s₁.setTop (mkF m 25 #[.val (.long q0), .second] [(.long q0)])) _
        refine XS.bipush X0.here hx rfl (hb hby d1_25) ?_
        show Steps p.tables e below (s₁.setTop (mkF m 27 #[.val (.long q0), .second] [(.int (49 : Int32)), (.long q0)])) _
        refine XS.lushr X0.here hx rfl (hb hby d1_27) rfl ?_
        show Steps p.tables e below (s₁.setTop (mkF m 28 #[.val (.long q0), .second] [(.long ((q0.toUInt64 >>> ((49 : Int32) &&& 0x3f).toInt64.toUInt64).toInt64))])) _
        refine XS.lconst X0.here hx rfl (hb hby d1_28) ?_
        show Steps p.tables e below (s₁.setTop (mkF m 29 #[.val (.long q0), .second] [(.long (0 : Int64)), (.long ((q0.toUInt64 >>> ((49 : Int32) &&& 0x3f).toInt64.toUInt64).toInt64))])) _
        refine XS.lcmp X0.here hx rfl (hb hby d1_29) rfl ?_
        by_cases hc30 : ((q0.toUInt64 >>> ((49 : Int32) &&& 0x3f).toInt64.toUInt64).toInt64) = (0 : Int64)
        · show Steps p.tables e below (s₁.setTop (mkF m 30 #[.val (.long q0), .second] [(.int (lcmpW ((q0.toUInt64 >>> ((49 : Int32) &&& 0x3f).toInt64.toUInt64).toInt64) (0 : Int64)))])) _
          refine XS.ifYes X0.here hx rfl (pc0 := 30) (pc' := 36) rfl (hb hby d1_30) rfl ((if0 _ _).trans (teq ((lw_eq _ _).mpr hc30)).1) (by decide) (by decide) ?_
          show Steps p.tables e below (s₁.setTop (mkF m 36 #[.val (.long q0), .second] [])) _
          refine XS.lloadN X0.here hx rfl (hb hby d1_36) rfl ?_
          show Steps p.tables e below (s₁.setTop (mkF m 37 #[.val (.long q0), .second] [(.long q0)])) _
          refine XS.bipush X0.here hx rfl (hb hby d1_37) ?_
          show Steps p.tables e below (s₁.setTop (mkF m 39 #[.val (.long q0), .second] [(.int (42 : Int32)), (.long q0)])) _
          refine XS.lushr X0.here hx rfl (hb hby d1_39) rfl ?_
          show Steps p.tables e below (s₁.setTop (mkF m 40 #[.val (.long q0), .second] [(.long ((q0.toUInt64 >>> ((42 : Int32) &&& 0x3f).toInt64.toUInt64).toInt64))])) _
          refine XS.lconst X0.here hx rfl (hb hby d1_40) ?_
          show Steps p.tables e below (s₁.setTop (mkF m 41 #[.val (.long q0), .second] [(.long (0 : Int64)), (.long ((q0.toUInt64 >>> ((42 : Int32) &&& 0x3f).toInt64.toUInt64).toInt64))])) _
          refine XS.lcmp X0.here hx rfl (hb hby d1_41) rfl ?_
          by_cases hc42 : ((q0.toUInt64 >>> ((42 : Int32) &&& 0x3f).toInt64.toUInt64).toInt64) = (0 : Int64)
          · show Steps p.tables e below (s₁.setTop (mkF m 42 #[.val (.long q0), .second] [(.int (lcmpW ((q0.toUInt64 >>> ((42 : Int32) &&& 0x3f).toInt64.toUInt64).toInt64) (0 : Int64)))])) _
            refine XS.ifYes X0.here hx rfl (pc0 := 42) (pc' := 48) rfl (hb hby d1_42) rfl ((if0 _ _).trans (teq ((lw_eq _ _).mpr hc42)).1) (by decide) (by decide) ?_
            show Steps p.tables e below (s₁.setTop (mkF m 48 #[.val (.long q0), .second] [])) _
            refine XS.lloadN X0.here hx rfl (hb hby d1_48) rfl ?_
            show Steps p.tables e below (s₁.setTop (mkF m 49 #[.val (.long q0), .second] [(.long q0)])) _
            refine XS.bipush X0.here hx rfl (hb hby d1_49) ?_
            show Steps p.tables e below (s₁.setTop (mkF m 51 #[.val (.long q0), .second] [(.int (35 : Int32)), (.long q0)])) _
            refine XS.lushr X0.here hx rfl (hb hby d1_51) rfl ?_
            show Steps p.tables e below (s₁.setTop (mkF m 52 #[.val (.long q0), .second] [(.long ((q0.toUInt64 >>> ((35 : Int32) &&& 0x3f).toInt64.toUInt64).toInt64))])) _
            refine XS.lconst X0.here hx rfl (hb hby d1_52) ?_
            show Steps p.tables e below (s₁.setTop (mkF m 53 #[.val (.long q0), .second] [(.long (0 : Int64)), (.long ((q0.toUInt64 >>> ((35 : Int32) &&& 0x3f).toInt64.toUInt64).toInt64))])) _
            refine XS.lcmp X0.here hx rfl (hb hby d1_53) rfl ?_
            by_cases hc54 : ((q0.toUInt64 >>> ((35 : Int32) &&& 0x3f).toInt64.toUInt64).toInt64) = (0 : Int64)
            · show Steps p.tables e below (s₁.setTop (mkF m 54 #[.val (.long q0), .second] [(.int (lcmpW ((q0.toUInt64 >>> ((35 : Int32) &&& 0x3f).toInt64.toUInt64).toInt64) (0 : Int64)))])) _
              refine XS.ifYes X0.here hx rfl (pc0 := 54) (pc' := 60) rfl (hb hby d1_54) rfl ((if0 _ _).trans (teq ((lw_eq _ _).mpr hc54)).1) (by decide) (by decide) ?_
              show Steps p.tables e below (s₁.setTop (mkF m 60 #[.val (.long q0), .second] [])) _
              refine XS.lloadN X0.here hx rfl (hb hby d1_60) rfl ?_
              show Steps p.tables e below (s₁.setTop (mkF m 61 #[.val (.long q0), .second] [(.long q0)])) _
              refine XS.bipush X0.here hx rfl (hb hby d1_61) ?_
              show Steps p.tables e below (s₁.setTop (mkF m 63 #[.val (.long q0), .second] [(.int (28 : Int32)), (.long q0)])) _
              refine XS.lushr X0.here hx rfl (hb hby d1_63) rfl ?_
              show Steps p.tables e below (s₁.setTop (mkF m 64 #[.val (.long q0), .second] [(.long ((q0.toUInt64 >>> ((28 : Int32) &&& 0x3f).toInt64.toUInt64).toInt64))])) _
              refine XS.lconst X0.here hx rfl (hb hby d1_64) ?_
              show Steps p.tables e below (s₁.setTop (mkF m 65 #[.val (.long q0), .second] [(.long (0 : Int64)), (.long ((q0.toUInt64 >>> ((28 : Int32) &&& 0x3f).toInt64.toUInt64).toInt64))])) _
              refine XS.lcmp X0.here hx rfl (hb hby d1_65) rfl ?_
              by_cases hc66 : ((q0.toUInt64 >>> ((28 : Int32) &&& 0x3f).toInt64.toUInt64).toInt64) = (0 : Int64)
              · show Steps p.tables e below (s₁.setTop (mkF m 66 #[.val (.long q0), .second] [(.int (lcmpW ((q0.toUInt64 >>> ((28 : Int32) &&& 0x3f).toInt64.toUInt64).toInt64) (0 : Int64)))])) _
                refine XS.ifYes X0.here hx rfl (pc0 := 66) (pc' := 71) rfl (hb hby d1_66) rfl ((if0 _ _).trans (teq ((lw_eq _ _).mpr hc66)).1) (by decide) (by decide) ?_
                show Steps p.tables e below (s₁.setTop (mkF m 71 #[.val (.long q0), .second] [])) _
                refine XS.lloadN X0.here hx rfl (hb hby d1_71) rfl ?_
                show Steps p.tables e below (s₁.setTop (mkF m 72 #[.val (.long q0), .second] [(.long q0)])) _
                refine XS.bipush X0.here hx rfl (hb hby d1_72) ?_
                show Steps p.tables e below (s₁.setTop (mkF m 74 #[.val (.long q0), .second] [(.int (21 : Int32)), (.long q0)])) _
                refine XS.lushr X0.here hx rfl (hb hby d1_74) rfl ?_
                show Steps p.tables e below (s₁.setTop (mkF m 75 #[.val (.long q0), .second] [(.long ((q0.toUInt64 >>> ((21 : Int32) &&& 0x3f).toInt64.toUInt64).toInt64))])) _
                refine XS.lconst X0.here hx rfl (hb hby d1_75) ?_
                show Steps p.tables e below (s₁.setTop (mkF m 76 #[.val (.long q0), .second] [(.long (0 : Int64)), (.long ((q0.toUInt64 >>> ((21 : Int32) &&& 0x3f).toInt64.toUInt64).toInt64))])) _
                refine XS.lcmp X0.here hx rfl (hb hby d1_76) rfl ?_
                by_cases hc77 : ((q0.toUInt64 >>> ((21 : Int32) &&& 0x3f).toInt64.toUInt64).toInt64) = (0 : Int64)
                · show Steps p.tables e below (s₁.setTop (mkF m 77 #[.val (.long q0), .second] [(.int (lcmpW ((q0.toUInt64 >>> ((21 : Int32) &&& 0x3f).toInt64.toUInt64).toInt64) (0 : Int64)))])) _
                  refine XS.ifYes X0.here hx rfl (pc0 := 77) (pc' := 82) rfl (hb hby d1_77) rfl ((if0 _ _).trans (teq ((lw_eq _ _).mpr hc77)).1) (by decide) (by decide) ?_
                  show Steps p.tables e below (s₁.setTop (mkF m 82 #[.val (.long q0), .second] [])) _
                  refine XS.lloadN X0.here hx rfl (hb hby d1_82) rfl ?_
                  show Steps p.tables e below (s₁.setTop (mkF m 83 #[.val (.long q0), .second] [(.long q0)])) _
                  refine XS.bipush X0.here hx rfl (hb hby d1_83) ?_
                  show Steps p.tables e below (s₁.setTop (mkF m 85 #[.val (.long q0), .second] [(.int (14 : Int32)), (.long q0)])) _
                  refine XS.lushr X0.here hx rfl (hb hby d1_85) rfl ?_
                  show Steps p.tables e below (s₁.setTop (mkF m 86 #[.val (.long q0), .second] [(.long ((q0.toUInt64 >>> ((14 : Int32) &&& 0x3f).toInt64.toUInt64).toInt64))])) _
                  refine XS.lconst X0.here hx rfl (hb hby d1_86) ?_
                  show Steps p.tables e below (s₁.setTop (mkF m 87 #[.val (.long q0), .second] [(.long (0 : Int64)), (.long ((q0.toUInt64 >>> ((14 : Int32) &&& 0x3f).toInt64.toUInt64).toInt64))])) _
                  refine XS.lcmp X0.here hx rfl (hb hby d1_87) rfl ?_
                  by_cases hc88 : ((q0.toUInt64 >>> ((14 : Int32) &&& 0x3f).toInt64.toUInt64).toInt64) = (0 : Int64)
                  · show Steps p.tables e below (s₁.setTop (mkF m 88 #[.val (.long q0), .second] [(.int (lcmpW ((q0.toUInt64 >>> ((14 : Int32) &&& 0x3f).toInt64.toUInt64).toInt64) (0 : Int64)))])) _
                    refine XS.ifYes X0.here hx rfl (pc0 := 88) (pc' := 93) rfl (hb hby d1_88) rfl ((if0 _ _).trans (teq ((lw_eq _ _).mpr hc88)).1) (by decide) (by decide) ?_
                    show Steps p.tables e below (s₁.setTop (mkF m 93 #[.val (.long q0), .second] [])) _
                    refine XS.lloadN X0.here hx rfl (hb hby d1_93) rfl ?_
                    show Steps p.tables e below (s₁.setTop (mkF m 94 #[.val (.long q0), .second] [(.long q0)])) _
                    refine XS.bipush X0.here hx rfl (hb hby d1_94) ?_
                    show Steps p.tables e below (s₁.setTop (mkF m 96 #[.val (.long q0), .second] [(.int (7 : Int32)), (.long q0)])) _
                    refine XS.lushr X0.here hx rfl (hb hby d1_96) rfl ?_
                    show Steps p.tables e below (s₁.setTop (mkF m 97 #[.val (.long q0), .second] [(.long ((q0.toUInt64 >>> ((7 : Int32) &&& 0x3f).toInt64.toUInt64).toInt64))])) _
                    refine XS.lconst X0.here hx rfl (hb hby d1_97) ?_
                    show Steps p.tables e below (s₁.setTop (mkF m 98 #[.val (.long q0), .second] [(.long (0 : Int64)), (.long ((q0.toUInt64 >>> ((7 : Int32) &&& 0x3f).toInt64.toUInt64).toInt64))])) _
                    refine XS.lcmp X0.here hx rfl (hb hby d1_98) rfl ?_
                    by_cases hc99 : ((q0.toUInt64 >>> ((7 : Int32) &&& 0x3f).toInt64.toUInt64).toInt64) = (0 : Int64)
                    · show Steps p.tables e below (s₁.setTop (mkF m 99 #[.val (.long q0), .second] [(.int (lcmpW ((q0.toUInt64 >>> ((7 : Int32) &&& 0x3f).toInt64.toUInt64).toInt64) (0 : Int64)))])) _
                      refine XS.ifYes X0.here hx rfl (pc0 := 99) (pc' := 104) rfl (hb hby d1_99) rfl ((if0 _ _).trans (teq ((lw_eq _ _).mpr hc99)).1) (by decide) (by decide) ?_
                      show Steps p.tables e below (s₁.setTop (mkF m 104 #[.val (.long q0), .second] [])) _
                      refine XS.iconst X0.here hx rfl (hb hby d1_104) ?_
                      show Steps p.tables e below (s₁.setTop (mkF m 105 #[.val (.long q0), .second] [(.int (1 : Int32))])) _
                      simp only [if_pos hc6, if_pos hc18, if_pos hc30, if_pos hc42, if_pos hc54, if_pos hc66, if_pos hc77, if_pos hc88, if_pos hc99] at hr
                      exact retI X0 hx Bd.returns (hb hby d1_105) hr
                    · show Steps p.tables e below (s₁.setTop (mkF m 99 #[.val (.long q0), .second] [(.int (lcmpW ((q0.toUInt64 >>> ((7 : Int32) &&& 0x3f).toInt64.toUInt64).toInt64) (0 : Int64)))])) _
                      refine XS.ifNo X0.here hx rfl (hb hby d1_99) rfl ((if0 _ _).trans (feq (mt (lw_eq _ _).mp hc99)).1) ?_
                      show Steps p.tables e below (s₁.setTop (mkF m 102 #[.val (.long q0), .second] [])) _
                      refine XS.iconst X0.here hx rfl (hb hby d1_102) ?_
                      show Steps p.tables e below (s₁.setTop (mkF m 103 #[.val (.long q0), .second] [(.int (2 : Int32))])) _
                      simp only [if_pos hc6, if_pos hc18, if_pos hc30, if_pos hc42, if_pos hc54, if_pos hc66, if_pos hc77, if_pos hc88, if_neg hc99] at hr
                      exact retI X0 hx Bd.returns (hb hby d1_103) hr
                  · show Steps p.tables e below (s₁.setTop (mkF m 88 #[.val (.long q0), .second] [(.int (lcmpW ((q0.toUInt64 >>> ((14 : Int32) &&& 0x3f).toInt64.toUInt64).toInt64) (0 : Int64)))])) _
                    refine XS.ifNo X0.here hx rfl (hb hby d1_88) rfl ((if0 _ _).trans (feq (mt (lw_eq _ _).mp hc88)).1) ?_
                    show Steps p.tables e below (s₁.setTop (mkF m 91 #[.val (.long q0), .second] [])) _
                    refine XS.iconst X0.here hx rfl (hb hby d1_91) ?_
                    show Steps p.tables e below (s₁.setTop (mkF m 92 #[.val (.long q0), .second] [(.int (3 : Int32))])) _
                    simp only [if_pos hc6, if_pos hc18, if_pos hc30, if_pos hc42, if_pos hc54, if_pos hc66, if_pos hc77, if_neg hc88] at hr
                    exact retI X0 hx Bd.returns (hb hby d1_92) hr
                · show Steps p.tables e below (s₁.setTop (mkF m 77 #[.val (.long q0), .second] [(.int (lcmpW ((q0.toUInt64 >>> ((21 : Int32) &&& 0x3f).toInt64.toUInt64).toInt64) (0 : Int64)))])) _
                  refine XS.ifNo X0.here hx rfl (hb hby d1_77) rfl ((if0 _ _).trans (feq (mt (lw_eq _ _).mp hc77)).1) ?_
                  show Steps p.tables e below (s₁.setTop (mkF m 80 #[.val (.long q0), .second] [])) _
                  refine XS.iconst X0.here hx rfl (hb hby d1_80) ?_
                  show Steps p.tables e below (s₁.setTop (mkF m 81 #[.val (.long q0), .second] [(.int (4 : Int32))])) _
                  simp only [if_pos hc6, if_pos hc18, if_pos hc30, if_pos hc42, if_pos hc54, if_pos hc66, if_neg hc77] at hr
                  exact retI X0 hx Bd.returns (hb hby d1_81) hr
              · show Steps p.tables e below (s₁.setTop (mkF m 66 #[.val (.long q0), .second] [(.int (lcmpW ((q0.toUInt64 >>> ((28 : Int32) &&& 0x3f).toInt64.toUInt64).toInt64) (0 : Int64)))])) _
                refine XS.ifNo X0.here hx rfl (hb hby d1_66) rfl ((if0 _ _).trans (feq (mt (lw_eq _ _).mp hc66)).1) ?_
                show Steps p.tables e below (s₁.setTop (mkF m 69 #[.val (.long q0), .second] [])) _
                refine XS.iconst X0.here hx rfl (hb hby d1_69) ?_
                show Steps p.tables e below (s₁.setTop (mkF m 70 #[.val (.long q0), .second] [(.int (5 : Int32))])) _
                simp only [if_pos hc6, if_pos hc18, if_pos hc30, if_pos hc42, if_pos hc54, if_neg hc66] at hr
                exact retI X0 hx Bd.returns (hb hby d1_70) hr
            · show Steps p.tables e below (s₁.setTop (mkF m 54 #[.val (.long q0), .second] [(.int (lcmpW ((q0.toUInt64 >>> ((35 : Int32) &&& 0x3f).toInt64.toUInt64).toInt64) (0 : Int64)))])) _
              refine XS.ifNo X0.here hx rfl (hb hby d1_54) rfl ((if0 _ _).trans (feq (mt (lw_eq _ _).mp hc54)).1) ?_
              show Steps p.tables e below (s₁.setTop (mkF m 57 #[.val (.long q0), .second] [])) _
              refine XS.bipush X0.here hx rfl (hb hby d1_57) ?_
              show Steps p.tables e below (s₁.setTop (mkF m 59 #[.val (.long q0), .second] [(.int (6 : Int32))])) _
              simp only [if_pos hc6, if_pos hc18, if_pos hc30, if_pos hc42, if_neg hc54] at hr
              exact retI X0 hx Bd.returns (hb hby d1_59) hr
          · show Steps p.tables e below (s₁.setTop (mkF m 42 #[.val (.long q0), .second] [(.int (lcmpW ((q0.toUInt64 >>> ((42 : Int32) &&& 0x3f).toInt64.toUInt64).toInt64) (0 : Int64)))])) _
            refine XS.ifNo X0.here hx rfl (hb hby d1_42) rfl ((if0 _ _).trans (feq (mt (lw_eq _ _).mp hc42)).1) ?_
            show Steps p.tables e below (s₁.setTop (mkF m 45 #[.val (.long q0), .second] [])) _
            refine XS.bipush X0.here hx rfl (hb hby d1_45) ?_
            show Steps p.tables e below (s₁.setTop (mkF m 47 #[.val (.long q0), .second] [(.int (7 : Int32))])) _
            simp only [if_pos hc6, if_pos hc18, if_pos hc30, if_neg hc42] at hr
            exact retI X0 hx Bd.returns (hb hby d1_47) hr
        · show Steps p.tables e below (s₁.setTop (mkF m 30 #[.val (.long q0), .second] [(.int (lcmpW ((q0.toUInt64 >>> ((49 : Int32) &&& 0x3f).toInt64.toUInt64).toInt64) (0 : Int64)))])) _
          refine XS.ifNo X0.here hx rfl (hb hby d1_30) rfl ((if0 _ _).trans (feq (mt (lw_eq _ _).mp hc30)).1) ?_
          show Steps p.tables e below (s₁.setTop (mkF m 33 #[.val (.long q0), .second] [])) _
          refine XS.bipush X0.here hx rfl (hb hby d1_33) ?_
          show Steps p.tables e below (s₁.setTop (mkF m 35 #[.val (.long q0), .second] [(.int (8 : Int32))])) _
          simp only [if_pos hc6, if_pos hc18, if_neg hc30] at hr
          exact retI X0 hx Bd.returns (hb hby d1_35) hr
      · show Steps p.tables e below (s₁.setTop (mkF m 18 #[.val (.long q0), .second] [(.int (lcmpW ((q0.toUInt64 >>> ((56 : Int32) &&& 0x3f).toInt64.toUInt64).toInt64) (0 : Int64)))])) _
        refine XS.ifNo X0.here hx rfl (hb hby d1_18) rfl ((if0 _ _).trans (feq (mt (lw_eq _ _).mp hc18)).1) ?_
        show Steps p.tables e below (s₁.setTop (mkF m 21 #[.val (.long q0), .second] [])) _
        refine XS.bipush X0.here hx rfl (hb hby d1_21) ?_
        show Steps p.tables e below (s₁.setTop (mkF m 23 #[.val (.long q0), .second] [(.int (9 : Int32))])) _
        simp only [if_pos hc6, if_neg hc18] at hr
        exact retI X0 hx Bd.returns (hb hby d1_23) hr
    · show Steps p.tables e below (s₁.setTop (mkF m 6 #[.val (.long q0), .second] [(.int (lcmpW ((q0.toUInt64 >>> ((63 : Int32) &&& 0x3f).toInt64.toUInt64).toInt64) (0 : Int64)))])) _
      refine XS.ifNo X0.here hx rfl (hb hby d1_6) rfl ((if0 _ _).trans (feq (mt (lw_eq _ _).mp hc6)).1) ?_
      show Steps p.tables e below (s₁.setTop (mkF m 9 #[.val (.long q0), .second] [])) _
      refine XS.bipush X0.here hx rfl (hb hby d1_9) ?_
      show Steps p.tables e below (s₁.setTop (mkF m 11 #[.val (.long q0), .second] [(.int (10 : Int32))])) _
      simp only [if_neg hc6] at hr
      exact retI X0 hx Bd.returns (hb hby d1_11) hr
  · show Qrm1 Z q0 h0 n0 _ s₁.heap _
    rw [e0]
    exact ⟨rfl, N0, rfl⟩
def own_hi (v : Int64) : Int32 := nar .byte (((v &&& (127 : Int64)) ||| (128 : Int64)).toInt32.toInt8.toInt32)
def own_lo (v : Int64) : Int32 := nar .byte (v.toInt32.toInt8.toInt32)
theorem own_idx {en : Nat} (h : en < 15) : (Int32.ofNat en).toNatClampNeg = en := (by decide : ∀ k : Fin 15, (Int32.ofNat k.1).toNatClampNeg = k.1) ⟨en, h⟩
theorem own_inb {en : Nat} (h : en < 15) : ¬ ((Int32.ofNat en) < 0) ∧ (Int32.ofNat en) < (15 : Int32) := (by decide : ∀ k : Fin 15, ¬ ((Int32.ofNat k.1) < 0) ∧ (Int32.ofNat k.1) < (15 : Int32)) ⟨en, h⟩

theorem d2_3 : decode prog_374_method_13_code 3 = .ok (.lconst 0, 1) := by decide +kernel
theorem d2_4 : decode prog_374_method_13_code 4 = .ok (.lload_n 2, 1) := by decide +kernel
theorem d2_5 : decode prog_374_method_13_code 5 = .ok (.ldc2_w 64, 3) := by decide +kernel
theorem d2_8 : decode prog_374_method_13_code 8 = .ok (.land, 1) := by decide +kernel
theorem d2_9 : decode prog_374_method_13_code 9 = .ok (.lcmp, 1) := by decide +kernel
theorem d2_10 : decode prog_374_method_13_code 10 = .ok (.ifCond .eq 29, 3) := by decide +kernel
theorem d2_13 : decode prog_374_method_13_code 13 = .ok (.aload_n 0, 1) := by decide +kernel
theorem d2_14 : decode prog_374_method_13_code 14 = .ok (.iload 4, 2) := by decide +kernel
theorem d2_16 : decode prog_374_method_13_code 16 = .ok (.iinc 4 1, 3) := by decide +kernel
theorem d2_19 : decode prog_374_method_13_code 19 = .ok (.lload_n 2, 1) := by decide +kernel
theorem d2_20 : decode prog_374_method_13_code 20 = .ok (.ldc2_w 66, 3) := by decide +kernel
theorem d2_23 : decode prog_374_method_13_code 23 = .ok (.land, 1) := by decide +kernel
theorem d2_24 : decode prog_374_method_13_code 24 = .ok (.ldc2_w 68, 3) := by decide +kernel
theorem d2_27 : decode prog_374_method_13_code 27 = .ok (.lor, 1) := by decide +kernel
theorem d2_28 : decode prog_374_method_13_code 28 = .ok (.l2i, 1) := by decide +kernel
theorem d2_29 : decode prog_374_method_13_code 29 = .ok (.i2b, 1) := by decide +kernel
theorem d2_30 : decode prog_374_method_13_code 30 = .ok (.bastore, 1) := by decide +kernel
theorem d2_31 : decode prog_374_method_13_code 31 = .ok (.lload_n 2, 1) := by decide +kernel
theorem d2_32 : decode prog_374_method_13_code 32 = .ok (.bipush 7, 2) := by decide +kernel
theorem d2_34 : decode prog_374_method_13_code 34 = .ok (.lushr, 1) := by decide +kernel
theorem d2_35 : decode prog_374_method_13_code 35 = .ok (.lstore_n 2, 1) := by decide +kernel
theorem d2_36 : decode prog_374_method_13_code 36 = .ok (.goto (-33), 3) := by decide +kernel
set_option maxRecDepth 65536 in
set_option maxHeartbeats 40000000 in
theorem tn2 {p : Program} {l : Launch} {e : Env} {R : Room} {s : State} {m : MethodId} {args : Array Value} {below : List Frame} {meth : Method} {c : Code} {T0 : State} {locs : List Loc} {cells slots : Nat} {Z : State} {A0 : Array Value} {h0 : Heap} {n0 : Nat} (a0 : Addr) (i1 : Int32) (v : Int64) (en : Nat) (kk : ClassId) (vs : List Value) (dv : Value) (X0 : Stand p l e R s m args below meth c T0 locs cells slots) (hx : p.tables.exec = Jvm.exec) (hZ : Z.Warmed39 s.vm) (hw : ∀ d ∈ tables_1, d.before A0 Z = true) (hby : c.code = prog_374_method_13_code) (hml : c.maxLocals = 5) (hown : s.vm.findClass "com/example/parley/parley/wire/WireWriter" = some m.cls) (e0 : T0.heap = h0) (N0 : Fr n0 locs) (Z0 : n0 ≤ h0.size) (V_a0 : Arv Z h0 a0 kk .byte (15 : Int32) vs dv) (g_a0 : n0 ≤ a0) (hc : ¬ ((0 : Int64) = (v &&& (-128 : Int64)))) (hlen : vs.length = 15) (hen : en < 15) :
    ∃ (T' : State) (h' : Heap) (locs' : List Loc), Stand p l e R s m args below meth c T' locs' cells slots ∧ T'.heap = h' ∧ Fr n0 locs' ∧ Keep h0 h' [a0] ∧ Arv Z h' a0 kk .byte (15 : Int32) (vs.set en (.int (own_hi v))) dv ∧ 
      ∀ target, Steps p.tables e below (T'.setTop (mkF m 3 #[.val (.ref a0), .val (.int i1), .val (.long ((v.toUInt64 >>> ((7 : Int32) &&& 0x3f).toInt64.toUInt64).toInt64)), .second, .val (.int ((Int32.ofNat en) + (1 : Int32)))] [])) target → Steps p.tables e below (T0.setTop (mkF m 3 #[.val (.ref a0), .val (.int i1), .val (.long v), .second, .val (.int (Int32.ofNat en))] [])) target := by
  have K0 : Keep h0 h0 [a0] := Keep.refl _ _
  obtain ⟨cl1, Ar1, qq1, SS1, MM1, HH1, GG1⟩ := id V_a0
  have hin1 := inb_of SS1 (own_inb hen)
  obtain ⟨T1, h1, X1, e1, W1, st1⟩ := stB X0 hx hZ e0 Ar1 (j := (Int32.ofNat en)) hin1 (g := (mkF m 30 #[.val (.ref a0), .val (.int i1), .val (.long v), .second, .val (.int ((Int32.ofNat en) + (1 : Int32)))] [(.int ((((v &&& (127 : Int64)) ||| (128 : Int64)).toInt32).toInt8.toInt32)), (.int (Int32.ofNat en)), (.ref a0)])) rfl rfl (hb hby d2_30)
  have V_a0 : Arv Z h1 a0 kk .byte (15 : Int32) (vs.set en (.int (own_hi v))) dv := Arv.set Ar1 qq1 SS1 MM1 HH1 GG1 (fits_nar_byte _) W1 en (own_idx hen) (by omega)
  have Zh1 : n0 ≤ h1.size := Nat.le_trans Z0 (Keep.of_wr W1).1
  have Kh1 : Keep h0 h1 [a0] := K0.wr W1 (Or.inl (by simp))
  have N1 := Fr.snoc X1 N0 g_a0
  refine ⟨T1, _, _, X1, e1, N1, Kh1, V_a0, fun target kt => ?_⟩
  show Steps p.tables e below (T0.setTop (mkF m 3 #[.val (.ref a0), .val (.int i1), .val (.long v), .second, .val (.int (Int32.ofNat en))] [])) _
  refine XS.lconst X0.here hx rfl (hb hby d2_3) ?_
  show Steps p.tables e below (T0.setTop (mkF m 4 #[.val (.ref a0), .val (.int i1), .val (.long v), .second, .val (.int (Int32.ofNat en))] [(.long (0 : Int64))])) _
  refine XS.lloadN X0.here hx rfl (hb hby d2_4) rfl ?_
  show Steps p.tables e below (T0.setTop (mkF m 5 #[.val (.ref a0), .val (.int i1), .val (.long v), .second, .val (.int (Int32.ofNat en))] [(.long v), (.long (0 : Int64))])) _
  refine X0.ldc2Long hx hown (mvT hZ (hw _ (List.mem_of_getElem? (i := 9) rfl))) (g := (mkF m 5 #[.val (.ref a0), .val (.int i1), .val (.long v), .second, .val (.int (Int32.ofNat en))] [(.long v), (.long (0 : Int64))])) rfl (hb hby d2_5) _ ?_
  show Steps p.tables e below (T0.setTop (mkF m 8 #[.val (.ref a0), .val (.int i1), .val (.long v), .second, .val (.int (Int32.ofNat en))] [(.long (-128 : Int64)), (.long v), (.long (0 : Int64))])) _
  refine XS.land X0.here hx rfl (hb hby d2_8) rfl ?_
  show Steps p.tables e below (T0.setTop (mkF m 9 #[.val (.ref a0), .val (.int i1), .val (.long v), .second, .val (.int (Int32.ofNat en))] [(.long (v &&& (-128 : Int64))), (.long (0 : Int64))])) _
  refine XS.lcmp X0.here hx rfl (hb hby d2_9) rfl ?_
  show Steps p.tables e below (T0.setTop (mkF m 10 #[.val (.ref a0), .val (.int i1), .val (.long v), .second, .val (.int (Int32.ofNat en))] [(.int (lcmpW (0 : Int64) (v &&& (-128 : Int64))))])) _
  refine XS.ifNo X0.here hx rfl (hb hby d2_10) rfl ((if0 _ _).trans (feq (mt (lw_eq _ _).mp (hc : ¬ ((0 : Int64) = (v &&& (-128 : Int64)))))).1) ?_
  show Steps p.tables e below (T0.setTop (mkF m 13 #[.val (.ref a0), .val (.int i1), .val (.long v), .second, .val (.int (Int32.ofNat en))] [])) _
  refine XS.aloadN X0.here hx rfl (hb hby d2_13) rfl rfl ?_
  show Steps p.tables e below (T0.setTop (mkF m 14 #[.val (.ref a0), .val (.int i1), .val (.long v), .second, .val (.int (Int32.ofNat en))] [(.ref a0)])) _
  refine XS.iload X0.here hx rfl (hb hby d2_14) rfl ?_
  show Steps p.tables e below (T0.setTop (mkF m 16 #[.val (.ref a0), .val (.int i1), .val (.long v), .second, .val (.int (Int32.ofNat en))] [(.int (Int32.ofNat en)), (.ref a0)])) _
  refine XS.iinc X0.here hx rfl (hb hby d2_16) rfl (l' := #[.val (.ref a0), .val (.int i1), .val (.long v), .second, .val (.int ((Int32.ofNat en) + (1 : Int32)))]) rfl ?_
  show Steps p.tables e below (T0.setTop (mkF m 19 #[.val (.ref a0), .val (.int i1), .val (.long v), .second, .val (.int ((Int32.ofNat en) + (1 : Int32)))] [(.int (Int32.ofNat en)), (.ref a0)])) _
  refine XS.lloadN X0.here hx rfl (hb hby d2_19) rfl ?_
  show Steps p.tables e below (T0.setTop (mkF m 20 #[.val (.ref a0), .val (.int i1), .val (.long v), .second, .val (.int ((Int32.ofNat en) + (1 : Int32)))] [(.long v), (.int (Int32.ofNat en)), (.ref a0)])) _
  refine X0.ldc2Long hx hown (mvT hZ (hw _ (List.mem_of_getElem? (i := 14) rfl))) (g := (mkF m 20 #[.val (.ref a0), .val (.int i1), .val (.long v), .second, .val (.int ((Int32.ofNat en) + (1 : Int32)))] [(.long v), (.int (Int32.ofNat en)), (.ref a0)])) rfl (hb hby d2_20) _ ?_
  show Steps p.tables e below (T0.setTop (mkF m 23 #[.val (.ref a0), .val (.int i1), .val (.long v), .second, .val (.int ((Int32.ofNat en) + (1 : Int32)))] [(.long (127 : Int64)), (.long v), (.int (Int32.ofNat en)), (.ref a0)])) _
  refine XS.land X0.here hx rfl (hb hby d2_23) rfl ?_
  show Steps p.tables e below (T0.setTop (mkF m 24 #[.val (.ref a0), .val (.int i1), .val (.long v), .second, .val (.int ((Int32.ofNat en) + (1 : Int32)))] [(.long (v &&& (127 : Int64))), (.int (Int32.ofNat en)), (.ref a0)])) _
  refine X0.ldc2Long hx hown (mvT hZ (hw _ (List.mem_of_getElem? (i := 15) rfl))) (g := (mkF m 24 #[.val (.ref a0), .val (.int i1), .val (.long v), .second, .val (.int ((Int32.ofNat en) + (1 : Int32)))] [(.long (v &&& (127 : Int64))), (.int (Int32.ofNat en)), (.ref a0)])) rfl (hb hby d2_24) _ ?_
  show Steps p.tables e below (T0.setTop (mkF m 27 #[.val (.ref a0), .val (.int i1), .val (.long v), .second, .val (.int ((Int32.ofNat en) + (1 : Int32)))] [(.long (128 : Int64)), (.long (v &&& (127 : Int64))), (.int (Int32.ofNat en)), (.ref a0)])) _
  refine XS.lor X0.here hx rfl (hb hby d2_27) rfl ?_
  show Steps p.tables e below (T0.setTop (mkF m 28 #[.val (.ref a0), .val (.int i1), .val (.long v), .second, .val (.int ((Int32.ofNat en) + (1 : Int32)))] [(.long ((v &&& (127 : Int64)) ||| (128 : Int64))), (.int (Int32.ofNat en)), (.ref a0)])) _
  refine XS.l2i X0.here hx rfl (hb hby d2_28) rfl ?_
  show Steps p.tables e below (T0.setTop (mkF m 29 #[.val (.ref a0), .val (.int i1), .val (.long v), .second, .val (.int ((Int32.ofNat en) + (1 : Int32)))] [(.int (((v &&& (127 : Int64)) ||| (128 : Int64)).toInt32)), (.int (Int32.ofNat en)), (.ref a0)])) _
  refine XS.i2b X0.here hx rfl (hb hby d2_29) rfl ?_
  show Steps p.tables e below (T0.setTop (mkF m 30 #[.val (.ref a0), .val (.int i1), .val (.long v), .second, .val (.int ((Int32.ofNat en) + (1 : Int32)))] [(.int ((((v &&& (127 : Int64)) ||| (128 : Int64)).toInt32).toInt8.toInt32)), (.int (Int32.ofNat en)), (.ref a0)])) _
  refine st1 _ ?_
  show Steps p.tables e below (T1.setTop (mkF m 31 #[.val (.ref a0), .val (.int i1), .val (.long v), .second, .val (.int ((Int32.ofNat en) + (1 : Int32)))] [])) _
  refine XS.lloadN X1.here hx rfl (hb hby d2_31) rfl ?_
  show Steps p.tables e below (T1.setTop (mkF m 32 #[.val (.ref a0), .val (.int i1), .val (.long v), .second, .val (.int ((Int32.ofNat en) + (1 : Int32)))] [(.long v)])) _
  refine XS.bipush X1.here hx rfl (hb hby d2_32) ?_
  show Steps p.tables e below (T1.setTop (mkF m 34 #[.val (.ref a0), .val (.int i1), .val (.long v), .second, .val (.int ((Int32.ofNat en) + (1 : Int32)))] [(.int (7 : Int32)), (.long v)])) _
  refine XS.lushr X1.here hx rfl (hb hby d2_34) rfl ?_
  show Steps p.tables e below (T1.setTop (mkF m 35 #[.val (.ref a0), .val (.int i1), .val (.long v), .second, .val (.int ((Int32.ofNat en) + (1 : Int32)))] [(.long ((v.toUInt64 >>> ((7 : Int32) &&& 0x3f).toInt64.toUInt64).toInt64))])) _
  refine XS.lstoreN X1.here hx rfl (hb hby d2_35) rfl (l' := #[.val (.ref a0), .val (.int i1), .val (.long ((v.toUInt64 >>> ((7 : Int32) &&& 0x3f).toInt64.toUInt64).toInt64)), .second, .val (.int ((Int32.ofNat en) + (1 : Int32)))]) rfl ?_
  show Steps p.tables e below (T1.setTop (mkF m 36 #[.val (.ref a0), .val (.int i1), .val (.long ((v.toUInt64 >>> ((7 : Int32) &&& 0x3f).toInt64.toUInt64).toInt64)), .second, .val (.int ((Int32.ofNat en) + (1 : Int32)))] [])) _
  refine XS.goto X1.here hx rfl (pc0 := 36) (pc' := 3) rfl (hb hby d2_36) (by decide) (by decide) ?_
  show Steps p.tables e below (T1.setTop (mkF m 3 #[.val (.ref a0), .val (.int i1), .val (.long ((v.toUInt64 >>> ((7 : Int32) &&& 0x3f).toInt64.toUInt64).toInt64)), .second, .val (.int ((Int32.ofNat en) + (1 : Int32)))] [])) _
  exact kt
set_option maxRecDepth 65536 in
set_option maxHeartbeats 40000000 in
theorem tl2 {p : Program} {l : Launch} {e : Env} {R : Room} {s : State} {m : MethodId} {args : Array Value} {below : List Frame} {meth : Method} {c : Code} {T0 : State} {locs : List Loc} {cells slots : Nat} {Z : State} {A0 : Array Value} {h0 : Heap} {n0 : Nat} (a0 : Addr) (i1 : Int32) (v : Int64) (en : Nat)  (X0 : Stand p l e R s m args below meth c T0 locs cells slots) (hx : p.tables.exec = Jvm.exec) (hZ : Z.Warmed39 s.vm) (hw : ∀ d ∈ tables_1, d.before A0 Z = true) (hby : c.code = prog_374_method_13_code) (hml : c.maxLocals = 5) (hown : s.vm.findClass "com/example/parley/parley/wire/WireWriter" = some m.cls) (e0 : T0.heap = h0) (N0 : Fr n0 locs) (Z0 : n0 ≤ h0.size) (hc : (0 : Int64) = (v &&& (-128 : Int64))) :
    ∃ (T' : State), Stand p l e R s m args below meth c T' locs cells slots ∧ T'.heap = h0 ∧
      ∀ target, Steps p.tables e below (T'.setTop (mkF m 39 #[.val (.ref a0), .val (.int i1), .val (.long v), .second, .val (.int (Int32.ofNat en))] [])) target → Steps p.tables e below (T0.setTop (mkF m 3 #[.val (.ref a0), .val (.int i1), .val (.long v), .second, .val (.int (Int32.ofNat en))] [])) target := by
  have K0 : Keep h0 h0 [] := Keep.refl _ _
  refine ⟨T0, X0, e0, fun target kt => ?_⟩
  show Steps p.tables e below (T0.setTop (mkF m 3 #[.val (.ref a0), .val (.int i1), .val (.long v), .second, .val (.int (Int32.ofNat en))] [])) _
  refine XS.lconst X0.here hx rfl (hb hby d2_3) ?_
  show Steps p.tables e below (T0.setTop (mkF m 4 #[.val (.ref a0), .val (.int i1), .val (.long v), .second, .val (.int (Int32.ofNat en))] [(.long (0 : Int64))])) _
  refine XS.lloadN X0.here hx rfl (hb hby d2_4) rfl ?_
  show Steps p.tables e below (T0.setTop (mkF m 5 #[.val (.ref a0), .val (.int i1), .val (.long v), .second, .val (.int (Int32.ofNat en))] [(.long v), (.long (0 : Int64))])) _
  refine X0.ldc2Long hx hown (mvT hZ (hw _ (List.mem_of_getElem? (i := 9) rfl))) (g := (mkF m 5 #[.val (.ref a0), .val (.int i1), .val (.long v), .second, .val (.int (Int32.ofNat en))] [(.long v), (.long (0 : Int64))])) rfl (hb hby d2_5) _ ?_
  show Steps p.tables e below (T0.setTop (mkF m 8 #[.val (.ref a0), .val (.int i1), .val (.long v), .second, .val (.int (Int32.ofNat en))] [(.long (-128 : Int64)), (.long v), (.long (0 : Int64))])) _
  refine XS.land X0.here hx rfl (hb hby d2_8) rfl ?_
  show Steps p.tables e below (T0.setTop (mkF m 9 #[.val (.ref a0), .val (.int i1), .val (.long v), .second, .val (.int (Int32.ofNat en))] [(.long (v &&& (-128 : Int64))), (.long (0 : Int64))])) _
  refine XS.lcmp X0.here hx rfl (hb hby d2_9) rfl ?_
  show Steps p.tables e below (T0.setTop (mkF m 10 #[.val (.ref a0), .val (.int i1), .val (.long v), .second, .val (.int (Int32.ofNat en))] [(.int (lcmpW (0 : Int64) (v &&& (-128 : Int64))))])) _
  refine XS.ifYes X0.here hx rfl (pc0 := 10) (pc' := 39) rfl (hb hby d2_10) rfl ((if0 _ _).trans (teq ((lw_eq _ _).mpr (hc : (0 : Int64) = (v &&& (-128 : Int64))))).1) (by decide) (by decide) ?_
  show Steps p.tables e below (T0.setTop (mkF m 39 #[.val (.ref a0), .val (.int i1), .val (.long v), .second, .val (.int (Int32.ofNat en))] [])) _
  exact kt
def own_sh (v : Int64) : Int64 := ((v.toUInt64 >>> ((7 : Int32) &&& 0x3f).toInt64.toUInt64).toInt64)
def own_shk : Nat → Int64 → Int64
  | 0, v => v
  | k + 1, v => own_shk k (own_sh v)
def own_vk : Nat → Int64 → Nat → List Value → List Value
  | 0, _, _, vs => vs
  | k + 1, v, e, vs => own_vk k (own_sh v) (e + 1) (vs.set e (.int (own_hi v)))
def own_T : Nat → Int64 → Prop
  | 0, v => (0 : Int64) = (v &&& (-128 : Int64))
  | k + 1, v => ¬ ((0 : Int64) = (v &&& (-128 : Int64))) ∧ own_T k (own_sh v)
theorem own_vk_len : ∀ (k : Nat) (v : Int64) (e : Nat) (vs : List Value), (own_vk k v e vs).length = vs.length
  | 0, _, _, _ => rfl
  | k + 1, v, e, vs => by rw [own_vk, own_vk_len k, List.length_set]
theorem own_loop {p : Program} {l : Launch} {e : Env} {R : Room} {s : State} {m : MethodId} {args : Array Value} {below : List Frame} {meth : Method} {c : Code} {Z : State} {A0 : Array Value} {n0 : Nat} : ∀ (k : Nat) (a0 : Addr) (i1 : Int32) (v : Int64) (en : Nat) (kk : ClassId) (vs : List Value) (dv : Value) {T0 : State} {locs : List Loc} {cells slots : Nat} {h0 : Heap} (X0 : Stand p l e R s m args below meth c T0 locs cells slots) (hx : p.tables.exec = Jvm.exec) (hZ : Z.Warmed39 s.vm) (hw : ∀ d ∈ tables_1, d.before A0 Z = true) (hby : c.code = prog_374_method_13_code) (hml : c.maxLocals = 5) (hown : s.vm.findClass "com/example/parley/parley/wire/WireWriter" = some m.cls) (e0 : T0.heap = h0) (N0 : Fr n0 locs) (Z0 : n0 ≤ h0.size) (V_a0 : Arv Z h0 a0 kk .byte (15 : Int32) vs dv) (g_a0 : n0 ≤ a0) (hk : own_T k v) (hlen : vs.length = 15) (hek : en + k < 15),
    ∃ (T' : State) (h' : Heap) (locs' : List Loc), Stand p l e R s m args below meth c T' locs' cells slots ∧ T'.heap = h' ∧ Fr n0 locs' ∧ Keep h0 h' [a0] ∧ Arv Z h' a0 kk .byte (15 : Int32) (own_vk k v en vs) dv ∧
      ∀ target, Steps p.tables e below (T'.setTop (mkF m 39 #[.val (.ref a0), .val (.int i1), .val (.long (own_shk k v)), .second, .val (.int (Int32.ofNat (en + k)))] [])) target → Steps p.tables e below (T0.setTop (mkF m 3 #[.val (.ref a0), .val (.int i1), .val (.long v), .second, .val (.int (Int32.ofNat en))] [])) target := by
  intro k
  induction k with
  | zero =>
    intro a0 i1 v en kk vs dv T0 locs cells slots h0 X0 hx hZ hw hby hml hown e0 N0 Z0 V_a0 g_a0 hk hlen hek
    obtain ⟨T1, X1, e1, st1⟩ := tl2 a0 i1 v en X0 hx hZ hw hby hml hown e0 N0 Z0 hk
    exact ⟨T1, h0, locs, X1, e1, N0, Keep.refl _ _, V_a0, st1⟩
  | succ k ih =>
    intro a0 i1 v en kk vs dv T0 locs cells slots h0 X0 hx hZ hw hby hml hown e0 N0 Z0 V_a0 g_a0 hk hlen hek
    obtain ⟨T1, h1, L1, X1, e1, N1, K1, V1, st1⟩ := tn2 a0 i1 v en kk vs dv X0 hx hZ hw hby hml hown e0 N0 Z0 V_a0 g_a0 hk.1 hlen (by omega)
    have heq : (Int32.ofNat en) + (1 : Int32) = Int32.ofNat (en + 1) := (Int32.ofNat_add en 1).symm
    rw [heq] at st1
    obtain ⟨T2, h2, L2, X2, e2, N2, K2, V2, st2⟩ := ih a0 i1 (own_sh v) (en + 1) kk (vs.set en (.int (own_hi v))) dv X1 hx hZ hw hby hml hown e1 N1 (Nat.le_trans Z0 K1.1) V1 g_a0 hk.2 (by rw [List.length_set]; exact hlen) (by omega)
    have hq : en + 1 + k = en + (k + 1) := by omega
    rw [hq] at st2
    exact ⟨T2, h2, L2, X2, e2, N2, K1.trans K2 (allS (Or.inl (by simp)) all0), V2, fun t kt => st1 t (st2 t kt)⟩

theorem d2_0 : decode prog_374_method_13_code 0 = .ok (.iload_n 1, 1) := by decide +kernel
theorem d2_1 : decode prog_374_method_13_code 1 = .ok (.istore 4, 2) := by decide +kernel
theorem d2_39 : decode prog_374_method_13_code 39 = .ok (.aload_n 0, 1) := by decide +kernel
theorem d2_40 : decode prog_374_method_13_code 40 = .ok (.iload 4, 2) := by decide +kernel
theorem d2_42 : decode prog_374_method_13_code 42 = .ok (.iinc 4 1, 3) := by decide +kernel
theorem d2_45 : decode prog_374_method_13_code 45 = .ok (.lload_n 2, 1) := by decide +kernel
theorem d2_46 : decode prog_374_method_13_code 46 = .ok (.l2i, 1) := by decide +kernel
theorem d2_47 : decode prog_374_method_13_code 47 = .ok (.i2b, 1) := by decide +kernel
theorem d2_48 : decode prog_374_method_13_code 48 = .ok (.bastore, 1) := by decide +kernel
theorem d2_49 : decode prog_374_method_13_code 49 = .ok (.iload 4, 2) := by decide +kernel
theorem d2_51 : decode prog_374_method_13_code 51 = .ok (.ireturn, 1) := by decide +kernel
theorem pn_2 : plainName "com/example/parley/parley/wire/WireWriter" = true := by first | (simp [plainName, overriddenIn]; done) | decide +kernel
theorem ef_rm2 (m : MethodId) (a0 : Addr) (q2 : Int64) (en : Nat) : entryFrame m #[(.ref a0), (.int (Int32.ofNat en)), (.long q2)] 5 = mkF m 0 #[.val (.ref a0), .val (.int (Int32.ofNat en)), .val (.long q2), .second, .unset] [] := by first | (simp [entryFrame, mkF, argsToLocals, Value.category]; done) | rfl
def Qrm2 (Z : State) (a0 : Addr) (q2 : Int64) (kk : ClassId) (vs : List Value) (dv : Value) (en : Nat) (k : Nat) (h0 : Heap) (n0 : Nat) (v : Option Value) (h : Heap) (L : List Loc) : Prop := v = some (.int (Int32.ofNat (en + k + 1))) ∧ Fr n0 L ∧ Keep h0 h [a0] ∧ Arv Z h a0 kk .byte (15 : Int32) ((own_vk k q2 en vs).set (en + k) (.int (own_lo (own_shk k q2)))) dv
set_option maxRecDepth 65536 in
set_option maxHeartbeats 40000000 in
theorem rm2 (l : Launch) (Z : State) (A0 : Array Value) (hw : ∀ d ∈ tables_1, d.before A0 Z = true) (ws : List Jvm.Cond) (a0 : Addr) (q2 : Int64) (kk : ClassId) (vs : List Value) (dv : Value) (en : Nat) (k : Nat) (h0 : Heap) (n0 : Nat) (Z0 : n0 ≤ h0.size) (V_a0 : Arv Z h0 a0 kk .byte (15 : Int32) vs dv) (g_a0 : n0 ≤ a0) (hk : own_T k q2) (hlen : vs.length = 15) (hek : en + k < 15) :
    MetFree l (⟨"com/example/parley/parley/wire/WireWriter", "putUnsignedVarint", "([BIJ)I"⟩ : MethodName) (head1 (Jvm.Cond.code (⟨"com/example/parley/parley/wire/WireWriter", "putUnsignedVarint", "([BIJ)I"⟩ : MethodName) prog_374_method_13_code 5 (some .int) :: ws) ({ frames := 0, cells := 0, slots := 0, locals := 0 } : Room)) (fun a U => a = #[(.ref a0), (.int (Int32.ofNat en)), (.long q2)] ∧ Z.Warmed39 U.vm ∧ U.heap = h0) (fun _ _ _ _ _ => True) (fun _ U o U' => ∃ v L, o = .returned v ∧ Qrm2 Z a0 q2 kk vs dv en k h0 n0 v U'.heap L ∧ FrameEnd U o U' L ({ frames := 0, cells := 0, slots := 0, locals := 0 } : Room).cells ({ frames := 0, cells := 0, slots := 0, locals := 0 } : Room).slots) := by
  refine MetFree.of_bodySF (plainFor_of_name pn_2) hisR ?_
  intro p e s m args below meth c s₁ Bd hml0 hP hK
  obtain ⟨rfl, hZ, hh⟩ := hP
  have hx := Bd.exec
  have hby := Bd.bytes
  have hml : c.maxLocals = 5 := hml0
  have hown : s.vm.findClass "com/example/parley/parley/wire/WireWriter" = some m.cls := findClass_of_methodNamed Bd.named
  have hnm := (name_of_methodNamed Bd.named Bd.method).1
  have X0 : Stand p l e ({ frames := 0, cells := 0, slots := 0, locals := 0 } : Room) s m #[(.ref a0), (.int (Int32.ofNat en)), (.long q2)] below meth c s₁ [] 0 0 := Stand.of_body Bd
  have e0 : s₁.heap = h0 := by rw [← hh, Bd.state]; rfl
  have N0 := Fr.nil n0
  have K0 : Keep h0 h0 [a0] := Keep.refl _ _
  have pre0 : ∀ t, Steps p.tables e below (s₁.setTop (mkF m 0 #[.val (.ref a0), .val (.int (Int32.ofNat en)), .val (.long q2), .second, .unset] [])) t → Steps p.tables e below (s₁.setTop (entryFrame m #[(.ref a0), (.int (Int32.ofNat en)), (.long q2)] 5)) t := fun t k => castTop (ef_rm2 m a0 q2 en) k
  obtain ⟨T1, h1, L1, X1, e1, N1, Kc1, P1_0, st1⟩ := own_loop k a0 (Int32.ofNat en) q2 en kk vs dv X0 hx hZ hw hby hml hown e0 N0 Z0 V_a0 g_a0 (hk) (hlen) (hek)
  have Zh1 : n0 ≤ h1.size := Nat.le_trans Z0 Kc1.1
  have Kh1 : Keep h0 h1 [a0] := K0.trans Kc1 (allS (Or.inl (by simp)) all0)
  have V_a0 : Arv Z h1 a0 kk .byte (15 : Int32) (own_vk k q2 en vs) dv := P1_0
  obtain ⟨cl2, Ar2, qq2, SS2, MM2, HH2, GG2⟩ := id V_a0
  have hin2 := inb_of SS2 (own_inb hek)
  obtain ⟨T2, h2, X2, e2, W2, st2⟩ := stB X1 hx hZ e1 Ar2 (j := (Int32.ofNat (en + k))) hin2 (g := (mkF m 48 #[.val (.ref a0), .val (.int (Int32.ofNat en)), .val (.long (own_shk k q2)), .second, .val (.int ((Int32.ofNat (en + k)) + (1 : Int32)))] [(.int (((own_shk k q2).toInt32).toInt8.toInt32)), (.int (Int32.ofNat (en + k))), (.ref a0)])) rfl rfl (hb hby d2_48)
  have V_a0 : Arv Z h2 a0 kk .byte (15 : Int32) ((own_vk k q2 en vs).set (en + k) (.int (own_lo (own_shk k q2)))) dv := Arv.set Ar2 qq2 SS2 MM2 HH2 GG2 (fits_nar_byte _) W2 (en + k) (own_idx hek) (by rw [own_vk_len]; omega)
  have Zh2 : n0 ≤ h2.size := Nat.le_trans Zh1 (Keep.of_wr W2).1
  have Kh2 : Keep h0 h2 [a0] := Kh1.wr W2 (Or.inl (by simp))
  have N2 := Fr.snoc X2 N1 g_a0
  obtain ⟨fs, hr, hrun, hended, hW, hsame⟩ := X2.leave (v := some (.int ((Int32.ofNat (en + k)) + (1 : Int32)))) (fun h => by rw [Bd.returns] at h; cases h)
  refine ⟨_, _, pre0 _ ?_, hrun, hended, _, _, rfl, ?_, ⟨_, rfl⟩, hW, hsame.mono (by decide) (by decide)⟩
  · show Steps p.tables e below (s₁.setTop (mkF m 0 #[.val (.ref a0), .val (.int (Int32.ofNat en)), .val (.long q2), .second, .unset] [])) _
    refine XS.iloadN X0.here hx rfl (hb hby d2_0) rfl ?_
    show Steps p.tables e below (s₁.setTop (mkF m 1 #[.val (.ref a0), .val (.int (Int32.ofNat en)), .val (.long q2), .second, .unset] [(.int (Int32.ofNat en))])) _
    refine XS.istore X0.here hx rfl (hb hby d2_1) rfl (l' := #[.val (.ref a0), .val (.int (Int32.ofNat en)), .val (.long q2), .second, .val (.int (Int32.ofNat en))]) rfl ?_
    show Steps p.tables e below (s₁.setTop (mkF m 3 #[.val (.ref a0), .val (.int (Int32.ofNat en)), .val (.long q2), .second, .val (.int (Int32.ofNat en))] [])) _
    refine st1 _ ?_
    show Steps p.tables e below (T1.setTop (mkF m 39 #[.val (.ref a0), .val (.int (Int32.ofNat en)), .val (.long (own_shk k q2)), .second, .val (.int (Int32.ofNat (en + k)))] [])) _
    refine XS.aloadN X1.here hx rfl (hb hby d2_39) rfl rfl ?_
    show Steps p.tables e below (T1.setTop (mkF m 40 #[.val (.ref a0), .val (.int (Int32.ofNat en)), .val (.long (own_shk k q2)), .second, .val (.int (Int32.ofNat (en + k)))] [(.ref a0)])) _
    refine XS.iload X1.here hx rfl (hb hby d2_40) rfl ?_
    show Steps p.tables e below (T1.setTop (mkF m 42 #[.val (.ref a0), .val (.int (Int32.ofNat en)), .val (.long (own_shk k q2)), .second, .val (.int (Int32.ofNat (en + k)))] [(.int (Int32.ofNat (en + k))), (.ref a0)])) _
    refine XS.iinc X1.here hx rfl (hb hby d2_42) rfl (l' := #[.val (.ref a0), .val (.int (Int32.ofNat en)), .val (.long (own_shk k q2)), .second, .val (.int ((Int32.ofNat (en + k)) + (1 : Int32)))]) rfl ?_
    show Steps p.tables e below (T1.setTop (mkF m 45 #[.val (.ref a0), .val (.int (Int32.ofNat en)), .val (.long (own_shk k q2)), .second, .val (.int ((Int32.ofNat (en + k)) + (1 : Int32)))] [(.int (Int32.ofNat (en + k))), (.ref a0)])) _
    refine XS.lloadN X1.here hx rfl (hb hby d2_45) rfl ?_
    show Steps p.tables e below (T1.setTop (mkF m 46 #[.val (.ref a0), .val (.int (Int32.ofNat en)), .val (.long (own_shk k q2)), .second, .val (.int ((Int32.ofNat (en + k)) + (1 : Int32)))] [(.long (own_shk k q2)), (.int (Int32.ofNat (en + k))), (.ref a0)])) _
    refine XS.l2i X1.here hx rfl (hb hby d2_46) rfl ?_
    show Steps p.tables e below (T1.setTop (mkF m 47 #[.val (.ref a0), .val (.int (Int32.ofNat en)), .val (.long (own_shk k q2)), .second, .val (.int ((Int32.ofNat (en + k)) + (1 : Int32)))] [(.int ((own_shk k q2).toInt32)), (.int (Int32.ofNat (en + k))), (.ref a0)])) _
    refine XS.i2b X1.here hx rfl (hb hby d2_47) rfl ?_
    show Steps p.tables e below (T1.setTop (mkF m 48 #[.val (.ref a0), .val (.int (Int32.ofNat en)), .val (.long (own_shk k q2)), .second, .val (.int ((Int32.ofNat (en + k)) + (1 : Int32)))] [(.int (((own_shk k q2).toInt32).toInt8.toInt32)), (.int (Int32.ofNat (en + k))), (.ref a0)])) _
    refine st2 _ ?_
    show Steps p.tables e below (T2.setTop (mkF m 49 #[.val (.ref a0), .val (.int (Int32.ofNat en)), .val (.long (own_shk k q2)), .second, .val (.int ((Int32.ofNat (en + k)) + (1 : Int32)))] [])) _
    refine XS.iload X2.here hx rfl (hb hby d2_49) rfl ?_
    show Steps p.tables e below (T2.setTop (mkF m 51 #[.val (.ref a0), .val (.int (Int32.ofNat en)), .val (.long (own_shk k q2)), .second, .val (.int ((Int32.ofNat (en + k)) + (1 : Int32)))] [(.int ((Int32.ofNat (en + k)) + (1 : Int32)))])) _
    exact retI X2 hx Bd.returns (hb hby d2_51) hr
  · show Qrm2 Z a0 q2 kk vs dv en k h0 n0 _ T2.heap _
    rw [e2]
    exact ⟨congrArg (fun z => some (Value.int z)) (Int32.ofNat_add (en + k) 1).symm, N2, Kh2, V_a0⟩
def own_okf (p1 p2 p3 : Int32) (q4 : Int64) (p5 xx : Int32) : Int32 := (if (p1 - p2) < (0 : Int32) then (if xx = p5 then (1 : Int32) else (0 : Int32)) else (if (p1 - p2) < p3 then (if (p1 - p2) < (p3 - (1 : Int32)) then (if xx = ((((((q4.toUInt64 >>> (((7 : Int32) * (p1 - p2)) &&& 0x3f).toInt64.toUInt64).toInt64) &&& (127 : Int64)).toInt32) ||| (128 : Int32)).toInt8.toInt32) then (1 : Int32) else (0 : Int32)) else (if xx = (((((q4.toUInt64 >>> (((7 : Int32) * (p1 - p2)) &&& 0x3f).toInt64.toUInt64).toInt64) &&& (127 : Int64)).toInt32).toInt8.toInt32) then (1 : Int32) else (0 : Int32))) else (if xx = p5 then (1 : Int32) else (0 : Int32))))
theorem d3_0 : decode method_4_code 0 = .ok (.iload_n 1, 1) := by decide +kernel
theorem d3_1 : decode method_4_code 1 = .ok (.iload_n 2, 1) := by decide +kernel
theorem d3_2 : decode method_4_code 2 = .ok (.isub, 1) := by decide +kernel
theorem d3_3 : decode method_4_code 3 = .ok (.istore 7, 2) := by decide +kernel
theorem d3_5 : decode method_4_code 5 = .ok (.iload 7, 2) := by decide +kernel
theorem d3_7 : decode method_4_code 7 = .ok (.ifCond .lt 9, 3) := by decide +kernel
theorem d3_10 : decode method_4_code 10 = .ok (.iload 7, 2) := by decide +kernel
theorem d3_12 : decode method_4_code 12 = .ok (.iload_n 3, 1) := by decide +kernel
theorem d3_13 : decode method_4_code 13 = .ok (.if_icmp .lt 17, 3) := by decide +kernel
theorem d3_16 : decode method_4_code 16 = .ok (.aload_n 0, 1) := by decide +kernel
theorem d3_17 : decode method_4_code 17 = .ok (.iload_n 1, 1) := by decide +kernel
theorem d3_18 : decode method_4_code 18 = .ok (.baload, 1) := by decide +kernel
theorem d3_19 : decode method_4_code 19 = .ok (.iload 6, 2) := by decide +kernel
theorem d3_21 : decode method_4_code 21 = .ok (.if_icmp .ne 7, 3) := by decide +kernel
theorem d3_24 : decode method_4_code 24 = .ok (.iconst 1, 1) := by decide +kernel
theorem d3_25 : decode method_4_code 25 = .ok (.goto 4, 3) := by decide +kernel
theorem d3_28 : decode method_4_code 28 = .ok (.iconst 0, 1) := by decide +kernel
theorem d3_29 : decode method_4_code 29 = .ok (.ireturn, 1) := by decide +kernel
theorem d3_30 : decode method_4_code 30 = .ok (.lload 4, 2) := by decide +kernel
theorem d3_32 : decode method_4_code 32 = .ok (.bipush 7, 2) := by decide +kernel
theorem d3_34 : decode method_4_code 34 = .ok (.iload 7, 2) := by decide +kernel
theorem d3_36 : decode method_4_code 36 = .ok (.imul, 1) := by decide +kernel
theorem d3_37 : decode method_4_code 37 = .ok (.lushr, 1) := by decide +kernel
theorem d3_38 : decode method_4_code 38 = .ok (.ldc2_w 23, 3) := by decide +kernel
theorem d3_41 : decode method_4_code 41 = .ok (.land, 1) := by decide +kernel
theorem d3_42 : decode method_4_code 42 = .ok (.l2i, 1) := by decide +kernel
theorem d3_43 : decode method_4_code 43 = .ok (.istore 8, 2) := by decide +kernel
theorem d3_45 : decode method_4_code 45 = .ok (.iload 7, 2) := by decide +kernel
theorem d3_47 : decode method_4_code 47 = .ok (.iload_n 3, 1) := by decide +kernel
theorem d3_48 : decode method_4_code 48 = .ok (.iconst 1, 1) := by decide +kernel
theorem d3_49 : decode method_4_code 49 = .ok (.isub, 1) := by decide +kernel
theorem d3_50 : decode method_4_code 50 = .ok (.if_icmp .ge 12, 3) := by decide +kernel
theorem d3_53 : decode method_4_code 53 = .ok (.iload 8, 2) := by decide +kernel
theorem d3_55 : decode method_4_code 55 = .ok (.sipush 128, 3) := by decide +kernel
theorem d3_58 : decode method_4_code 58 = .ok (.ior, 1) := by decide +kernel
theorem d3_59 : decode method_4_code 59 = .ok (.goto 5, 3) := by decide +kernel
theorem d3_62 : decode method_4_code 62 = .ok (.iload 8, 2) := by decide +kernel
theorem d3_64 : decode method_4_code 64 = .ok (.istore 9, 2) := by decide +kernel
theorem d3_66 : decode method_4_code 66 = .ok (.aload_n 0, 1) := by decide +kernel
theorem d3_67 : decode method_4_code 67 = .ok (.iload_n 1, 1) := by decide +kernel
theorem d3_68 : decode method_4_code 68 = .ok (.baload, 1) := by decide +kernel
theorem d3_69 : decode method_4_code 69 = .ok (.iload 9, 2) := by decide +kernel
theorem d3_71 : decode method_4_code 71 = .ok (.i2b, 1) := by decide +kernel
theorem d3_72 : decode method_4_code 72 = .ok (.if_icmp .ne 7, 3) := by decide +kernel
theorem d3_75 : decode method_4_code 75 = .ok (.iconst 1, 1) := by decide +kernel
theorem d3_76 : decode method_4_code 76 = .ok (.goto 4, 3) := by decide +kernel
theorem d3_79 : decode method_4_code 79 = .ok (.iconst 0, 1) := by decide +kernel
theorem d3_80 : decode method_4_code 80 = .ok (.ireturn, 1) := by decide +kernel
theorem pn_3 : plainName "com/example/parley/parley/wire/WireWriterPutUnsignedVarintPinLaw" = true := by first | (simp [plainName, overriddenIn]; done) | decide +kernel
theorem ef_rm3 (m : MethodId) (a0 : Addr) (p1 : Int32) (p2 : Int32) (p3 : Int32) (q4 : Int64) (p5 : Int32) : entryFrame m #[(.ref a0), (.int p1), (.int p2), (.int p3), (.long q4), (.int p5)] 10 = mkF m 0 #[.val (.ref a0), .val (.int p1), .val (.int p2), .val (.int p3), .val (.long q4), .second, .val (.int p5), .unset, .unset, .unset] [] := by first | (simp [entryFrame, mkF, argsToLocals, Value.category]; done) | rfl
def Qrm3 (Z : State) (a0 : Addr) (p1 : Int32) (p2 : Int32) (p3 : Int32) (q4 : Int64) (p5 : Int32) (kk : ClassId) (vs : List Value) (dv : Value) (xx : Int32) (h0 : Heap) (n0 : Nat) (v : Option Value) (h : Heap) (L : List Loc) : Prop := v = some (.int (own_okf p1 p2 p3 q4 p5 xx)) ∧ Fr n0 L ∧ h = h0
set_option maxRecDepth 65536 in
set_option maxHeartbeats 40000000 in
theorem rm3 (l : Launch) (Z : State) (A0 : Array Value) (hw : ∀ d ∈ tables_1, d.before A0 Z = true) (ws : List Jvm.Cond) (a0 : Addr) (p1 : Int32) (p2 : Int32) (p3 : Int32) (q4 : Int64) (p5 : Int32) (kk : ClassId) (vs : List Value) (dv : Value) (xx : Int32) (h0 : Heap) (n0 : Nat) (Z0 : n0 ≤ h0.size) (V_a0 : Arv Z h0 a0 kk .byte (15 : Int32) vs dv) (hin : ¬ (p1 < 0) ∧ p1 < (15 : Int32)) (hat : vs.getD (p1).toNatClampNeg dv = .int xx) :
    MetFree l (⟨"com/example/parley/parley/wire/WireWriterPutUnsignedVarintPinLaw", "ok", "([BIIIJB)Z"⟩ : MethodName) (head1 (Jvm.Cond.code (⟨"com/example/parley/parley/wire/WireWriterPutUnsignedVarintPinLaw", "ok", "([BIIIJB)Z"⟩ : MethodName) method_4_code 10 (some .boolean) :: ws) ({ frames := 0, cells := 0, slots := 0, locals := 0 } : Room)) (fun a U => a = #[(.ref a0), (.int p1), (.int p2), (.int p3), (.long q4), (.int p5)] ∧ Z.Warmed39 U.vm ∧ U.heap = h0) (fun _ _ _ _ _ => True) (fun _ U o U' => ∃ v L, o = .returned v ∧ Qrm3 Z a0 p1 p2 p3 q4 p5 kk vs dv xx h0 n0 v U'.heap L ∧ FrameEnd U o U' L ({ frames := 0, cells := 0, slots := 0, locals := 0 } : Room).cells ({ frames := 0, cells := 0, slots := 0, locals := 0 } : Room).slots) := by
  refine MetFree.of_bodySF (plainFor_of_name pn_3) hisR ?_
  intro p e s m args below meth c s₁ Bd hml0 hP hK
  obtain ⟨rfl, hZ, hh⟩ := hP
  have hx := Bd.exec
  have hby := Bd.bytes
  have hml : c.maxLocals = 10 := hml0
  have hown : s.vm.findClass "com/example/parley/parley/wire/WireWriterPutUnsignedVarintPinLaw" = some m.cls := findClass_of_methodNamed Bd.named
  have hnm := (name_of_methodNamed Bd.named Bd.method).1
  have X0 : Stand p l e ({ frames := 0, cells := 0, slots := 0, locals := 0 } : Room) s m #[(.ref a0), (.int p1), (.int p2), (.int p3), (.long q4), (.int p5)] below meth c s₁ [] 0 0 := Stand.of_body Bd
  have e0 : s₁.heap = h0 := by rw [← hh, Bd.state]; rfl
  have N0 := Fr.nil n0
  have K0 : Keep h0 h0 [] := Keep.refl _ _
  have pre0 : ∀ t, Steps p.tables e below (s₁.setTop (mkF m 0 #[.val (.ref a0), .val (.int p1), .val (.int p2), .val (.int p3), .val (.long q4), .second, .val (.int p5), .unset, .unset, .unset] [])) t → Steps p.tables e below (s₁.setTop (entryFrame m #[(.ref a0), (.int p1), (.int p2), (.int p3), (.long q4), (.int p5)] 10)) t := fun t k => castTop (ef_rm3 m a0 p1 p2 p3 q4 p5) k
  obtain ⟨fs, hr, hrun, hended, hW, hsame⟩ := X0.leave (v := some (.int (if (p1 - p2) < (0 : Int32) then (if xx = p5 then (1 : Int32) else (0 : Int32)) else (if (p1 - p2) < p3 then (if (p1 - p2) < (p3 - (1 : Int32)) then (if xx = ((((((q4.toUInt64 >>> (((7 : Int32) * (p1 - p2)) &&& 0x3f).toInt64.toUInt64).toInt64) &&& (127 : Int64)).toInt32) ||| (128 : Int32)).toInt8.toInt32) then (1 : Int32) else (0 : Int32)) else (if xx = (((((q4.toUInt64 >>> (((7 : Int32) * (p1 - p2)) &&& 0x3f).toInt64.toUInt64).toInt64) &&& (127 : Int64)).toInt32).toInt8.toInt32) then (1 : Int32) else (0 : Int32))) else (if xx = p5 then (1 : Int32) else (0 : Int32)))))) (fun h => by rw [Bd.returns] at h; cases h)
  refine ⟨_, _, pre0 _ ?_, hrun, hended, _, _, rfl, ?_, ⟨_, rfl⟩, hW, hsame.mono (by decide) (by decide)⟩
  · show Steps p.tables e below (s₁.setTop (mkF m 0 #[.val (.ref a0), .val (.int p1), .val (.int p2), .val (.int p3), .val (.long q4), .second, .val (.int p5), .unset, .unset, .unset] [])) _
    refine XS.iloadN X0.here hx rfl (hb hby d3_0) rfl ?_
    show Steps p.tables e below (s₁.setTop (mkF m 1 #[.val (.ref a0), .val (.int p1), .val (.int p2), .val (.int p3), .val (.long q4), .second, .val (.int p5), .unset, .unset, .unset] [(.int p1)])) _
    refine XS.iloadN X0.here hx rfl (hb hby d3_1) rfl ?_
    show Steps p.tables e below (s₁.setTop (mkF m 2 #[.val (.ref a0), .val (.int p1), .val (.int p2), .val (.int p3), .val (.long q4), .second, .val (.int p5), .unset, .unset, .unset] [(.int p2), (.int p1)])) _
    refine XS.isub X0.here hx rfl (hb hby d3_2) rfl ?_
    show Steps p.tables e below (s₁.setTop (mkF m 3 #[.val (.ref a0), .val (.int p1), .val (.int p2), .val (.int p3), .val (.long q4), .second, .val (.int p5), .unset, .unset, .unset] [(.int (p1 - p2))])) _
    refine XS.istore X0.here hx rfl (hb hby d3_3) rfl (l' := #[.val (.ref a0), .val (.int p1), .val (.int p2), .val (.int p3), .val (.long q4), .second, .val (.int p5), .val (.int (p1 - p2)), .unset, .unset]) rfl ?_
    show Steps p.tables e below (s₁.setTop (mkF m 5 #[.val (.ref a0), .val (.int p1), .val (.int p2), .val (.int p3), .val (.long q4), .second, .val (.int p5), .val (.int (p1 - p2)), .unset, .unset] [])) _
    refine XS.iload X0.here hx rfl (hb hby d3_5) rfl ?_
    by_cases hc7 : (p1 - p2) < (0 : Int32)
    · show Steps p.tables e below (s₁.setTop (mkF m 7 #[.val (.ref a0), .val (.int p1), .val (.int p2), .val (.int p3), .val (.long q4), .second, .val (.int p5), .val (.int (p1 - p2)), .unset, .unset] [(.int (p1 - p2))])) _
      refine XS.ifYes X0.here hx rfl (pc0 := 7) (pc' := 16) rfl (hb hby d3_7) rfl ((if0 _ _).trans (tlt hc7).1) (by decide) (by decide) ?_
      show Steps p.tables e below (s₁.setTop (mkF m 16 #[.val (.ref a0), .val (.int p1), .val (.int p2), .val (.int p3), .val (.long q4), .second, .val (.int p5), .val (.int (p1 - p2)), .unset, .unset] [])) _
      refine XS.aloadN X0.here hx rfl (hb hby d3_16) rfl rfl ?_
      show Steps p.tables e below (s₁.setTop (mkF m 17 #[.val (.ref a0), .val (.int p1), .val (.int p2), .val (.int p3), .val (.long q4), .second, .val (.int p5), .val (.int (p1 - p2)), .unset, .unset] [(.ref a0)])) _
      refine XS.iloadN X0.here hx rfl (hb hby d3_17) rfl ?_
      obtain ⟨cl1, Ar1, -, SS1, MM1, HH1, -⟩ := id V_a0
      have hin1 := inb_of SS1 hin
      have hat1 : cl1.slots[(p1).toNatClampNeg]? = some (.int xx) := HH1.at hin1 hat
      show Steps p.tables e below (s₁.setTop (mkF m 18 #[.val (.ref a0), .val (.int p1), .val (.int p2), .val (.int p3), .val (.long q4), .second, .val (.int p5), .val (.int (p1 - p2)), .unset, .unset] [(.int p1), (.ref a0)])) _
      refine X0.baloadBytes hx (j := p1) (v := (.int xx)) (by rw [e0]; exact Ar1.1) (State.isArrayOf_alike hZ.alike Ar1.2.1) Ar1.2.2 hin1 hat1 (g := (mkF m 18 #[.val (.ref a0), .val (.int p1), .val (.int p2), .val (.int p3), .val (.long q4), .second, .val (.int p5), .val (.int (p1 - p2)), .unset, .unset] [(.int p1), (.ref a0)])) rfl rfl (hb hby d3_18) _ ?_
      show Steps p.tables e below (s₁.setTop (mkF m 19 #[.val (.ref a0), .val (.int p1), .val (.int p2), .val (.int p3), .val (.long q4), .second, .val (.int p5), .val (.int (p1 - p2)), .unset, .unset] [(.int xx)])) _
      refine XS.iload X0.here hx rfl (hb hby d3_19) rfl ?_
      by_cases hc21 : xx = p5
      · show Steps p.tables e below (s₁.setTop (mkF m 21 #[.val (.ref a0), .val (.int p1), .val (.int p2), .val (.int p3), .val (.long q4), .second, .val (.int p5), .val (.int (p1 - p2)), .unset, .unset] [(.int p5), (.int xx)])) _
        refine XS.icmpNo X0.here hx rfl (hb hby d3_21) rfl (teq hc21).2 ?_
        show Steps p.tables e below (s₁.setTop (mkF m 24 #[.val (.ref a0), .val (.int p1), .val (.int p2), .val (.int p3), .val (.long q4), .second, .val (.int p5), .val (.int (p1 - p2)), .unset, .unset] [])) _
        refine XS.iconst X0.here hx rfl (hb hby d3_24) ?_
        show Steps p.tables e below (s₁.setTop (mkF m 25 #[.val (.ref a0), .val (.int p1), .val (.int p2), .val (.int p3), .val (.long q4), .second, .val (.int p5), .val (.int (p1 - p2)), .unset, .unset] [(.int (1 : Int32))])) _
        refine XS.goto X0.here hx rfl (pc0 := 25) (pc' := 29) rfl (hb hby d3_25) (by decide) (by decide) ?_
        show Steps p.tables e below (s₁.setTop (mkF m 29 #[.val (.ref a0), .val (.int p1), .val (.int p2), .val (.int p3), .val (.long q4), .second, .val (.int p5), .val (.int (p1 - p2)), .unset, .unset] [(.int (1 : Int32))])) _
        simp only [if_pos hc7, if_pos hc21] at hr
        exact retN X0 hx (t := .boolean) Bd.returns (by simp) (hb hby d3_29) hr
      · show Steps p.tables e below (s₁.setTop (mkF m 21 #[.val (.ref a0), .val (.int p1), .val (.int p2), .val (.int p3), .val (.long q4), .second, .val (.int p5), .val (.int (p1 - p2)), .unset, .unset] [(.int p5), (.int xx)])) _
        refine XS.icmpYes X0.here hx rfl (pc0 := 21) (pc' := 28) rfl (hb hby d3_21) rfl (feq hc21).2 (by decide) (by decide) ?_
        show Steps p.tables e below (s₁.setTop (mkF m 28 #[.val (.ref a0), .val (.int p1), .val (.int p2), .val (.int p3), .val (.long q4), .second, .val (.int p5), .val (.int (p1 - p2)), .unset, .unset] [])) _
        refine XS.iconst X0.here hx rfl (hb hby d3_28) ?_
        show Steps p.tables e below (s₁.setTop (mkF m 29 #[.val (.ref a0), .val (.int p1), .val (.int p2), .val (.int p3), .val (.long q4), .second, .val (.int p5), .val (.int (p1 - p2)), .unset, .unset] [(.int (0 : Int32))])) _
        simp only [if_pos hc7, if_neg hc21] at hr
        exact retN X0 hx (t := .boolean) Bd.returns (by simp) (hb hby d3_29) hr
    · show Steps p.tables e below (s₁.setTop (mkF m 7 #[.val (.ref a0), .val (.int p1), .val (.int p2), .val (.int p3), .val (.long q4), .second, .val (.int p5), .val (.int (p1 - p2)), .unset, .unset] [(.int (p1 - p2))])) _
      refine XS.ifNo X0.here hx rfl (hb hby d3_7) rfl ((if0 _ _).trans (flt hc7).1) ?_
      show Steps p.tables e below (s₁.setTop (mkF m 10 #[.val (.ref a0), .val (.int p1), .val (.int p2), .val (.int p3), .val (.long q4), .second, .val (.int p5), .val (.int (p1 - p2)), .unset, .unset] [])) _
      refine XS.iload X0.here hx rfl (hb hby d3_10) rfl ?_
      show Steps p.tables e below (s₁.setTop (mkF m 12 #[.val (.ref a0), .val (.int p1), .val (.int p2), .val (.int p3), .val (.long q4), .second, .val (.int p5), .val (.int (p1 - p2)), .unset, .unset] [(.int (p1 - p2))])) _
      refine XS.iloadN X0.here hx rfl (hb hby d3_12) rfl ?_
      by_cases hc13 : (p1 - p2) < p3
      · show Steps p.tables e below (s₁.setTop (mkF m 13 #[.val (.ref a0), .val (.int p1), .val (.int p2), .val (.int p3), .val (.long q4), .second, .val (.int p5), .val (.int (p1 - p2)), .unset, .unset] [(.int p3), (.int (p1 - p2))])) _
        refine XS.icmpYes X0.here hx rfl (pc0 := 13) (pc' := 30) rfl (hb hby d3_13) rfl (tlt hc13).1 (by decide) (by decide) ?_
        show Steps p.tables e below (s₁.setTop (mkF m 30 #[.val (.ref a0), .val (.int p1), .val (.int p2), .val (.int p3), .val (.long q4), .second, .val (.int p5), .val (.int (p1 - p2)), .unset, .unset] [])) _
        refine XS.lload X0.here hx rfl (hb hby d3_30) rfl ?_
        show Steps p.tables e below (s₁.setTop (mkF m 32 #[.val (.ref a0), .val (.int p1), .val (.int p2), .val (.int p3), .val (.long q4), .second, .val (.int p5), .val (.int (p1 - p2)), .unset, .unset] [(.long q4)])) _
        refine XS.bipush X0.here hx rfl (hb hby d3_32) ?_
        show Steps p.tables e below (s₁.setTop (mkF m 34 #[.val (.ref a0), .val (.int p1), .val (.int p2), .val (.int p3), .val (.long q4), .second, .val (.int p5), .val (.int (p1 - p2)), .unset, .unset] [(.int (7 : Int32)), (.long q4)])) _
        refine XS.iload X0.here hx rfl (hb hby d3_34) rfl ?_
        show Steps p.tables e below (s₁.setTop (mkF m 36 #[.val (.ref a0), .val (.int p1), .val (.int p2), .val (.int p3), .val (.long q4), .second, .val (.int p5), .val (.int (p1 - p2)), .unset, .unset] [(.int (p1 - p2)), (.int (7 : Int32)), (.long q4)])) _
        refine XS.imul X0.here hx rfl (hb hby d3_36) rfl ?_
        show Steps p.tables e below (s₁.setTop (mkF m 37 #[.val (.ref a0), .val (.int p1), .val (.int p2), .val (.int p3), .val (.long q4), .second, .val (.int p5), .val (.int (p1 - p2)), .unset, .unset] [(.int ((7 : Int32) * (p1 - p2))), (.long q4)])) _
        refine XS.lushr X0.here hx rfl (hb hby d3_37) rfl ?_
        show Steps p.tables e below (s₁.setTop (mkF m 38 #[.val (.ref a0), .val (.int p1), .val (.int p2), .val (.int p3), .val (.long q4), .second, .val (.int p5), .val (.int (p1 - p2)), .unset, .unset] [(.long ((q4.toUInt64 >>> (((7 : Int32) * (p1 - p2)) &&& 0x3f).toInt64.toUInt64).toInt64))])) _
        refine X0.ldc2Long hx hown (mvT hZ (hw _ (List.mem_of_getElem? (i := 13) rfl))) (g := (mkF m 38 #[.val (.ref a0), .val (.int p1), .val (.int p2), .val (.int p3), .val (.long q4), .second, .val (.int p5), .val (.int (p1 - p2)), .unset, .unset] [(.long ((q4.toUInt64 >>> (((7 : Int32) * (p1 - p2)) &&& 0x3f).toInt64.toUInt64).toInt64))])) rfl (hb hby d3_38) _ ?_
        show Steps p.tables e below (s₁.setTop (mkF m 41 #[.val (.ref a0), .val (.int p1), .val (.int p2), .val (.int p3), .val (.long q4), .second, .val (.int p5), .val (.int (p1 - p2)), .unset, .unset] [(.long (127 : Int64)), (.long ((q4.toUInt64 >>> (((7 : Int32) * (p1 - p2)) &&& 0x3f).toInt64.toUInt64).toInt64))])) _
        refine XS.land X0.here hx rfl (hb hby d3_41) rfl ?_
        show Steps p.tables e below (s₁.setTop (mkF m 42 #[.val (.ref a0), .val (.int p1), .val (.int p2), .val (.int p3), .val (.long q4), .second, .val (.int p5), .val (.int (p1 - p2)), .unset, .unset] [(.long (((q4.toUInt64 >>> (((7 : Int32) * (p1 - p2)) &&& 0x3f).toInt64.toUInt64).toInt64) &&& (127 : Int64)))])) _
        refine XS.l2i X0.here hx rfl (hb hby d3_42) rfl ?_
        show Steps p.tables e below (s₁.setTop (mkF m 43 #[.val (.ref a0), .val (.int p1), .val (.int p2), .val (.int p3), .val (.long q4), .second, .val (.int p5), .val (.int (p1 - p2)), .unset, .unset] [(.int ((((q4.toUInt64 >>> (((7 : Int32) * (p1 - p2)) &&& 0x3f).toInt64.toUInt64).toInt64) &&& (127 : Int64)).toInt32))])) _
        refine XS.istore X0.here hx rfl (hb hby d3_43) rfl (l' := #[.val (.ref a0), .val (.int p1), .val (.int p2), .val (.int p3), .val (.long q4), .second, .val (.int p5), .val (.int (p1 - p2)), .val (.int ((((q4.toUInt64 >>> (((7 : Int32) * (p1 - p2)) &&& 0x3f).toInt64.toUInt64).toInt64) &&& (127 : Int64)).toInt32)), .unset]) rfl ?_
        show Steps p.tables e below (s₁.setTop (mkF m 45 #[.val (.ref a0), .val (.int p1), .val (.int p2), .val (.int p3), .val (.long q4), .second, .val (.int p5), .val (.int (p1 - p2)), .val (.int ((((q4.toUInt64 >>> (((7 : Int32) * (p1 - p2)) &&& 0x3f).toInt64.toUInt64).toInt64) &&& (127 : Int64)).toInt32)), .unset] [])) _
        refine XS.iload X0.here hx rfl (hb hby d3_45) rfl ?_
        show Steps p.tables e below (s₁.setTop (mkF m 47 #[.val (.ref a0), .val (.int p1), .val (.int p2), .val (.int p3), .val (.long q4), .second, .val (.int p5), .val (.int (p1 - p2)), .val (.int ((((q4.toUInt64 >>> (((7 : Int32) * (p1 - p2)) &&& 0x3f).toInt64.toUInt64).toInt64) &&& (127 : Int64)).toInt32)), .unset] [(.int (p1 - p2))])) _
        refine XS.iloadN X0.here hx rfl (hb hby d3_47) rfl ?_
        show Steps p.tables e below (s₁.setTop (mkF m 48 #[.val (.ref a0), .val (.int p1), .val (.int p2), .val (.int p3), .val (.long q4), .second, .val (.int p5), .val (.int (p1 - p2)), .val (.int ((((q4.toUInt64 >>> (((7 : Int32) * (p1 - p2)) &&& 0x3f).toInt64.toUInt64).toInt64) &&& (127 : Int64)).toInt32)), .unset] [(.int p3), (.int (p1 - p2))])) _
        refine XS.iconst X0.here hx rfl (hb hby d3_48) ?_
        show Steps p.tables e below (s₁.setTop (mkF m 49 #[.val (.ref a0), .val (.int p1), .val (.int p2), .val (.int p3), .val (.long q4), .second, .val (.int p5), .val (.int (p1 - p2)), .val (.int ((((q4.toUInt64 >>> (((7 : Int32) * (p1 - p2)) &&& 0x3f).toInt64.toUInt64).toInt64) &&& (127 : Int64)).toInt32)), .unset] [(.int (1 : Int32)), (.int p3), (.int (p1 - p2))])) _
        refine XS.isub X0.here hx rfl (hb hby d3_49) rfl ?_
        by_cases hc50 : (p1 - p2) < (p3 - (1 : Int32))
        · show Steps p.tables e below (s₁.setTop (mkF m 50 #[.val (.ref a0), .val (.int p1), .val (.int p2), .val (.int p3), .val (.long q4), .second, .val (.int p5), .val (.int (p1 - p2)), .val (.int ((((q4.toUInt64 >>> (((7 : Int32) * (p1 - p2)) &&& 0x3f).toInt64.toUInt64).toInt64) &&& (127 : Int64)).toInt32)), .unset] [(.int (p3 - (1 : Int32))), (.int (p1 - p2))])) _
          refine XS.icmpNo X0.here hx rfl (hb hby d3_50) rfl (tlt hc50).2.1 ?_
          show Steps p.tables e below (s₁.setTop (mkF m 53 #[.val (.ref a0), .val (.int p1), .val (.int p2), .val (.int p3), .val (.long q4), .second, .val (.int p5), .val (.int (p1 - p2)), .val (.int ((((q4.toUInt64 >>> (((7 : Int32) * (p1 - p2)) &&& 0x3f).toInt64.toUInt64).toInt64) &&& (127 : Int64)).toInt32)), .unset] [])) _
          refine XS.iload X0.here hx rfl (hb hby d3_53) rfl ?_
          show Steps p.tables e below (s₁.setTop (mkF m 55 #[.val (.ref a0), .val (.int p1), .val (.int p2), .val (.int p3), .val (.long q4), .second, .val (.int p5), .val (.int (p1 - p2)), .val (.int ((((q4.toUInt64 >>> (((7 : Int32) * (p1 - p2)) &&& 0x3f).toInt64.toUInt64).toInt64) &&& (127 : Int64)).toInt32)), .unset] [(.int ((((q4.toUInt64 >>> (((7 : Int32) * (p1 - p2)) &&& 0x3f).toInt64.toUInt64).toInt64) &&& (127 : Int64)).toInt32))])) _
          refine XS.sipush X0.here hx rfl (hb hby d3_55) ?_
          show Steps p.tables e below (s₁.setTop (mkF m 58 #[.val (.ref a0), .val (.int p1), .val (.int p2), .val (.int p3), .val (.long q4), .second, .val (.int p5), .val (.int (p1 - p2)), .val (.int ((((q4.toUInt64 >>> (((7 : Int32) * (p1 - p2)) &&& 0x3f).toInt64.toUInt64).toInt64) &&& (127 : Int64)).toInt32)), .unset] [(.int (128 : Int32)), (.int ((((q4.toUInt64 >>> (((7 : Int32) * (p1 - p2)) &&& 0x3f).toInt64.toUInt64).toInt64) &&& (127 : Int64)).toInt32))])) _
          refine XS.ior X0.here hx rfl (hb hby d3_58) rfl ?_
          show Steps p.tables e below (s₁.setTop (mkF m 59 #[.val (.ref a0), .val (.int p1), .val (.int p2), .val (.int p3), .val (.long q4), .second, .val (.int p5), .val (.int (p1 - p2)), .val (.int ((((q4.toUInt64 >>> (((7 : Int32) * (p1 - p2)) &&& 0x3f).toInt64.toUInt64).toInt64) &&& (127 : Int64)).toInt32)), .unset] [(.int (((((q4.toUInt64 >>> (((7 : Int32) * (p1 - p2)) &&& 0x3f).toInt64.toUInt64).toInt64) &&& (127 : Int64)).toInt32) ||| (128 : Int32)))])) _
          refine XS.goto X0.here hx rfl (pc0 := 59) (pc' := 64) rfl (hb hby d3_59) (by decide) (by decide) ?_
          show Steps p.tables e below (s₁.setTop (mkF m 64 #[.val (.ref a0), .val (.int p1), .val (.int p2), .val (.int p3), .val (.long q4), .second, .val (.int p5), .val (.int (p1 - p2)), .val (.int ((((q4.toUInt64 >>> (((7 : Int32) * (p1 - p2)) &&& 0x3f).toInt64.toUInt64).toInt64) &&& (127 : Int64)).toInt32)), .unset] [(.int (((((q4.toUInt64 >>> (((7 : Int32) * (p1 - p2)) &&& 0x3f).toInt64.toUInt64).toInt64) &&& (127 : Int64)).toInt32) ||| (128 : Int32)))])) _
          refine XS.istore X0.here hx rfl (hb hby d3_64) rfl (l' := #[.val (.ref a0), .val (.int p1), .val (.int p2), .val (.int p3), .val (.long q4), .second, .val (.int p5), .val (.int (p1 - p2)), .val (.int ((((q4.toUInt64 >>> (((7 : Int32) * (p1 - p2)) &&& 0x3f).toInt64.toUInt64).toInt64) &&& (127 : Int64)).toInt32)), .val (.int (((((q4.toUInt64 >>> (((7 : Int32) * (p1 - p2)) &&& 0x3f).toInt64.toUInt64).toInt64) &&& (127 : Int64)).toInt32) ||| (128 : Int32)))]) rfl ?_
          show Steps p.tables e below (s₁.setTop (mkF m 66 #[.val (.ref a0), .val (.int p1), .val (.int p2), .val (.int p3), .val (.long q4), .second, .val (.int p5), .val (.int (p1 - p2)), .val (.int ((((q4.toUInt64 >>> (((7 : Int32) * (p1 - p2)) &&& 0x3f).toInt64.toUInt64).toInt64) &&& (127 : Int64)).toInt32)), .val (.int (((((q4.toUInt64 >>> (((7 : Int32) * (p1 - p2)) &&& 0x3f).toInt64.toUInt64).toInt64) &&& (127 : Int64)).toInt32) ||| (128 : Int32)))] [])) _
          refine XS.aloadN X0.here hx rfl (hb hby d3_66) rfl rfl ?_
          show Steps p.tables e below (s₁.setTop (mkF m 67 #[.val (.ref a0), .val (.int p1), .val (.int p2), .val (.int p3), .val (.long q4), .second, .val (.int p5), .val (.int (p1 - p2)), .val (.int ((((q4.toUInt64 >>> (((7 : Int32) * (p1 - p2)) &&& 0x3f).toInt64.toUInt64).toInt64) &&& (127 : Int64)).toInt32)), .val (.int (((((q4.toUInt64 >>> (((7 : Int32) * (p1 - p2)) &&& 0x3f).toInt64.toUInt64).toInt64) &&& (127 : Int64)).toInt32) ||| (128 : Int32)))] [(.ref a0)])) _
          refine XS.iloadN X0.here hx rfl (hb hby d3_67) rfl ?_
          obtain ⟨cl2, Ar2, -, SS2, MM2, HH2, -⟩ := id V_a0
          have hin2 := inb_of SS2 hin
          have hat2 : cl2.slots[(p1).toNatClampNeg]? = some (.int xx) := HH2.at hin2 hat
          show Steps p.tables e below (s₁.setTop (mkF m 68 #[.val (.ref a0), .val (.int p1), .val (.int p2), .val (.int p3), .val (.long q4), .second, .val (.int p5), .val (.int (p1 - p2)), .val (.int ((((q4.toUInt64 >>> (((7 : Int32) * (p1 - p2)) &&& 0x3f).toInt64.toUInt64).toInt64) &&& (127 : Int64)).toInt32)), .val (.int (((((q4.toUInt64 >>> (((7 : Int32) * (p1 - p2)) &&& 0x3f).toInt64.toUInt64).toInt64) &&& (127 : Int64)).toInt32) ||| (128 : Int32)))] [(.int p1), (.ref a0)])) _
          refine X0.baloadBytes hx (j := p1) (v := (.int xx)) (by rw [e0]; exact Ar2.1) (State.isArrayOf_alike hZ.alike Ar2.2.1) Ar2.2.2 hin2 hat2 (g := (mkF m 68 #[.val (.ref a0), .val (.int p1), .val (.int p2), .val (.int p3), .val (.long q4), .second, .val (.int p5), .val (.int (p1 - p2)), .val (.int ((((q4.toUInt64 >>> (((7 : Int32) * (p1 - p2)) &&& 0x3f).toInt64.toUInt64).toInt64) &&& (127 : Int64)).toInt32)), .val (.int (((((q4.toUInt64 >>> (((7 : Int32) * (p1 - p2)) &&& 0x3f).toInt64.toUInt64).toInt64) &&& (127 : Int64)).toInt32) ||| (128 : Int32)))] [(.int p1), (.ref a0)])) rfl rfl (hb hby d3_68) _ ?_
          show Steps p.tables e below (s₁.setTop (mkF m 69 #[.val (.ref a0), .val (.int p1), .val (.int p2), .val (.int p3), .val (.long q4), .second, .val (.int p5), .val (.int (p1 - p2)), .val (.int ((((q4.toUInt64 >>> (((7 : Int32) * (p1 - p2)) &&& 0x3f).toInt64.toUInt64).toInt64) &&& (127 : Int64)).toInt32)), .val (.int (((((q4.toUInt64 >>> (((7 : Int32) * (p1 - p2)) &&& 0x3f).toInt64.toUInt64).toInt64) &&& (127 : Int64)).toInt32) ||| (128 : Int32)))] [(.int xx)])) _
          refine XS.iload X0.here hx rfl (hb hby d3_69) rfl ?_
          show Steps p.tables e below (s₁.setTop (mkF m 71 #[.val (.ref a0), .val (.int p1), .val (.int p2), .val (.int p3), .val (.long q4), .second, .val (.int p5), .val (.int (p1 - p2)), .val (.int ((((q4.toUInt64 >>> (((7 : Int32) * (p1 - p2)) &&& 0x3f).toInt64.toUInt64).toInt64) &&& (127 : Int64)).toInt32)), .val (.int (((((q4.toUInt64 >>> (((7 : Int32) * (p1 - p2)) &&& 0x3f).toInt64.toUInt64).toInt64) &&& (127 : Int64)).toInt32) ||| (128 : Int32)))] [(.int (((((q4.toUInt64 >>> (((7 : Int32) * (p1 - p2)) &&& 0x3f).toInt64.toUInt64).toInt64) &&& (127 : Int64)).toInt32) ||| (128 : Int32))), (.int xx)])) _
          refine XS.i2b X0.here hx rfl (hb hby d3_71) rfl ?_
          by_cases hc72 : xx = ((((((q4.toUInt64 >>> (((7 : Int32) * (p1 - p2)) &&& 0x3f).toInt64.toUInt64).toInt64) &&& (127 : Int64)).toInt32) ||| (128 : Int32)).toInt8.toInt32)
          · show Steps p.tables e below (s₁.setTop (mkF m 72 #[.val (.ref a0), .val (.int p1), .val (.int p2), .val (.int p3), .val (.long q4), .second, .val (.int p5), .val (.int (p1 - p2)), .val (.int ((((q4.toUInt64 >>> (((7 : Int32) * (p1 - p2)) &&& 0x3f).toInt64.toUInt64).toInt64) &&& (127 : Int64)).toInt32)), .val (.int (((((q4.toUInt64 >>> (((7 : Int32) * (p1 - p2)) &&& 0x3f).toInt64.toUInt64).toInt64) &&& (127 : Int64)).toInt32) ||| (128 : Int32)))] [(.int ((((((q4.toUInt64 >>> (((7 : Int32) * (p1 - p2)) &&& 0x3f).toInt64.toUInt64).toInt64) &&& (127 : Int64)).toInt32) ||| (128 : Int32)).toInt8.toInt32)), (.int xx)])) _
            refine XS.icmpNo X0.here hx rfl (hb hby d3_72) rfl (teq hc72).2 ?_
            show Steps p.tables e below (s₁.setTop (mkF m 75 #[.val (.ref a0), .val (.int p1), .val (.int p2), .val (.int p3), .val (.long q4), .second, .val (.int p5), .val (.int (p1 - p2)), .val (.int ((((q4.toUInt64 >>> (((7 : Int32) * (p1 - p2)) &&& 0x3f).toInt64.toUInt64).toInt64) &&& (127 : Int64)).toInt32)), .val (.int (((((q4.toUInt64 >>> (((7 : Int32) * (p1 - p2)) &&& 0x3f).toInt64.toUInt64).toInt64) &&& (127 : Int64)).toInt32) ||| (128 : Int32)))] [])) _
            refine XS.iconst X0.here hx rfl (hb hby d3_75) ?_
            show Steps p.tables e below (s₁.setTop (mkF m 76 #[.val (.ref a0), .val (.int p1), .val (.int p2), .val (.int p3), .val (.long q4), .second, .val (.int p5), .val (.int (p1 - p2)), .val (.int ((((q4.toUInt64 >>> (((7 : Int32) * (p1 - p2)) &&& 0x3f).toInt64.toUInt64).toInt64) &&& (127 : Int64)).toInt32)), .val (.int (((((q4.toUInt64 >>> (((7 : Int32) * (p1 - p2)) &&& 0x3f).toInt64.toUInt64).toInt64) &&& (127 : Int64)).toInt32) ||| (128 : Int32)))] [(.int (1 : Int32))])) _
            refine XS.goto X0.here hx rfl (pc0 := 76) (pc' := 80) rfl (hb hby d3_76) (by decide) (by decide) ?_
            show Steps p.tables e below (s₁.setTop (mkF m 80 #[.val (.ref a0), .val (.int p1), .val (.int p2), .val (.int p3), .val (.long q4), .second, .val (.int p5), .val (.int (p1 - p2)), .val (.int ((((q4.toUInt64 >>> (((7 : Int32) * (p1 - p2)) &&& 0x3f).toInt64.toUInt64).toInt64) &&& (127 : Int64)).toInt32)), .val (.int (((((q4.toUInt64 >>> (((7 : Int32) * (p1 - p2)) &&& 0x3f).toInt64.toUInt64).toInt64) &&& (127 : Int64)).toInt32) ||| (128 : Int32)))] [(.int (1 : Int32))])) _
            simp only [if_neg hc7, if_pos hc13, if_pos hc50, if_pos hc72] at hr
            exact retN X0 hx (t := .boolean) Bd.returns (by simp) (hb hby d3_80) hr
          · show Steps p.tables e below (s₁.setTop (mkF m 72 #[.val (.ref a0), .val (.int p1), .val (.int p2), .val (.int p3), .val (.long q4), .second, .val (.int p5), .val (.int (p1 - p2)), .val (.int ((((q4.toUInt64 >>> (((7 : Int32) * (p1 - p2)) &&& 0x3f).toInt64.toUInt64).toInt64) &&& (127 : Int64)).toInt32)), .val (.int (((((q4.toUInt64 >>> (((7 : Int32) * (p1 - p2)) &&& 0x3f).toInt64.toUInt64).toInt64) &&& (127 : Int64)).toInt32) ||| (128 : Int32)))] [(.int ((((((q4.toUInt64 >>> (((7 : Int32) * (p1 - p2)) &&& 0x3f).toInt64.toUInt64).toInt64) &&& (127 : Int64)).toInt32) ||| (128 : Int32)).toInt8.toInt32)), (.int xx)])) _
            refine XS.icmpYes X0.here hx rfl (pc0 := 72) (pc' := 79) rfl (hb hby d3_72) rfl (feq hc72).2 (by decide) (by decide) ?_
            show Steps p.tables e below (s₁.setTop (mkF m 79 #[.val (.ref a0), .val (.int p1), .val (.int p2), .val (.int p3), .val (.long q4), .second, .val (.int p5), .val (.int (p1 - p2)), .val (.int ((((q4.toUInt64 >>> (((7 : Int32) * (p1 - p2)) &&& 0x3f).toInt64.toUInt64).toInt64) &&& (127 : Int64)).toInt32)), .val (.int (((((q4.toUInt64 >>> (((7 : Int32) * (p1 - p2)) &&& 0x3f).toInt64.toUInt64).toInt64) &&& (127 : Int64)).toInt32) ||| (128 : Int32)))] [])) _
            refine XS.iconst X0.here hx rfl (hb hby d3_79) ?_
            show Steps p.tables e below (s₁.setTop (mkF m 80 #[.val (.ref a0), .val (.int p1), .val (.int p2), .val (.int p3), .val (.long q4), .second, .val (.int p5), .val (.int (p1 - p2)), .val (.int ((((q4.toUInt64 >>> (((7 : Int32) * (p1 - p2)) &&& 0x3f).toInt64.toUInt64).toInt64) &&& (127 : Int64)).toInt32)), .val (.int (((((q4.toUInt64 >>> (((7 : Int32) * (p1 - p2)) &&& 0x3f).toInt64.toUInt64).toInt64) &&& (127 : Int64)).toInt32) ||| (128 : Int32)))] [(.int (0 : Int32))])) _
            simp only [if_neg hc7, if_pos hc13, if_pos hc50, if_neg hc72] at hr
            exact retN X0 hx (t := .boolean) Bd.returns (by simp) (hb hby d3_80) hr
        · show Steps p.tables e below (s₁.setTop (mkF m 50 #[.val (.ref a0), .val (.int p1), .val (.int p2), .val (.int p3), .val (.long q4), .second, .val (.int p5), .val (.int (p1 - p2)), .val (.int ((((q4.toUInt64 >>> (((7 : Int32) * (p1 - p2)) &&& 0x3f).toInt64.toUInt64).toInt64) &&& (127 : Int64)).toInt32)), .unset] [(.int (p3 - (1 : Int32))), (.int (p1 - p2))])) _
          refine XS.icmpYes X0.here hx rfl (pc0 := 50) (pc' := 62) rfl (hb hby d3_50) rfl (flt hc50).2.1 (by decide) (by decide) ?_
          show Steps p.tables e below (s₁.setTop (mkF m 62 #[.val (.ref a0), .val (.int p1), .val (.int p2), .val (.int p3), .val (.long q4), .second, .val (.int p5), .val (.int (p1 - p2)), .val (.int ((((q4.toUInt64 >>> (((7 : Int32) * (p1 - p2)) &&& 0x3f).toInt64.toUInt64).toInt64) &&& (127 : Int64)).toInt32)), .unset] [])) _
          refine XS.iload X0.here hx rfl (hb hby d3_62) rfl ?_
          show Steps p.tables e below (s₁.setTop (mkF m 64 #[.val (.ref a0), .val (.int p1), .val (.int p2), .val (.int p3), .val (.long q4), .second, .val (.int p5), .val (.int (p1 - p2)), .val (.int ((((q4.toUInt64 >>> (((7 : Int32) * (p1 - p2)) &&& 0x3f).toInt64.toUInt64).toInt64) &&& (127 : Int64)).toInt32)), .unset] [(.int ((((q4.toUInt64 >>> (((7 : Int32) * (p1 - p2)) &&& 0x3f).toInt64.toUInt64).toInt64) &&& (127 : Int64)).toInt32))])) _
          refine XS.istore X0.here hx rfl (hb hby d3_64) rfl (l' := #[.val (.ref a0), .val (.int p1), .val (.int p2), .val (.int p3), .val (.long q4), .second, .val (.int p5), .val (.int (p1 - p2)), .val (.int ((((q4.toUInt64 >>> (((7 : Int32) * (p1 - p2)) &&& 0x3f).toInt64.toUInt64).toInt64) &&& (127 : Int64)).toInt32)), .val (.int ((((q4.toUInt64 >>> (((7 : Int32) * (p1 - p2)) &&& 0x3f).toInt64.toUInt64).toInt64) &&& (127 : Int64)).toInt32))]) rfl ?_
          show Steps p.tables e below (s₁.setTop (mkF m 66 #[.val (.ref a0), .val (.int p1), .val (.int p2), .val (.int p3), .val (.long q4), .second, .val (.int p5), .val (.int (p1 - p2)), .val (.int ((((q4.toUInt64 >>> (((7 : Int32) * (p1 - p2)) &&& 0x3f).toInt64.toUInt64).toInt64) &&& (127 : Int64)).toInt32)), .val (.int ((((q4.toUInt64 >>> (((7 : Int32) * (p1 - p2)) &&& 0x3f).toInt64.toUInt64).toInt64) &&& (127 : Int64)).toInt32))] [])) _
          refine XS.aloadN X0.here hx rfl (hb hby d3_66) rfl rfl ?_
          show Steps p.tables e below (s₁.setTop (mkF m 67 #[.val (.ref a0), .val (.int p1), .val (.int p2), .val (.int p3), .val (.long q4), .second, .val (.int p5), .val (.int (p1 - p2)), .val (.int ((((q4.toUInt64 >>> (((7 : Int32) * (p1 - p2)) &&& 0x3f).toInt64.toUInt64).toInt64) &&& (127 : Int64)).toInt32)), .val (.int ((((q4.toUInt64 >>> (((7 : Int32) * (p1 - p2)) &&& 0x3f).toInt64.toUInt64).toInt64) &&& (127 : Int64)).toInt32))] [(.ref a0)])) _
          refine XS.iloadN X0.here hx rfl (hb hby d3_67) rfl ?_
          obtain ⟨cl3, Ar3, -, SS3, MM3, HH3, -⟩ := id V_a0
          have hin3 := inb_of SS3 hin
          have hat3 : cl3.slots[(p1).toNatClampNeg]? = some (.int xx) := HH3.at hin3 hat
          show Steps p.tables e below (s₁.setTop (mkF m 68 #[.val (.ref a0), .val (.int p1), .val (.int p2), .val (.int p3), .val (.long q4), .second, .val (.int p5), .val (.int (p1 - p2)), .val (.int ((((q4.toUInt64 >>> (((7 : Int32) * (p1 - p2)) &&& 0x3f).toInt64.toUInt64).toInt64) &&& (127 : Int64)).toInt32)), .val (.int ((((q4.toUInt64 >>> (((7 : Int32) * (p1 - p2)) &&& 0x3f).toInt64.toUInt64).toInt64) &&& (127 : Int64)).toInt32))] [(.int p1), (.ref a0)])) _
          refine X0.baloadBytes hx (j := p1) (v := (.int xx)) (by rw [e0]; exact Ar3.1) (State.isArrayOf_alike hZ.alike Ar3.2.1) Ar3.2.2 hin3 hat3 (g := (mkF m 68 #[.val (.ref a0), .val (.int p1), .val (.int p2), .val (.int p3), .val (.long q4), .second, .val (.int p5), .val (.int (p1 - p2)), .val (.int ((((q4.toUInt64 >>> (((7 : Int32) * (p1 - p2)) &&& 0x3f).toInt64.toUInt64).toInt64) &&& (127 : Int64)).toInt32)), .val (.int ((((q4.toUInt64 >>> (((7 : Int32) * (p1 - p2)) &&& 0x3f).toInt64.toUInt64).toInt64) &&& (127 : Int64)).toInt32))] [(.int p1), (.ref a0)])) rfl rfl (hb hby d3_68) _ ?_
          show Steps p.tables e below (s₁.setTop (mkF m 69 #[.val (.ref a0), .val (.int p1), .val (.int p2), .val (.int p3), .val (.long q4), .second, .val (.int p5), .val (.int (p1 - p2)), .val (.int ((((q4.toUInt64 >>> (((7 : Int32) * (p1 - p2)) &&& 0x3f).toInt64.toUInt64).toInt64) &&& (127 : Int64)).toInt32)), .val (.int ((((q4.toUInt64 >>> (((7 : Int32) * (p1 - p2)) &&& 0x3f).toInt64.toUInt64).toInt64) &&& (127 : Int64)).toInt32))] [(.int xx)])) _
          refine XS.iload X0.here hx rfl (hb hby d3_69) rfl ?_
          show Steps p.tables e below (s₁.setTop (mkF m 71 #[.val (.ref a0), .val (.int p1), .val (.int p2), .val (.int p3), .val (.long q4), .second, .val (.int p5), .val (.int (p1 - p2)), .val (.int ((((q4.toUInt64 >>> (((7 : Int32) * (p1 - p2)) &&& 0x3f).toInt64.toUInt64).toInt64) &&& (127 : Int64)).toInt32)), .val (.int ((((q4.toUInt64 >>> (((7 : Int32) * (p1 - p2)) &&& 0x3f).toInt64.toUInt64).toInt64) &&& (127 : Int64)).toInt32))] [(.int ((((q4.toUInt64 >>> (((7 : Int32) * (p1 - p2)) &&& 0x3f).toInt64.toUInt64).toInt64) &&& (127 : Int64)).toInt32)), (.int xx)])) _
          refine XS.i2b X0.here hx rfl (hb hby d3_71) rfl ?_
          by_cases hc72 : xx = (((((q4.toUInt64 >>> (((7 : Int32) * (p1 - p2)) &&& 0x3f).toInt64.toUInt64).toInt64) &&& (127 : Int64)).toInt32).toInt8.toInt32)
          · show Steps p.tables e below (s₁.setTop (mkF m 72 #[.val (.ref a0), .val (.int p1), .val (.int p2), .val (.int p3), .val (.long q4), .second, .val (.int p5), .val (.int (p1 - p2)), .val (.int ((((q4.toUInt64 >>> (((7 : Int32) * (p1 - p2)) &&& 0x3f).toInt64.toUInt64).toInt64) &&& (127 : Int64)).toInt32)), .val (.int ((((q4.toUInt64 >>> (((7 : Int32) * (p1 - p2)) &&& 0x3f).toInt64.toUInt64).toInt64) &&& (127 : Int64)).toInt32))] [(.int (((((q4.toUInt64 >>> (((7 : Int32) * (p1 - p2)) &&& 0x3f).toInt64.toUInt64).toInt64) &&& (127 : Int64)).toInt32).toInt8.toInt32)), (.int xx)])) _
            refine XS.icmpNo X0.here hx rfl (hb hby d3_72) rfl (teq hc72).2 ?_
            show Steps p.tables e below (s₁.setTop (mkF m 75 #[.val (.ref a0), .val (.int p1), .val (.int p2), .val (.int p3), .val (.long q4), .second, .val (.int p5), .val (.int (p1 - p2)), .val (.int ((((q4.toUInt64 >>> (((7 : Int32) * (p1 - p2)) &&& 0x3f).toInt64.toUInt64).toInt64) &&& (127 : Int64)).toInt32)), .val (.int ((((q4.toUInt64 >>> (((7 : Int32) * (p1 - p2)) &&& 0x3f).toInt64.toUInt64).toInt64) &&& (127 : Int64)).toInt32))] [])) _
            refine XS.iconst X0.here hx rfl (hb hby d3_75) ?_
            show Steps p.tables e below (s₁.setTop (mkF m 76 #[.val (.ref a0), .val (.int p1), .val (.int p2), .val (.int p3), .val (.long q4), .second, .val (.int p5), .val (.int (p1 - p2)), .val (.int ((((q4.toUInt64 >>> (((7 : Int32) * (p1 - p2)) &&& 0x3f).toInt64.toUInt64).toInt64) &&& (127 : Int64)).toInt32)), .val (.int ((((q4.toUInt64 >>> (((7 : Int32) * (p1 - p2)) &&& 0x3f).toInt64.toUInt64).toInt64) &&& (127 : Int64)).toInt32))] [(.int (1 : Int32))])) _
            refine XS.goto X0.here hx rfl (pc0 := 76) (pc' := 80) rfl (hb hby d3_76) (by decide) (by decide) ?_
            show Steps p.tables e below (s₁.setTop (mkF m 80 #[.val (.ref a0), .val (.int p1), .val (.int p2), .val (.int p3), .val (.long q4), .second, .val (.int p5), .val (.int (p1 - p2)), .val (.int ((((q4.toUInt64 >>> (((7 : Int32) * (p1 - p2)) &&& 0x3f).toInt64.toUInt64).toInt64) &&& (127 : Int64)).toInt32)), .val (.int ((((q4.toUInt64 >>> (((7 : Int32) * (p1 - p2)) &&& 0x3f).toInt64.toUInt64).toInt64) &&& (127 : Int64)).toInt32))] [(.int (1 : Int32))])) _
            simp only [if_neg hc7, if_pos hc13, if_neg hc50, if_pos hc72] at hr
            exact retN X0 hx (t := .boolean) Bd.returns (by simp) (hb hby d3_80) hr
          · show Steps p.tables e below (s₁.setTop (mkF m 72 #[.val (.ref a0), .val (.int p1), .val (.int p2), .val (.int p3), .val (.long q4), .second, .val (.int p5), .val (.int (p1 - p2)), .val (.int ((((q4.toUInt64 >>> (((7 : Int32) * (p1 - p2)) &&& 0x3f).toInt64.toUInt64).toInt64) &&& (127 : Int64)).toInt32)), .val (.int ((((q4.toUInt64 >>> (((7 : Int32) * (p1 - p2)) &&& 0x3f).toInt64.toUInt64).toInt64) &&& (127 : Int64)).toInt32))] [(.int (((((q4.toUInt64 >>> (((7 : Int32) * (p1 - p2)) &&& 0x3f).toInt64.toUInt64).toInt64) &&& (127 : Int64)).toInt32).toInt8.toInt32)), (.int xx)])) _
            refine XS.icmpYes X0.here hx rfl (pc0 := 72) (pc' := 79) rfl (hb hby d3_72) rfl (feq hc72).2 (by decide) (by decide) ?_
            show Steps p.tables e below (s₁.setTop (mkF m 79 #[.val (.ref a0), .val (.int p1), .val (.int p2), .val (.int p3), .val (.long q4), .second, .val (.int p5), .val (.int (p1 - p2)), .val (.int ((((q4.toUInt64 >>> (((7 : Int32) * (p1 - p2)) &&& 0x3f).toInt64.toUInt64).toInt64) &&& (127 : Int64)).toInt32)), .val (.int ((((q4.toUInt64 >>> (((7 : Int32) * (p1 - p2)) &&& 0x3f).toInt64.toUInt64).toInt64) &&& (127 : Int64)).toInt32))] [])) _
            refine XS.iconst X0.here hx rfl (hb hby d3_79) ?_
            show Steps p.tables e below (s₁.setTop (mkF m 80 #[.val (.ref a0), .val (.int p1), .val (.int p2), .val (.int p3), .val (.long q4), .second, .val (.int p5), .val (.int (p1 - p2)), .val (.int ((((q4.toUInt64 >>> (((7 : Int32) * (p1 - p2)) &&& 0x3f).toInt64.toUInt64).toInt64) &&& (127 : Int64)).toInt32)), .val (.int ((((q4.toUInt64 >>> (((7 : Int32) * (p1 - p2)) &&& 0x3f).toInt64.toUInt64).toInt64) &&& (127 : Int64)).toInt32))] [(.int (0 : Int32))])) _
            simp only [if_neg hc7, if_pos hc13, if_neg hc50, if_neg hc72] at hr
            exact retN X0 hx (t := .boolean) Bd.returns (by simp) (hb hby d3_80) hr
      · show Steps p.tables e below (s₁.setTop (mkF m 13 #[.val (.ref a0), .val (.int p1), .val (.int p2), .val (.int p3), .val (.long q4), .second, .val (.int p5), .val (.int (p1 - p2)), .unset, .unset] [(.int p3), (.int (p1 - p2))])) _
        refine XS.icmpNo X0.here hx rfl (hb hby d3_13) rfl (flt hc13).1 ?_
        show Steps p.tables e below (s₁.setTop (mkF m 16 #[.val (.ref a0), .val (.int p1), .val (.int p2), .val (.int p3), .val (.long q4), .second, .val (.int p5), .val (.int (p1 - p2)), .unset, .unset] [])) _
        refine XS.aloadN X0.here hx rfl (hb hby d3_16) rfl rfl ?_
        show Steps p.tables e below (s₁.setTop (mkF m 17 #[.val (.ref a0), .val (.int p1), .val (.int p2), .val (.int p3), .val (.long q4), .second, .val (.int p5), .val (.int (p1 - p2)), .unset, .unset] [(.ref a0)])) _
        refine XS.iloadN X0.here hx rfl (hb hby d3_17) rfl ?_
        obtain ⟨cl4, Ar4, -, SS4, MM4, HH4, -⟩ := id V_a0
        have hin4 := inb_of SS4 hin
        have hat4 : cl4.slots[(p1).toNatClampNeg]? = some (.int xx) := HH4.at hin4 hat
        show Steps p.tables e below (s₁.setTop (mkF m 18 #[.val (.ref a0), .val (.int p1), .val (.int p2), .val (.int p3), .val (.long q4), .second, .val (.int p5), .val (.int (p1 - p2)), .unset, .unset] [(.int p1), (.ref a0)])) _
        refine X0.baloadBytes hx (j := p1) (v := (.int xx)) (by rw [e0]; exact Ar4.1) (State.isArrayOf_alike hZ.alike Ar4.2.1) Ar4.2.2 hin4 hat4 (g := (mkF m 18 #[.val (.ref a0), .val (.int p1), .val (.int p2), .val (.int p3), .val (.long q4), .second, .val (.int p5), .val (.int (p1 - p2)), .unset, .unset] [(.int p1), (.ref a0)])) rfl rfl (hb hby d3_18) _ ?_
        show Steps p.tables e below (s₁.setTop (mkF m 19 #[.val (.ref a0), .val (.int p1), .val (.int p2), .val (.int p3), .val (.long q4), .second, .val (.int p5), .val (.int (p1 - p2)), .unset, .unset] [(.int xx)])) _
        refine XS.iload X0.here hx rfl (hb hby d3_19) rfl ?_
        by_cases hc21 : xx = p5
        · show Steps p.tables e below (s₁.setTop (mkF m 21 #[.val (.ref a0), .val (.int p1), .val (.int p2), .val (.int p3), .val (.long q4), .second, .val (.int p5), .val (.int (p1 - p2)), .unset, .unset] [(.int p5), (.int xx)])) _
          refine XS.icmpNo X0.here hx rfl (hb hby d3_21) rfl (teq hc21).2 ?_
          show Steps p.tables e below (s₁.setTop (mkF m 24 #[.val (.ref a0), .val (.int p1), .val (.int p2), .val (.int p3), .val (.long q4), .second, .val (.int p5), .val (.int (p1 - p2)), .unset, .unset] [])) _
          refine XS.iconst X0.here hx rfl (hb hby d3_24) ?_
          show Steps p.tables e below (s₁.setTop (mkF m 25 #[.val (.ref a0), .val (.int p1), .val (.int p2), .val (.int p3), .val (.long q4), .second, .val (.int p5), .val (.int (p1 - p2)), .unset, .unset] [(.int (1 : Int32))])) _
          refine XS.goto X0.here hx rfl (pc0 := 25) (pc' := 29) rfl (hb hby d3_25) (by decide) (by decide) ?_
          show Steps p.tables e below (s₁.setTop (mkF m 29 #[.val (.ref a0), .val (.int p1), .val (.int p2), .val (.int p3), .val (.long q4), .second, .val (.int p5), .val (.int (p1 - p2)), .unset, .unset] [(.int (1 : Int32))])) _
          simp only [if_neg hc7, if_neg hc13, if_pos hc21] at hr
          exact retN X0 hx (t := .boolean) Bd.returns (by simp) (hb hby d3_29) hr
        · show Steps p.tables e below (s₁.setTop (mkF m 21 #[.val (.ref a0), .val (.int p1), .val (.int p2), .val (.int p3), .val (.long q4), .second, .val (.int p5), .val (.int (p1 - p2)), .unset, .unset] [(.int p5), (.int xx)])) _
          refine XS.icmpYes X0.here hx rfl (pc0 := 21) (pc' := 28) rfl (hb hby d3_21) rfl (feq hc21).2 (by decide) (by decide) ?_
          show Steps p.tables e below (s₁.setTop (mkF m 28 #[.val (.ref a0), .val (.int p1), .val (.int p2), .val (.int p3), .val (.long q4), .second, .val (.int p5), .val (.int (p1 - p2)), .unset, .unset] [])) _
          refine XS.iconst X0.here hx rfl (hb hby d3_28) ?_
          show Steps p.tables e below (s₁.setTop (mkF m 29 #[.val (.ref a0), .val (.int p1), .val (.int p2), .val (.int p3), .val (.long q4), .second, .val (.int p5), .val (.int (p1 - p2)), .unset, .unset] [(.int (0 : Int32))])) _
          simp only [if_neg hc7, if_neg hc13, if_neg hc21] at hr
          exact retN X0 hx (t := .boolean) Bd.returns (by simp) (hb hby d3_29) hr
  · show Qrm3 Z a0 p1 p2 p3 q4 p5 kk vs dv xx h0 n0 _ s₁.heap _
    rw [e0]
    exact ⟨rfl, N0, rfl⟩
def own_size (q0 : Int64) : Int32 := (if ((q0.toUInt64 >>> ((63 : Int32) &&& 0x3f).toInt64.toUInt64).toInt64) = (0 : Int64) then (if ((q0.toUInt64 >>> ((56 : Int32) &&& 0x3f).toInt64.toUInt64).toInt64) = (0 : Int64) then (if ((q0.toUInt64 >>> ((49 : Int32) &&& 0x3f).toInt64.toUInt64).toInt64) = (0 : Int64) then (if ((q0.toUInt64 >>> ((42 : Int32) &&& 0x3f).toInt64.toUInt64).toInt64) = (0 : Int64) then (if ((q0.toUInt64 >>> ((35 : Int32) &&& 0x3f).toInt64.toUInt64).toInt64) = (0 : Int64) then (if ((q0.toUInt64 >>> ((28 : Int32) &&& 0x3f).toInt64.toUInt64).toInt64) = (0 : Int64) then (if ((q0.toUInt64 >>> ((21 : Int32) &&& 0x3f).toInt64.toUInt64).toInt64) = (0 : Int64) then (if ((q0.toUInt64 >>> ((14 : Int32) &&& 0x3f).toInt64.toUInt64).toInt64) = (0 : Int64) then (if ((q0.toUInt64 >>> ((7 : Int32) &&& 0x3f).toInt64.toUInt64).toInt64) = (0 : Int64) then (1 : Int32) else (2 : Int32)) else (3 : Int32)) else (4 : Int32)) else (5 : Int32)) else (6 : Int32)) else (7 : Int32)) else (8 : Int32)) else (9 : Int32)) else (10 : Int32))
def own_fill (s : Int32) : List Value := List.replicate 15 (.int (nar .byte s))
theorem own_at4 (z at_ : Int32) (h : at_ = (z &&& (3 : Int32))) : ∃ a : Nat, a < 4 ∧ at_ = Int32.ofNat a := by
  have a := c_mask z 3 2 (by decide) (by decide)
  have e4 : ((2 ^ 2 : Nat) : Int) = 4 := by decide
  rw [e4, ← h] at a
  refine ⟨at_.toInt.toNat, by omega, ?_⟩
  apply Int32.toInt_inj.mp
  have q : ∀ k : Fin 4, (Int32.ofNat k.1).toInt = (k.1 : Int) := by decide
  have := q ⟨at_.toInt.toNat, by omega⟩
  rw [this]
  show at_.toInt = ((at_.toInt.toNat : Nat) : Int)
  omega
theorem own_sum (a k : Nat) : (Int32.ofNat (a + k + 1)) = ((Int32.ofNat a) + (Int32.ofNat (k + 1))) := by
  rw [← Int32.ofNat_add, Nat.add_assoc]
def own_N (v : Int64) : Int := v.toInt % 18446744073709551616
theorem own_N_rng (v : Int64) : 0 ≤ own_N v ∧ own_N v < 18446744073709551616 := by unfold own_N; omega
theorem own_N_eq (v : Int64) : own_N v = (v.toBitVec.toNat : Int) := by
  have h : v.toInt = v.toBitVec.toInt := rfl
  unfold own_N
  rw [h, BitVec.toInt_eq_toNat_bmod]
  have := v.toBitVec.isLt
  have b := bm64 (v.toBitVec.toNat : Int)
  omega
theorem own_shr (v : Int64) (q : Int32) (k : Nat) (hk : q.toBitVec.toNat % 64 = k) (h0 : 0 < k) : ((v.toUInt64 >>> (q &&& 0x3f).toInt64.toUInt64).toInt64).toInt = own_N v / (2 ^ k : Nat) := c_lushr v q k hk h0
theorem own_N_sh (v : Int64) : own_N (own_sh v) = own_N v / 128 := by
  have a := own_shr v 7 7 (by decide) (by decide)
  have e : ((2 ^ 7 : Nat) : Int) = 128 := by decide
  rw [e] at a
  have b := own_N_rng v
  show (own_sh v).toInt % 18446744073709551616 = _
  have c : (own_sh v).toInt = own_N v / 128 := a
  omega
theorem own_mask0 (v : Int64) : ((0 : Int64) = (v &&& (-128 : Int64))) ↔ own_N v < 128 := by
  rw [← Int64.toBitVec_inj, ← BitVec.toNat_inj, Int64.toBitVec_and, BitVec.toNat_and, own_N_eq]
  have e1 : (0 : Int64).toBitVec.toNat = 0 := by decide
  have e2 : (-128 : Int64).toBitVec.toNat = 18446744073709551488 := by decide
  rw [e1, e2]
  have hb := v.toBitVec.isLt
  generalize v.toBitVec.toNat = X at *
  have h1 : (X &&& 18446744073709551488) % 2 ^ 7 = 0 := by
    rw [Nat.and_mod_two_pow]
    have : 18446744073709551488 % 2 ^ 7 = 0 := by decide
    rw [this, Nat.and_zero]
  have h2 : (X &&& 18446744073709551488) / 2 ^ 7 = X / 2 ^ 7 := by
    rw [Nat.and_div_two_pow]
    have : 18446744073709551488 / 2 ^ 7 = 2 ^ 57 - 1 := by decide
    rw [this, Nat.and_two_pow_sub_one_eq_mod]
    apply Nat.mod_eq_of_lt
    have : (2 : Nat) ^ 7 = 128 := by decide
    have : (2 : Nat) ^ 57 = 144115188075855872 := by decide
    omega
  have e7 : (2 : Nat) ^ 7 = 128 := by decide
  rw [e7] at h1 h2
  omega
theorem own_Tk : ∀ (k : Nat) (v : Int64), (k = 0 ∨ ((128 ^ k : Nat) : Int) ≤ own_N v) → own_N v < ((128 ^ (k + 1) : Nat) : Int) → own_T k v
  | 0, v, _, h => by
    have e : ((128 ^ (0 + 1) : Nat) : Int) = 128 := by decide
    rw [e] at h
    exact (own_mask0 v).mpr h
  | k + 1, v, h1, h2 => by
    have p1 : (128 ^ (k + 1) : Nat) = 128 ^ k * 128 := Nat.pow_succ ..
    have p2 : (128 ^ (k + 1 + 1) : Nat) = 128 ^ (k + 1) * 128 := Nat.pow_succ ..
    have p0 : 0 < (128 ^ k : Nat) := Nat.pow_pos (by decide)
    rw [p2] at h2
    rcases h1 with h1 | h1
    · exact absurd h1 (Nat.succ_ne_zero k)
    · have hN := own_N_sh v
      refine ⟨fun q => ?_, own_Tk k (own_sh v) ?_ ?_⟩
      · have := (own_mask0 v).mp q
        rw [p1] at h1
        omega
      · by_cases hk : k = 0
        · exact Or.inl hk
        · refine Or.inr ?_
          rw [hN]; rw [p1] at h1
          omega
      · rw [hN]
        omega
theorem own_shz (v : Int64) (q : Int32) (k : Nat) (hk : q.toBitVec.toNat % 64 = k) (h0 : 0 < k) : (((v.toUInt64 >>> (q &&& 0x3f).toInt64.toUInt64).toInt64) = (0 : Int64)) ↔ own_N v < ((2 ^ k : Nat) : Int) := by
  have e0 : (0 : Int64).toInt = 0 := by decide
  have a := own_shr v q k hk h0
  have b := own_N_rng v
  have p : 0 < (2 ^ k : Nat) := Nat.pow_pos (by decide)
  rw [← Int64.toInt_inj, e0, a]
  constructor
  · intro h
    have := Int.lt_mul_ediv_self_add (x := own_N v) (k := ((2 ^ k : Nat) : Int)) (by omega)
    rw [h] at this
    omega
  · intro h
    exact Int.ediv_eq_zero_of_lt b.1 h
theorem own_size_T (v : Int64) (nz : Int32) (h : nz = own_size v) : ∃ k : Nat, k ≤ 9 ∧ own_T k v ∧ nz = Int32.ofNat (k + 1) := by
  have b := own_N_rng v
  unfold own_size at h
  simp only [own_shz v 63 63 (by decide) (by decide), own_shz v 56 56 (by decide) (by decide), own_shz v 49 49 (by decide) (by decide), own_shz v 42 42 (by decide) (by decide), own_shz v 35 35 (by decide) (by decide), own_shz v 28 28 (by decide) (by decide), own_shz v 21 21 (by decide) (by decide), own_shz v 14 14 (by decide) (by decide), own_shz v 7 7 (by decide) (by decide)] at h
  by_cases h63 : own_N v < ((2 ^ 63 : Nat) : Int)
  · rw [if_pos h63] at h
    by_cases h56 : own_N v < ((2 ^ 56 : Nat) : Int)
    · rw [if_pos h56] at h
      by_cases h49 : own_N v < ((2 ^ 49 : Nat) : Int)
      · rw [if_pos h49] at h
        by_cases h42 : own_N v < ((2 ^ 42 : Nat) : Int)
        · rw [if_pos h42] at h
          by_cases h35 : own_N v < ((2 ^ 35 : Nat) : Int)
          · rw [if_pos h35] at h
            by_cases h28 : own_N v < ((2 ^ 28 : Nat) : Int)
            · rw [if_pos h28] at h
              by_cases h21 : own_N v < ((2 ^ 21 : Nat) : Int)
              · rw [if_pos h21] at h
                by_cases h14 : own_N v < ((2 ^ 14 : Nat) : Int)
                · rw [if_pos h14] at h
                  by_cases h7 : own_N v < ((2 ^ 7 : Nat) : Int)
                  · rw [if_pos h7] at h
                    exact ⟨0, by decide, own_Tk 0 v (Or.inl rfl) (by omega), h⟩
                  · rw [if_neg h7] at h
                    exact ⟨1, by decide, own_Tk 1 v (Or.inr (by omega)) (by omega), h⟩
                · rw [if_neg h14] at h
                  exact ⟨2, by decide, own_Tk 2 v (Or.inr (by omega)) (by omega), h⟩
              · rw [if_neg h21] at h
                exact ⟨3, by decide, own_Tk 3 v (Or.inr (by omega)) (by omega), h⟩
            · rw [if_neg h28] at h
              exact ⟨4, by decide, own_Tk 4 v (Or.inr (by omega)) (by omega), h⟩
          · rw [if_neg h35] at h
            exact ⟨5, by decide, own_Tk 5 v (Or.inr (by omega)) (by omega), h⟩
        · rw [if_neg h42] at h
          exact ⟨6, by decide, own_Tk 6 v (Or.inr (by omega)) (by omega), h⟩
      · rw [if_neg h49] at h
        exact ⟨7, by decide, own_Tk 7 v (Or.inr (by omega)) (by omega), h⟩
    · rw [if_neg h56] at h
      exact ⟨8, by decide, own_Tk 8 v (Or.inr (by omega)) (by omega), h⟩
  · rw [if_neg h63] at h
    exact ⟨9, by decide, own_Tk 9 v (Or.inr (by omega)) (by omega), h⟩
def own_val (k : Nat) (v : Int64) (a : Nat) (s : Int32) (j : Nat) : Int32 := if j < a then nar .byte s else if j < a + k then own_hi (own_shk (j - a) v) else if j = a + k then own_lo (own_shk k v) else nar .byte s
theorem own_sg (vs : List Value) (k i : Nat) (x dv : Value) : (vs.set k x).getD i dv = if k = i ∧ i < vs.length then x else vs.getD i dv := by
  simp only [List.getD_eq_getElem?_getD, List.getElem?_set]
  by_cases h : k = i
  · subst h
    by_cases h2 : k < vs.length
    · simp [h2]
    · simp [h2]
  · simp [h]
theorem own_vk_get : ∀ (k : Nat) (v : Int64) (e : Nat) (vs : List Value) (j : Nat) (dv : Value), j < vs.length → (own_vk k v e vs).getD j dv = if e ≤ j ∧ j < e + k then .int (own_hi (own_shk (j - e) v)) else vs.getD j dv
  | 0, v, e, vs, j, dv, h => by
    have : ¬ (e ≤ j ∧ j < e + 0) := by omega
    rw [if_neg this]; rfl
  | k + 1, v, e, vs, j, dv, h => by
    rw [own_vk, own_vk_get k (own_sh v) (e + 1) _ j dv (by rw [List.length_set]; exact h), own_sg]
    by_cases h1 : e = j
    · subst h1
      rw [if_neg (by omega), if_pos ⟨rfl, h⟩, if_pos (by omega), Nat.sub_self]; rfl
    · by_cases h2 : e + 1 ≤ j ∧ j < e + 1 + k
      · rw [if_pos h2, if_pos (by omega)]
        have q : j - e = (j - (e + 1)) + 1 := by omega
        rw [q]; rfl
      · rw [if_neg h2, if_neg (by intro q; exact h1 q.1), if_neg (by omega)]
theorem own_getD (k : Nat) (v : Int64) (a : Nat) (s : Int32) (j : Nat) (ha : a < 4) (hk : k ≤ 9) (hj : j < 15) (dv : Value) :
    ((own_vk k v a (List.replicate 15 (.int (nar .byte s)))).set (a + k) (.int (own_lo (own_shk k v)))).getD j dv = .int (own_val k v a s j) := by
  rw [own_sg, own_vk_len, List.length_replicate, own_vk_get k v a _ j dv (by rw [List.length_replicate]; exact hj)]
  have hr : (List.replicate 15 (Value.int (nar .byte s))).getD j dv = .int (nar .byte s) := by
    rw [List.getD_eq_getElem?_getD, List.getElem?_replicate, if_pos hj]; rfl
  rw [hr]
  unfold own_val
  by_cases h1 : j < a
  · rw [if_neg (by omega), if_neg (by omega), if_pos h1]
  · rw [if_neg h1]
    by_cases h2 : j < a + k
    · rw [if_neg (by omega), if_pos (by omega), if_pos h2]
    · rw [if_neg h2]
      by_cases h3 : j = a + k
      · rw [if_pos ⟨h3.symm, hj⟩, if_pos h3]
      · rw [if_neg (by omega), if_neg (by omega), if_neg h3]
theorem own_nat {n : Nat} (h : n < 32) : (Int32.ofNat n).toInt = (n : Int) := (by decide : ∀ k : Fin 32, (Int32.ofNat k.1).toInt = (k.1 : Int)) ⟨n, h⟩
theorem own_nb (z : Int32) : nar .byte (z.toInt8.toInt32) = z.toInt8.toInt32 := by
  show (z.toInt8.toInt32).toInt8.toInt32 = z.toInt8.toInt32
  rw [Int8.toInt8_toInt32]
theorem own_ss (z : Int32) : nar .byte (z.toInt8.toInt32) = z.toInt8.toInt32 := own_nb z
theorem own_shk_N : ∀ (i : Nat) (v : Int64), own_N (own_shk i v) = own_N v / ((128 ^ i : Nat) : Int)
  | 0, v => by
    have e : ((128 ^ 0 : Nat) : Int) = 1 := by decide
    rw [e]
    show own_N v = _
    omega
  | i + 1, v => by
    rw [own_shk, own_shk_N i, own_N_sh, Int.ediv_ediv_of_nonneg (by decide)]
    congr 1
    rw [Nat.pow_succ]
    push_cast
    exact Int.mul_comm _ _
theorem own_toInt {x : Int64} (h : own_N x < 9223372036854775808) : x.toInt = own_N x := by
  have a := rng64 x
  unfold own_N at *
  omega
theorem own_sheq {i : Nat} (hi : i ≤ 9) (v : Int64) : ((v.toUInt64 >>> (((7 : Int32) * (Int32.ofNat i)) &&& 0x3f).toInt64.toUInt64).toInt64) = own_shk i v := by
  cases i with
  | zero =>
    show ((v.toUInt64 >>> (((7 : Int32) * (Int32.ofNat 0)) &&& 0x3f).toInt64.toUInt64).toInt64) = v
    have e : (((7 : Int32) * (Int32.ofNat 0)) &&& 0x3f).toInt64.toUInt64 = 0 := by decide
    rw [e]
    simp
  | succ j =>
    have hq : (((7 : Int32) * (Int32.ofNat (j + 1)))).toBitVec.toNat % 64 = 7 * (j + 1) := (by decide : ∀ k : Fin 10, (((7 : Int32) * (Int32.ofNat k.1))).toBitVec.toNat % 64 = 7 * k.1) ⟨j + 1, by omega⟩
    have a := own_shr v ((7 : Int32) * (Int32.ofNat (j + 1))) (7 * (j + 1)) hq (by omega)
    have b := own_shk_N (j + 1) v
    have c := own_N_rng v
    have p : (2 ^ (7 * (j + 1)) : Nat) = 128 ^ (j + 1) := by rw [Nat.pow_mul]
    rw [p] at a
    have d : own_N (own_shk (j + 1) v) ≤ own_N v / 128 := by
      rw [own_shk, own_shk_N, own_N_sh]; exact Int.ediv_le_self _ (by omega)
    apply Int64.toInt_inj.mp
    rw [a, own_toInt (by omega), b]
theorem own_T_end : ∀ (k : Nat) (v : Int64), own_T k v → own_N (own_shk k v) < 128
  | 0, v, h => (own_mask0 v).mp h
  | k + 1, v, h => own_T_end k (own_sh v) h.2
theorem own_hi_eq (X : Int64) : own_hi X = ((((X &&& (127 : Int64)).toInt32) ||| (128 : Int32)).toInt8.toInt32) := by
  unfold own_hi
  rw [own_nb, Int64.toInt32_or]
  rfl
theorem own_lo_eq {X : Int64} (h : own_N X < 128) : own_lo X = (((X &&& (127 : Int64)).toInt32).toInt8.toInt32) := by
  unfold own_lo
  rw [own_nb]
  have e : X &&& (127 : Int64) = X := by
    apply Int64.toInt_inj.mp
    rw [c_maskL X 127 7 (by decide) (by decide)]
    have e7 : ((2 ^ 7 : Nat) : Int) = 128 := by decide
    have a := own_toInt (x := X) (by omega)
    have b := own_N_rng X
    rw [e7]; omega
  rw [e]
theorem own_ok (k : Nat) (v : Int64) (a : Nat) (s : Int32) (j : Nat) (ha : a < 4) (hk : k ≤ 9) (hj : j < 15) (hT : own_T k v) (hs : nar .byte s = s) : ¬ (own_okf (Int32.ofNat j) (Int32.ofNat a) (Int32.ofNat (k + 1)) v s (own_val k v a s j) = (0 : Int32)) := by
  have ej := own_nat (n := j) (by omega); have ea := own_nat (n := a) (by omega); have ek := own_nat (n := k + 1) (by omega)
  have e0 : (0 : Int32).toInt = 0 := by decide
  have e1 : (1 : Int32).toInt = 1 := by decide
  have d := c_isub (Int32.ofNat j) (Int32.ofNat a); have rd := rng32 ((Int32.ofNat j) - (Int32.ofNat a))
  have dk := c_isub (Int32.ofNat (k + 1)) 1; have rk := rng32 ((Int32.ofNat (k + 1)) - 1)
  have hd : ((Int32.ofNat j) - (Int32.ofNat a)).toInt = (j : Int) - a := by omega
  have hdk : ((Int32.ofNat (k + 1)) - (1 : Int32)).toInt = (k : Int) := by rw [e1] at dk; omega
  have n1 : ¬ ((1 : Int32) = 0) := by decide
  unfold own_okf own_val
  by_cases h1 : j < a
  · rw [if_pos (by rw [Int32.lt_iff_toInt_lt, hd, e0]; omega), if_pos h1, if_pos hs]; exact n1
  · rw [if_neg (by rw [Int32.lt_iff_toInt_lt, hd, e0]; omega), if_neg h1]
    by_cases h2 : j < a + k
    · have hq : (Int32.ofNat j) - (Int32.ofNat a) = Int32.ofNat (j - a) := by
        apply Int32.toInt_inj.mp; rw [hd, own_nat (by omega)]; omega
      rw [if_pos (by rw [Int32.lt_iff_toInt_lt, hd]; omega), if_pos (by rw [Int32.lt_iff_toInt_lt, hd, hdk]; omega), if_pos h2, hq, own_sheq (by omega), if_pos (own_hi_eq _)]; exact n1
    · rw [if_neg h2]
      by_cases h3 : j = a + k
      · have hq : (Int32.ofNat j) - (Int32.ofNat a) = Int32.ofNat k := by
          apply Int32.toInt_inj.mp; rw [hd, own_nat (by omega)]; omega
        rw [if_pos (by rw [Int32.lt_iff_toInt_lt, hd]; omega), if_neg (by rw [Int32.lt_iff_toInt_lt, hd, hdk]; omega), if_pos h3, hq, own_sheq (by omega), if_pos (own_lo_eq (own_T_end k v hT))]; exact n1
      · rw [if_neg (by rw [Int32.lt_iff_toInt_lt, hd]; omega), if_neg h3, if_pos hs]; exact n1

theorem pd_0 : parseMethodDescriptor "(J)I" = some ⟨[.long], some .int⟩ := by decide +kernel
theorem pd_1 : parseMethodDescriptor "([BIJ)I" = some ⟨[(.array .byte), .int, .long], some .int⟩ := by decide +kernel
theorem pd_2 : parseMethodDescriptor "([BIIIJB)Z" = some ⟨[(.array .byte), .int, .int, .int, .long, .byte], some .boolean⟩ := by decide +kernel
theorem pn_0 : plainName "com/example/parley/parley/wire/WireWriterPutUnsignedVarintPinLaw" = true := by first | (simp [plainName, overriddenIn]; done) | decide +kernel
theorem ef_rm0 (m : MethodId) (q0 : Int64) (p1 : Int32) (p2 : Int32) (p3 : Int32) : entryFrame m #[(.long q0), (.int p1), (.int p2), (.int p3)] maxLocals = mkF m 0 #[.val (.long q0), .second, .val (.int p1), .val (.int p2), .val (.int p3), .unset, .unset, .unset, .unset, .unset, .unset, .unset] [] := by first | (simp [entryFrame, mkF, argsToLocals, Value.category, maxLocals]; done) | rfl
def Qrm0 (Z : State) (q0 : Int64) (p1 : Int32) (p2 : Int32) (p3 : Int32) (h0 : Heap) (n0 : Nat) (v : Option Value) (h : Heap) (L : List Loc) : Prop := v = some (.int (1 : Int32)) ∧ Fr n0 L
set_option maxRecDepth 65536 in
set_option maxHeartbeats 40000000 in
theorem rm0 (l : Launch) (Z : State) (A0 : Array Value) (hw : ∀ d ∈ tables_1, d.before A0 Z = true) (ws : List Jvm.Cond) (q0 : Int64) (p1 : Int32) (p2 : Int32) (p3 : Int32) (h0 : Heap) (n0 : Nat) (Z0 : n0 ≤ h0.size) :
    MetFree l x (head1 (Jvm.Cond.code x code maxLocals ret :: ws) room_1) (fun a U => a = #[(.long q0), (.int p1), (.int p2), (.int p3)] ∧ Z.Warmed39 U.vm ∧ U.heap = h0) (fun _ _ _ _ _ => True) (fun _ U o U' => ∃ v L, o = .returned v ∧ Qrm0 Z q0 p1 p2 p3 h0 n0 v U'.heap L ∧ FrameEnd U o U' L room_1.cells room_1.slots) := by
  refine MetFree.of_bodySF (plainFor_of_name pn_0) hisR ?_
  intro p e s m args below meth c s₁ Bd hml0 hP hK
  obtain ⟨rfl, hZ, hh⟩ := hP
  have hx := Bd.exec
  have hby := Bd.bytes
  have hml : c.maxLocals = 12 := hml0
  have hown : s.vm.findClass "com/example/parley/parley/wire/WireWriterPutUnsignedVarintPinLaw" = some m.cls := findClass_of_methodNamed Bd.named
  have hnm := (name_of_methodNamed Bd.named Bd.method).1
  have X0 : Stand p l e room_1 s m #[(.long q0), (.int p1), (.int p2), (.int p3)] below meth c s₁ [] 0 0 := Stand.of_body Bd
  have e0 : s₁.heap = h0 := by rw [← hh, Bd.state]; rfl
  have N0 := Fr.nil n0
  have K0 : Keep h0 h0 [] := Keep.refl _ _
  have pre0 : ∀ t, Steps p.tables e below (s₁.setTop (mkF m 0 #[.val (.long q0), .second, .val (.int p1), .val (.int p2), .val (.int p3), .unset, .unset, .unset, .unset, .unset, .unset, .unset] [])) t → Steps p.tables e below (s₁.setTop (entryFrame m #[(.long q0), (.int p1), (.int p2), (.int p3)] maxLocals)) t := fun t k => castTop (ef_rm0 m q0 p1 p2 p3) k
  obtain ⟨v, h_v⟩ : ∃ z : Int64, z = ((q0.toUInt64 >>> ((p1 &&& (63 : Int32)) &&& 0x3f).toInt64.toUInt64).toInt64) := ⟨_, rfl⟩
  obtain ⟨at_, h_at_⟩ : ∃ z : Int32, z = (p2 &&& (3 : Int32)) := ⟨_, rfl⟩
  rcases (own_at4 p2 at_ h_at_) with ⟨aa, haa, rfl⟩
  obtain ⟨ss, h_ss⟩ : ∃ z : Int32, z = (p3.toInt8.toInt32) := ⟨_, rfl⟩
  obtain ⟨T1, h1, k1, X1, e1, E1, A1, st1⟩ := newP X0 hx hZ (hw _ (List.mem_of_getElem? (i := 0) rfl)) e0 (g := (mkF m 20 #[.val (.long q0), .second, .val (.int p1), .val (.int p2), .val (.int p3), .val (.long v), .second, .val (.int (Int32.ofNat aa)), .val (.int ss), .unset, .unset, .unset] [(.int (15 : Int32))])) rfl (hb hby at_20) rfl (by decide) (cap := 15) (by decide) (by decide) (by decide) (by decide)
  obtain ⟨ar, g1⟩ : ∃ z, z = h0.size := ⟨_, rfl⟩
  rw [← g1] at A1 st1
  have g_ar : n0 ≤ ar := Nat.le_trans Z0 (Nat.le_of_eq g1.symm)
  have sz_ar : h0.size ≤ ar := Nat.le_trans K0.1 (Nat.le_of_eq g1.symm)
  have Zh1 : n0 ≤ h1.size := Nat.le_trans Z0 E1.1
  have Kh1 : Keep h0 h1 [] := K0.ext E1
  have V_ar : Arv Z h1 ar k1 .byte (15 : Int32) [(.int (0 : Int32)), (.int (0 : Int32)), (.int (0 : Int32)), (.int (0 : Int32)), (.int (0 : Int32)), (.int (0 : Int32)), (.int (0 : Int32)), (.int (0 : Int32)), (.int (0 : Int32)), (.int (0 : Int32)), (.int (0 : Int32)), (.int (0 : Int32)), (.int (0 : Int32)), (.int (0 : Int32)), (.int (0 : Int32))] (.int (0 : Int32)) := (Arv.new A1 (by decide)).pad (pad_rep [] (.int (0 : Int32)) 15)
  obtain ⟨cl2, Ar2, qq2, SS2, MM2, HH2, GG2⟩ := id V_ar
  have hin2 := inb_of SS2 (j := (0 : Int32)) ⟨by decide, by decide⟩
  obtain ⟨T2, h2, X2, e2, W2, st2⟩ := stB X1 hx hZ e1 Ar2 (j := (0 : Int32)) hin2 (g := (mkF m 26 #[.val (.long q0), .second, .val (.int p1), .val (.int p2), .val (.int p3), .val (.long v), .second, .val (.int (Int32.ofNat aa)), .val (.int ss), .unset, .unset, .unset] [(.int ss), (.int (0 : Int32)), (.ref ar), (.ref ar)])) rfl rfl (hb hby at_26)
  have V_ar : Arv Z h2 ar k1 .byte (15 : Int32) [(.int (nar .byte ss)), (.int (0 : Int32)), (.int (0 : Int32)), (.int (0 : Int32)), (.int (0 : Int32)), (.int (0 : Int32)), (.int (0 : Int32)), (.int (0 : Int32)), (.int (0 : Int32)), (.int (0 : Int32)), (.int (0 : Int32)), (.int (0 : Int32)), (.int (0 : Int32)), (.int (0 : Int32)), (.int (0 : Int32))] (.int (0 : Int32)) := Arv.set Ar2 qq2 SS2 MM2 HH2 GG2 (fits_nar_byte _) W2 0 rfl (Nat.le_of_ble_eq_true rfl)
  have Zh2 : n0 ≤ h2.size := Nat.le_trans Zh1 (Keep.of_wr W2).1
  have Kh2 : Keep h0 h2 [] := Kh1.wr W2 (Or.inr sz_ar)
  have N2 := Fr.snoc X2 N0 g_ar
  obtain ⟨cl3, Ar3, qq3, SS3, MM3, HH3, GG3⟩ := id V_ar
  have hin3 := inb_of SS3 (j := (1 : Int32)) ⟨by decide, by decide⟩
  obtain ⟨T3, h3, X3, e3, W3, st3⟩ := stB X2 hx hZ e2 Ar3 (j := (1 : Int32)) hin3 (g := (mkF m 31 #[.val (.long q0), .second, .val (.int p1), .val (.int p2), .val (.int p3), .val (.long v), .second, .val (.int (Int32.ofNat aa)), .val (.int ss), .unset, .unset, .unset] [(.int ss), (.int (1 : Int32)), (.ref ar), (.ref ar)])) rfl rfl (hb hby at_31)
  have V_ar : Arv Z h3 ar k1 .byte (15 : Int32) [(.int (nar .byte ss)), (.int (nar .byte ss)), (.int (0 : Int32)), (.int (0 : Int32)), (.int (0 : Int32)), (.int (0 : Int32)), (.int (0 : Int32)), (.int (0 : Int32)), (.int (0 : Int32)), (.int (0 : Int32)), (.int (0 : Int32)), (.int (0 : Int32)), (.int (0 : Int32)), (.int (0 : Int32)), (.int (0 : Int32))] (.int (0 : Int32)) := Arv.set Ar3 qq3 SS3 MM3 HH3 GG3 (fits_nar_byte _) W3 1 rfl (Nat.le_of_ble_eq_true rfl)
  have Zh3 : n0 ≤ h3.size := Nat.le_trans Zh2 (Keep.of_wr W3).1
  have Kh3 : Keep h0 h3 [] := Kh2.wr W3 (Or.inr sz_ar)
  have N3 := Fr.snoc X3 N2 g_ar
  obtain ⟨cl4, Ar4, qq4, SS4, MM4, HH4, GG4⟩ := id V_ar
  have hin4 := inb_of SS4 (j := (2 : Int32)) ⟨by decide, by decide⟩
  obtain ⟨T4, h4, X4, e4, W4, st4⟩ := stB X3 hx hZ e3 Ar4 (j := (2 : Int32)) hin4 (g := (mkF m 36 #[.val (.long q0), .second, .val (.int p1), .val (.int p2), .val (.int p3), .val (.long v), .second, .val (.int (Int32.ofNat aa)), .val (.int ss), .unset, .unset, .unset] [(.int ss), (.int (2 : Int32)), (.ref ar), (.ref ar)])) rfl rfl (hb hby at_36)
  have V_ar : Arv Z h4 ar k1 .byte (15 : Int32) [(.int (nar .byte ss)), (.int (nar .byte ss)), (.int (nar .byte ss)), (.int (0 : Int32)), (.int (0 : Int32)), (.int (0 : Int32)), (.int (0 : Int32)), (.int (0 : Int32)), (.int (0 : Int32)), (.int (0 : Int32)), (.int (0 : Int32)), (.int (0 : Int32)), (.int (0 : Int32)), (.int (0 : Int32)), (.int (0 : Int32))] (.int (0 : Int32)) := Arv.set Ar4 qq4 SS4 MM4 HH4 GG4 (fits_nar_byte _) W4 2 rfl (Nat.le_of_ble_eq_true rfl)
  have Zh4 : n0 ≤ h4.size := Nat.le_trans Zh3 (Keep.of_wr W4).1
  have Kh4 : Keep h0 h4 [] := Kh3.wr W4 (Or.inr sz_ar)
  have N4 := Fr.snoc X4 N3 g_ar
  obtain ⟨cl5, Ar5, qq5, SS5, MM5, HH5, GG5⟩ := id V_ar
  have hin5 := inb_of SS5 (j := (3 : Int32)) ⟨by decide, by decide⟩
  obtain ⟨T5, h5, X5, e5, W5, st5⟩ := stB X4 hx hZ e4 Ar5 (j := (3 : Int32)) hin5 (g := (mkF m 41 #[.val (.long q0), .second, .val (.int p1), .val (.int p2), .val (.int p3), .val (.long v), .second, .val (.int (Int32.ofNat aa)), .val (.int ss), .unset, .unset, .unset] [(.int ss), (.int (3 : Int32)), (.ref ar), (.ref ar)])) rfl rfl (hb hby at_41)
  have V_ar : Arv Z h5 ar k1 .byte (15 : Int32) [(.int (nar .byte ss)), (.int (nar .byte ss)), (.int (nar .byte ss)), (.int (nar .byte ss)), (.int (0 : Int32)), (.int (0 : Int32)), (.int (0 : Int32)), (.int (0 : Int32)), (.int (0 : Int32)), (.int (0 : Int32)), (.int (0 : Int32)), (.int (0 : Int32)), (.int (0 : Int32)), (.int (0 : Int32)), (.int (0 : Int32))] (.int (0 : Int32)) := Arv.set Ar5 qq5 SS5 MM5 HH5 GG5 (fits_nar_byte _) W5 3 rfl (Nat.le_of_ble_eq_true rfl)
  have Zh5 : n0 ≤ h5.size := Nat.le_trans Zh4 (Keep.of_wr W5).1
  have Kh5 : Keep h0 h5 [] := Kh4.wr W5 (Or.inr sz_ar)
  have N5 := Fr.snoc X5 N4 g_ar
  obtain ⟨cl6, Ar6, qq6, SS6, MM6, HH6, GG6⟩ := id V_ar
  have hin6 := inb_of SS6 (j := (4 : Int32)) ⟨by decide, by decide⟩
  obtain ⟨T6, h6, X6, e6, W6, st6⟩ := stB X5 hx hZ e5 Ar6 (j := (4 : Int32)) hin6 (g := (mkF m 46 #[.val (.long q0), .second, .val (.int p1), .val (.int p2), .val (.int p3), .val (.long v), .second, .val (.int (Int32.ofNat aa)), .val (.int ss), .unset, .unset, .unset] [(.int ss), (.int (4 : Int32)), (.ref ar), (.ref ar)])) rfl rfl (hb hby at_46)
  have V_ar : Arv Z h6 ar k1 .byte (15 : Int32) [(.int (nar .byte ss)), (.int (nar .byte ss)), (.int (nar .byte ss)), (.int (nar .byte ss)), (.int (nar .byte ss)), (.int (0 : Int32)), (.int (0 : Int32)), (.int (0 : Int32)), (.int (0 : Int32)), (.int (0 : Int32)), (.int (0 : Int32)), (.int (0 : Int32)), (.int (0 : Int32)), (.int (0 : Int32)), (.int (0 : Int32))] (.int (0 : Int32)) := Arv.set Ar6 qq6 SS6 MM6 HH6 GG6 (fits_nar_byte _) W6 4 rfl (Nat.le_of_ble_eq_true rfl)
  have Zh6 : n0 ≤ h6.size := Nat.le_trans Zh5 (Keep.of_wr W6).1
  have Kh6 : Keep h0 h6 [] := Kh5.wr W6 (Or.inr sz_ar)
  have N6 := Fr.snoc X6 N5 g_ar
  obtain ⟨cl7, Ar7, qq7, SS7, MM7, HH7, GG7⟩ := id V_ar
  have hin7 := inb_of SS7 (j := (5 : Int32)) ⟨by decide, by decide⟩
  obtain ⟨T7, h7, X7, e7, W7, st7⟩ := stB X6 hx hZ e6 Ar7 (j := (5 : Int32)) hin7 (g := (mkF m 51 #[.val (.long q0), .second, .val (.int p1), .val (.int p2), .val (.int p3), .val (.long v), .second, .val (.int (Int32.ofNat aa)), .val (.int ss), .unset, .unset, .unset] [(.int ss), (.int (5 : Int32)), (.ref ar), (.ref ar)])) rfl rfl (hb hby at_51)
  have V_ar : Arv Z h7 ar k1 .byte (15 : Int32) [(.int (nar .byte ss)), (.int (nar .byte ss)), (.int (nar .byte ss)), (.int (nar .byte ss)), (.int (nar .byte ss)), (.int (nar .byte ss)), (.int (0 : Int32)), (.int (0 : Int32)), (.int (0 : Int32)), (.int (0 : Int32)), (.int (0 : Int32)), (.int (0 : Int32)), (.int (0 : Int32)), (.int (0 : Int32)), (.int (0 : Int32))] (.int (0 : Int32)) := Arv.set Ar7 qq7 SS7 MM7 HH7 GG7 (fits_nar_byte _) W7 5 rfl (Nat.le_of_ble_eq_true rfl)
  have Zh7 : n0 ≤ h7.size := Nat.le_trans Zh6 (Keep.of_wr W7).1
  have Kh7 : Keep h0 h7 [] := Kh6.wr W7 (Or.inr sz_ar)
  have N7 := Fr.snoc X7 N6 g_ar
  obtain ⟨cl8, Ar8, qq8, SS8, MM8, HH8, GG8⟩ := id V_ar
  have hin8 := inb_of SS8 (j := (6 : Int32)) ⟨by decide, by decide⟩
  obtain ⟨T8, h8, X8, e8, W8, st8⟩ := stB X7 hx hZ e7 Ar8 (j := (6 : Int32)) hin8 (g := (mkF m 57 #[.val (.long q0), .second, .val (.int p1), .val (.int p2), .val (.int p3), .val (.long v), .second, .val (.int (Int32.ofNat aa)), .val (.int ss), .unset, .unset, .unset] [(.int ss), (.int (6 : Int32)), (.ref ar), (.ref ar)])) rfl rfl (hb hby at_57)
  have V_ar : Arv Z h8 ar k1 .byte (15 : Int32) [(.int (nar .byte ss)), (.int (nar .byte ss)), (.int (nar .byte ss)), (.int (nar .byte ss)), (.int (nar .byte ss)), (.int (nar .byte ss)), (.int (nar .byte ss)), (.int (0 : Int32)), (.int (0 : Int32)), (.int (0 : Int32)), (.int (0 : Int32)), (.int (0 : Int32)), (.int (0 : Int32)), (.int (0 : Int32)), (.int (0 : Int32))] (.int (0 : Int32)) := Arv.set Ar8 qq8 SS8 MM8 HH8 GG8 (fits_nar_byte _) W8 6 rfl (Nat.le_of_ble_eq_true rfl)
  have Zh8 : n0 ≤ h8.size := Nat.le_trans Zh7 (Keep.of_wr W8).1
  have Kh8 : Keep h0 h8 [] := Kh7.wr W8 (Or.inr sz_ar)
  have N8 := Fr.snoc X8 N7 g_ar
  obtain ⟨cl9, Ar9, qq9, SS9, MM9, HH9, GG9⟩ := id V_ar
  have hin9 := inb_of SS9 (j := (7 : Int32)) ⟨by decide, by decide⟩
  obtain ⟨T9, h9, X9, e9, W9, st9⟩ := stB X8 hx hZ e8 Ar9 (j := (7 : Int32)) hin9 (g := (mkF m 63 #[.val (.long q0), .second, .val (.int p1), .val (.int p2), .val (.int p3), .val (.long v), .second, .val (.int (Int32.ofNat aa)), .val (.int ss), .unset, .unset, .unset] [(.int ss), (.int (7 : Int32)), (.ref ar), (.ref ar)])) rfl rfl (hb hby at_63)
  have V_ar : Arv Z h9 ar k1 .byte (15 : Int32) [(.int (nar .byte ss)), (.int (nar .byte ss)), (.int (nar .byte ss)), (.int (nar .byte ss)), (.int (nar .byte ss)), (.int (nar .byte ss)), (.int (nar .byte ss)), (.int (nar .byte ss)), (.int (0 : Int32)), (.int (0 : Int32)), (.int (0 : Int32)), (.int (0 : Int32)), (.int (0 : Int32)), (.int (0 : Int32)), (.int (0 : Int32))] (.int (0 : Int32)) := Arv.set Ar9 qq9 SS9 MM9 HH9 GG9 (fits_nar_byte _) W9 7 rfl (Nat.le_of_ble_eq_true rfl)
  have Zh9 : n0 ≤ h9.size := Nat.le_trans Zh8 (Keep.of_wr W9).1
  have Kh9 : Keep h0 h9 [] := Kh8.wr W9 (Or.inr sz_ar)
  have N9 := Fr.snoc X9 N8 g_ar
  obtain ⟨cl10, Ar10, qq10, SS10, MM10, HH10, GG10⟩ := id V_ar
  have hin10 := inb_of SS10 (j := (8 : Int32)) ⟨by decide, by decide⟩
  obtain ⟨T10, h10, X10, e10, W10, st10⟩ := stB X9 hx hZ e9 Ar10 (j := (8 : Int32)) hin10 (g := (mkF m 69 #[.val (.long q0), .second, .val (.int p1), .val (.int p2), .val (.int p3), .val (.long v), .second, .val (.int (Int32.ofNat aa)), .val (.int ss), .unset, .unset, .unset] [(.int ss), (.int (8 : Int32)), (.ref ar), (.ref ar)])) rfl rfl (hb hby at_69)
  have V_ar : Arv Z h10 ar k1 .byte (15 : Int32) [(.int (nar .byte ss)), (.int (nar .byte ss)), (.int (nar .byte ss)), (.int (nar .byte ss)), (.int (nar .byte ss)), (.int (nar .byte ss)), (.int (nar .byte ss)), (.int (nar .byte ss)), (.int (nar .byte ss)), (.int (0 : Int32)), (.int (0 : Int32)), (.int (0 : Int32)), (.int (0 : Int32)), (.int (0 : Int32)), (.int (0 : Int32))] (.int (0 : Int32)) := Arv.set Ar10 qq10 SS10 MM10 HH10 GG10 (fits_nar_byte _) W10 8 rfl (Nat.le_of_ble_eq_true rfl)
  have Zh10 : n0 ≤ h10.size := Nat.le_trans Zh9 (Keep.of_wr W10).1
  have Kh10 : Keep h0 h10 [] := Kh9.wr W10 (Or.inr sz_ar)
  have N10 := Fr.snoc X10 N9 g_ar
  obtain ⟨cl11, Ar11, qq11, SS11, MM11, HH11, GG11⟩ := id V_ar
  have hin11 := inb_of SS11 (j := (9 : Int32)) ⟨by decide, by decide⟩
  obtain ⟨T11, h11, X11, e11, W11, st11⟩ := stB X10 hx hZ e10 Ar11 (j := (9 : Int32)) hin11 (g := (mkF m 75 #[.val (.long q0), .second, .val (.int p1), .val (.int p2), .val (.int p3), .val (.long v), .second, .val (.int (Int32.ofNat aa)), .val (.int ss), .unset, .unset, .unset] [(.int ss), (.int (9 : Int32)), (.ref ar), (.ref ar)])) rfl rfl (hb hby at_75)
  have V_ar : Arv Z h11 ar k1 .byte (15 : Int32) [(.int (nar .byte ss)), (.int (nar .byte ss)), (.int (nar .byte ss)), (.int (nar .byte ss)), (.int (nar .byte ss)), (.int (nar .byte ss)), (.int (nar .byte ss)), (.int (nar .byte ss)), (.int (nar .byte ss)), (.int (nar .byte ss)), (.int (0 : Int32)), (.int (0 : Int32)), (.int (0 : Int32)), (.int (0 : Int32)), (.int (0 : Int32))] (.int (0 : Int32)) := Arv.set Ar11 qq11 SS11 MM11 HH11 GG11 (fits_nar_byte _) W11 9 rfl (Nat.le_of_ble_eq_true rfl)
  have Zh11 : n0 ≤ h11.size := Nat.le_trans Zh10 (Keep.of_wr W11).1
  have Kh11 : Keep h0 h11 [] := Kh10.wr W11 (Or.inr sz_ar)
  have N11 := Fr.snoc X11 N10 g_ar
  obtain ⟨cl12, Ar12, qq12, SS12, MM12, HH12, GG12⟩ := id V_ar
  have hin12 := inb_of SS12 (j := (10 : Int32)) ⟨by decide, by decide⟩
  obtain ⟨T12, h12, X12, e12, W12, st12⟩ := stB X11 hx hZ e11 Ar12 (j := (10 : Int32)) hin12 (g := (mkF m 81 #[.val (.long q0), .second, .val (.int p1), .val (.int p2), .val (.int p3), .val (.long v), .second, .val (.int (Int32.ofNat aa)), .val (.int ss), .unset, .unset, .unset] [(.int ss), (.int (10 : Int32)), (.ref ar), (.ref ar)])) rfl rfl (hb hby at_81)
  have V_ar : Arv Z h12 ar k1 .byte (15 : Int32) [(.int (nar .byte ss)), (.int (nar .byte ss)), (.int (nar .byte ss)), (.int (nar .byte ss)), (.int (nar .byte ss)), (.int (nar .byte ss)), (.int (nar .byte ss)), (.int (nar .byte ss)), (.int (nar .byte ss)), (.int (nar .byte ss)), (.int (nar .byte ss)), (.int (0 : Int32)), (.int (0 : Int32)), (.int (0 : Int32)), (.int (0 : Int32))] (.int (0 : Int32)) := Arv.set Ar12 qq12 SS12 MM12 HH12 GG12 (fits_nar_byte _) W12 10 rfl (Nat.le_of_ble_eq_true rfl)
  have Zh12 : n0 ≤ h12.size := Nat.le_trans Zh11 (Keep.of_wr W12).1
  have Kh12 : Keep h0 h12 [] := Kh11.wr W12 (Or.inr sz_ar)
  have N12 := Fr.snoc X12 N11 g_ar
  obtain ⟨cl13, Ar13, qq13, SS13, MM13, HH13, GG13⟩ := id V_ar
  have hin13 := inb_of SS13 (j := (11 : Int32)) ⟨by decide, by decide⟩
  obtain ⟨T13, h13, X13, e13, W13, st13⟩ := stB X12 hx hZ e12 Ar13 (j := (11 : Int32)) hin13 (g := (mkF m 87 #[.val (.long q0), .second, .val (.int p1), .val (.int p2), .val (.int p3), .val (.long v), .second, .val (.int (Int32.ofNat aa)), .val (.int ss), .unset, .unset, .unset] [(.int ss), (.int (11 : Int32)), (.ref ar), (.ref ar)])) rfl rfl (hb hby at_87)
  have V_ar : Arv Z h13 ar k1 .byte (15 : Int32) [(.int (nar .byte ss)), (.int (nar .byte ss)), (.int (nar .byte ss)), (.int (nar .byte ss)), (.int (nar .byte ss)), (.int (nar .byte ss)), (.int (nar .byte ss)), (.int (nar .byte ss)), (.int (nar .byte ss)), (.int (nar .byte ss)), (.int (nar .byte ss)), (.int (nar .byte ss)), (.int (0 : Int32)), (.int (0 : Int32)), (.int (0 : Int32))] (.int (0 : Int32)) := Arv.set Ar13 qq13 SS13 MM13 HH13 GG13 (fits_nar_byte _) W13 11 rfl (Nat.le_of_ble_eq_true rfl)
  have Zh13 : n0 ≤ h13.size := Nat.le_trans Zh12 (Keep.of_wr W13).1
  have Kh13 : Keep h0 h13 [] := Kh12.wr W13 (Or.inr sz_ar)
  have N13 := Fr.snoc X13 N12 g_ar
  obtain ⟨cl14, Ar14, qq14, SS14, MM14, HH14, GG14⟩ := id V_ar
  have hin14 := inb_of SS14 (j := (12 : Int32)) ⟨by decide, by decide⟩
  obtain ⟨T14, h14, X14, e14, W14, st14⟩ := stB X13 hx hZ e13 Ar14 (j := (12 : Int32)) hin14 (g := (mkF m 93 #[.val (.long q0), .second, .val (.int p1), .val (.int p2), .val (.int p3), .val (.long v), .second, .val (.int (Int32.ofNat aa)), .val (.int ss), .unset, .unset, .unset] [(.int ss), (.int (12 : Int32)), (.ref ar), (.ref ar)])) rfl rfl (hb hby at_93)
  have V_ar : Arv Z h14 ar k1 .byte (15 : Int32) [(.int (nar .byte ss)), (.int (nar .byte ss)), (.int (nar .byte ss)), (.int (nar .byte ss)), (.int (nar .byte ss)), (.int (nar .byte ss)), (.int (nar .byte ss)), (.int (nar .byte ss)), (.int (nar .byte ss)), (.int (nar .byte ss)), (.int (nar .byte ss)), (.int (nar .byte ss)), (.int (nar .byte ss)), (.int (0 : Int32)), (.int (0 : Int32))] (.int (0 : Int32)) := Arv.set Ar14 qq14 SS14 MM14 HH14 GG14 (fits_nar_byte _) W14 12 rfl (Nat.le_of_ble_eq_true rfl)
  have Zh14 : n0 ≤ h14.size := Nat.le_trans Zh13 (Keep.of_wr W14).1
  have Kh14 : Keep h0 h14 [] := Kh13.wr W14 (Or.inr sz_ar)
  have N14 := Fr.snoc X14 N13 g_ar
  obtain ⟨cl15, Ar15, qq15, SS15, MM15, HH15, GG15⟩ := id V_ar
  have hin15 := inb_of SS15 (j := (13 : Int32)) ⟨by decide, by decide⟩
  obtain ⟨T15, h15, X15, e15, W15, st15⟩ := stB X14 hx hZ e14 Ar15 (j := (13 : Int32)) hin15 (g := (mkF m 99 #[.val (.long q0), .second, .val (.int p1), .val (.int p2), .val (.int p3), .val (.long v), .second, .val (.int (Int32.ofNat aa)), .val (.int ss), .unset, .unset, .unset] [(.int ss), (.int (13 : Int32)), (.ref ar), (.ref ar)])) rfl rfl (hb hby at_99)
  have V_ar : Arv Z h15 ar k1 .byte (15 : Int32) [(.int (nar .byte ss)), (.int (nar .byte ss)), (.int (nar .byte ss)), (.int (nar .byte ss)), (.int (nar .byte ss)), (.int (nar .byte ss)), (.int (nar .byte ss)), (.int (nar .byte ss)), (.int (nar .byte ss)), (.int (nar .byte ss)), (.int (nar .byte ss)), (.int (nar .byte ss)), (.int (nar .byte ss)), (.int (nar .byte ss)), (.int (0 : Int32))] (.int (0 : Int32)) := Arv.set Ar15 qq15 SS15 MM15 HH15 GG15 (fits_nar_byte _) W15 13 rfl (Nat.le_of_ble_eq_true rfl)
  have Zh15 : n0 ≤ h15.size := Nat.le_trans Zh14 (Keep.of_wr W15).1
  have Kh15 : Keep h0 h15 [] := Kh14.wr W15 (Or.inr sz_ar)
  have N15 := Fr.snoc X15 N14 g_ar
  obtain ⟨cl16, Ar16, qq16, SS16, MM16, HH16, GG16⟩ := id V_ar
  have hin16 := inb_of SS16 (j := (14 : Int32)) ⟨by decide, by decide⟩
  obtain ⟨T16, h16, X16, e16, W16, st16⟩ := stB X15 hx hZ e15 Ar16 (j := (14 : Int32)) hin16 (g := (mkF m 105 #[.val (.long q0), .second, .val (.int p1), .val (.int p2), .val (.int p3), .val (.long v), .second, .val (.int (Int32.ofNat aa)), .val (.int ss), .unset, .unset, .unset] [(.int ss), (.int (14 : Int32)), (.ref ar), (.ref ar)])) rfl rfl (hb hby at_105)
  have V_ar : Arv Z h16 ar k1 .byte (15 : Int32) [(.int (nar .byte ss)), (.int (nar .byte ss)), (.int (nar .byte ss)), (.int (nar .byte ss)), (.int (nar .byte ss)), (.int (nar .byte ss)), (.int (nar .byte ss)), (.int (nar .byte ss)), (.int (nar .byte ss)), (.int (nar .byte ss)), (.int (nar .byte ss)), (.int (nar .byte ss)), (.int (nar .byte ss)), (.int (nar .byte ss)), (.int (nar .byte ss))] (.int (0 : Int32)) := Arv.set Ar16 qq16 SS16 MM16 HH16 GG16 (fits_nar_byte _) W16 14 rfl (Nat.le_of_ble_eq_true rfl)
  have Zh16 : n0 ≤ h16.size := Nat.le_trans Zh15 (Keep.of_wr W16).1
  have Kh16 : Keep h0 h16 [] := Kh15.wr W16 (Or.inr sz_ar)
  have N16 := Fr.snoc X16 N15 g_ar
  have V_ar : Arv Z h16 ar k1 .byte (15 : Int32) (own_fill ss) (.int (0 : Int32)) := V_ar
  obtain ⟨_, _, ⟨T17, L17, k17, n17⟩, -, X17, ⟨Lc17, hQ17, l17, y17, z17⟩, st17⟩ := Jvm.LawKit.callS X16 hx (y := (⟨"com/example/parley/parley/wire/WireWriterPutUnsignedVarintPinLaw", "size", "(J)I"⟩ : MethodName)) hown (mvT hZ (hw _ (List.mem_of_getElem? (i := 1) rfl))) (mvT hZ (hw _ (List.mem_of_getElem? (i := 2) rfl))) (mvT hZ (hw _ (List.mem_of_getElem? (i := 3) rfl))) (mvT hZ (hw _ (List.mem_of_getElem? (i := 4) rfl))) (by decide) (backOf (W := 0) (rm1 l Z A0 hw [] v  h16 n0 Zh16 ) hZ (hw _ (List.mem_of_getElem? (i := 4) rfl)) (hw _ (List.mem_of_getElem? (i := 3) rfl)) (by decide) (by decide)) (g := (mkF m 110 #[.val (.long q0), .second, .val (.int p1), .val (.int p2), .val (.int p3), .val (.long v), .second, .val (.int (Int32.ofNat aa)), .val (.int ss), .val (.ref ar), .unset, .unset] [(.long v)])) rfl (by rw [hml]; rfl) (argsL := [(.long v)]) (rest := []) (lenOf pd_0 rfl) rfl (by show 2 * 0 + _ ≤ _; exact Nat.le_of_eq rfl) (hb hby at_110) (fun _ _ => ⟨rfl, e16, (by decide : 1 + 0 ≤ _), (by decide : 15 + 0 ≤ _)⟩)
  dsimp only [Pt.U, Pt.locs, Pt.cells, Pt.slots] at X17 l17 y17 z17 st17 hQ17
  subst y17 z17
  obtain ⟨rfl, N17q, eh17⟩ := hQ17
  have N17 : Fr n0 L17 := by rw [l17]; exact Fr.app N16 N17q
  clear l17
  obtain ⟨nz, h_nz⟩ : ∃ z : Int32, z = (if ((v.toUInt64 >>> ((63 : Int32) &&& 0x3f).toInt64.toUInt64).toInt64) = (0 : Int64) then (if ((v.toUInt64 >>> ((56 : Int32) &&& 0x3f).toInt64.toUInt64).toInt64) = (0 : Int64) then (if ((v.toUInt64 >>> ((49 : Int32) &&& 0x3f).toInt64.toUInt64).toInt64) = (0 : Int64) then (if ((v.toUInt64 >>> ((42 : Int32) &&& 0x3f).toInt64.toUInt64).toInt64) = (0 : Int64) then (if ((v.toUInt64 >>> ((35 : Int32) &&& 0x3f).toInt64.toUInt64).toInt64) = (0 : Int64) then (if ((v.toUInt64 >>> ((28 : Int32) &&& 0x3f).toInt64.toUInt64).toInt64) = (0 : Int64) then (if ((v.toUInt64 >>> ((21 : Int32) &&& 0x3f).toInt64.toUInt64).toInt64) = (0 : Int64) then (if ((v.toUInt64 >>> ((14 : Int32) &&& 0x3f).toInt64.toUInt64).toInt64) = (0 : Int64) then (if ((v.toUInt64 >>> ((7 : Int32) &&& 0x3f).toInt64.toUInt64).toInt64) = (0 : Int64) then (1 : Int32) else (2 : Int32)) else (3 : Int32)) else (4 : Int32)) else (5 : Int32)) else (6 : Int32)) else (7 : Int32)) else (8 : Int32)) else (9 : Int32)) else (10 : Int32)) := ⟨_, rfl⟩
  rcases (own_size_T v nz h_nz) with ⟨k, hk9, hT, rfl⟩
  obtain ⟨_, _, ⟨T18, L18, k18, n18⟩, -, X18, ⟨Lc18, hQ18, l18, y18, z18⟩, st18⟩ := Jvm.LawKit.callS X17 hx (y := (⟨"com/example/parley/parley/wire/WireWriter", "putUnsignedVarint", "([BIJ)I"⟩ : MethodName)) hown (mvT hZ (hw _ (List.mem_of_getElem? (i := 5) rfl))) (mvT hZ (hw _ (List.mem_of_getElem? (i := 6) rfl))) (mvT hZ (hw _ (List.mem_of_getElem? (i := 7) rfl))) (mvT hZ (hw _ (List.mem_of_getElem? (i := 8) rfl))) (by decide) (backOf (W := 0) (rm2 l Z A0 hw [] ar v k1 (own_fill ss) (.int (0 : Int32)) aa k h16 n0 Zh16 V_ar g_ar (hT) (rfl) (by omega)) hZ (hw _ (List.mem_of_getElem? (i := 8) rfl)) (hw _ (List.mem_of_getElem? (i := 7) rfl)) (by decide) (by decide)) (g := (mkF m 121 #[.val (.long q0), .second, .val (.int p1), .val (.int p2), .val (.int p3), .val (.long v), .second, .val (.int (Int32.ofNat aa)), .val (.int ss), .val (.ref ar), .val (.int (Int32.ofNat (k + 1))), .unset] [(.long v), (.int (Int32.ofNat aa)), (.ref ar)])) rfl (by rw [hml]; rfl) (argsL := [(.ref ar), (.int (Int32.ofNat aa)), (.long v)]) (rest := []) (lenOf pd_1 rfl) rfl (by show 2 * 0 + _ ≤ _; exact Nat.le_of_eq rfl) (hb hby at_121) (fun _ _ => ⟨rfl, eh17, (by decide : 1 + 0 ≤ _), (by decide : 15 + 0 ≤ _)⟩)
  dsimp only [Pt.U, Pt.locs, Pt.cells, Pt.slots] at X18 l18 y18 z18 st18 hQ18
  subst y18 z18
  obtain ⟨rfl, N18q, Kc18, P18_0⟩ := hQ18
  have N18 : Fr n0 L18 := by rw [l18]; exact Fr.app N17 N18q
  clear l18
  have ZT18_heap : n0 ≤ T18.heap.size := Nat.le_trans Zh16 Kc18.1
  have KT18_heap : Keep h0 T18.heap [] := Kh16.trans Kc18 (allS (Or.inr sz_ar) all0)
  have V_ar : Arv Z T18.heap ar k1 .byte (15 : Int32) ((own_vk k v aa (own_fill ss)).set (aa + k) (.int (own_lo (own_shk k v)))) (.int (0 : Int32)) := P18_0
  obtain ⟨_, _, ⟨T19, L19, k19, n19⟩, -, X19, ⟨Lc19, hQ19, l19, y19, z19⟩, st19⟩ := Jvm.LawKit.callS X18 hx (y := (⟨"com/example/parley/parley/wire/WireWriterPutUnsignedVarintPinLaw", "ok", "([BIIIJB)Z"⟩ : MethodName)) hown (mvT hZ (hw _ (List.mem_of_getElem? (i := 10) rfl))) (mvT hZ (hw _ (List.mem_of_getElem? (i := 11) rfl))) (mvT hZ (hw _ (List.mem_of_getElem? (i := 3) rfl))) (mvT hZ (hw _ (List.mem_of_getElem? (i := 12) rfl))) (by decide) (backOf (W := 0) (rm3 l Z A0 hw [] ar (0 : Int32) (Int32.ofNat aa) (Int32.ofNat (k + 1)) v ss k1 ((own_vk k v aa (own_fill ss)).set (aa + k) (.int (own_lo (own_shk k v)))) (.int (0 : Int32)) (own_val k v aa ss 0) T18.heap n0 ZT18_heap V_ar (⟨by decide, by decide⟩) (own_getD k v aa ss 0 haa hk9 (by decide) _)) hZ (hw _ (List.mem_of_getElem? (i := 12) rfl)) (hw _ (List.mem_of_getElem? (i := 3) rfl)) (by decide) (by decide)) (g := (mkF m 149 #[.val (.long q0), .second, .val (.int p1), .val (.int p2), .val (.int p3), .val (.long v), .second, .val (.int (Int32.ofNat aa)), .val (.int ss), .val (.ref ar), .val (.int (Int32.ofNat (k + 1))), .val (.int (Int32.ofNat (aa + k + 1)))] [(.int ss), (.long v), (.int (Int32.ofNat (k + 1))), (.int (Int32.ofNat aa)), (.int (0 : Int32)), (.ref ar)])) rfl (by rw [hml]; rfl) (argsL := [(.ref ar), (.int (0 : Int32)), (.int (Int32.ofNat aa)), (.int (Int32.ofNat (k + 1))), (.long v), (.int ss)]) (rest := []) (lenOf pd_2 rfl) rfl (by show 2 * 0 + _ ≤ _; exact Nat.le_of_eq rfl) (hb hby at_149) (fun _ _ => ⟨rfl, rfl, (by decide : 1 + 0 ≤ _), (by decide : 15 + 0 ≤ _)⟩)
  dsimp only [Pt.U, Pt.locs, Pt.cells, Pt.slots] at X19 l19 y19 z19 st19 hQ19
  subst y19 z19
  obtain ⟨rfl, N19q, eh19⟩ := hQ19
  have N19 : Fr n0 L19 := by rw [l19]; exact Fr.app N18 N19q
  clear l19
  obtain ⟨o0, h_o0⟩ : ∃ z : Int32, z = (own_okf (0 : Int32) (Int32.ofNat aa) (Int32.ofNat (k + 1)) v ss (own_val k v aa ss 0)) := ⟨_, rfl⟩
  obtain ⟨_, _, ⟨T20, L20, k20, n20⟩, -, X20, ⟨Lc20, hQ20, l20, y20, z20⟩, st20⟩ := Jvm.LawKit.callS X19 hx (y := (⟨"com/example/parley/parley/wire/WireWriterPutUnsignedVarintPinLaw", "ok", "([BIIIJB)Z"⟩ : MethodName)) hown (mvT hZ (hw _ (List.mem_of_getElem? (i := 10) rfl))) (mvT hZ (hw _ (List.mem_of_getElem? (i := 11) rfl))) (mvT hZ (hw _ (List.mem_of_getElem? (i := 3) rfl))) (mvT hZ (hw _ (List.mem_of_getElem? (i := 12) rfl))) (by decide) (backOf (W := 0) (rm3 l Z A0 hw [] ar (1 : Int32) (Int32.ofNat aa) (Int32.ofNat (k + 1)) v ss k1 ((own_vk k v aa (own_fill ss)).set (aa + k) (.int (own_lo (own_shk k v)))) (.int (0 : Int32)) (own_val k v aa ss 1) T18.heap n0 ZT18_heap V_ar (⟨by decide, by decide⟩) (own_getD k v aa ss 1 haa hk9 (by decide) _)) hZ (hw _ (List.mem_of_getElem? (i := 12) rfl)) (hw _ (List.mem_of_getElem? (i := 3) rfl)) (by decide) (by decide)) (g := (mkF m 166 #[.val (.long q0), .second, .val (.int p1), .val (.int p2), .val (.int p3), .val (.long v), .second, .val (.int (Int32.ofNat aa)), .val (.int ss), .val (.ref ar), .val (.int (Int32.ofNat (k + 1))), .val (.int (Int32.ofNat (aa + k + 1)))] [(.int ss), (.long v), (.int (Int32.ofNat (k + 1))), (.int (Int32.ofNat aa)), (.int (1 : Int32)), (.ref ar)])) rfl (by rw [hml]; rfl) (argsL := [(.ref ar), (.int (1 : Int32)), (.int (Int32.ofNat aa)), (.int (Int32.ofNat (k + 1))), (.long v), (.int ss)]) (rest := []) (lenOf pd_2 rfl) rfl (by show 2 * 0 + _ ≤ _; exact Nat.le_of_eq rfl) (hb hby at_166) (fun _ _ => ⟨rfl, eh19, (by decide : 1 + 0 ≤ _), (by decide : 15 + 0 ≤ _)⟩)
  dsimp only [Pt.U, Pt.locs, Pt.cells, Pt.slots] at X20 l20 y20 z20 st20 hQ20
  subst y20 z20
  obtain ⟨rfl, N20q, eh20⟩ := hQ20
  have N20 : Fr n0 L20 := by rw [l20]; exact Fr.app N19 N20q
  clear l20
  obtain ⟨o1, h_o1⟩ : ∃ z : Int32, z = (own_okf (1 : Int32) (Int32.ofNat aa) (Int32.ofNat (k + 1)) v ss (own_val k v aa ss 1)) := ⟨_, rfl⟩
  obtain ⟨_, _, ⟨T21, L21, k21, n21⟩, -, X21, ⟨Lc21, hQ21, l21, y21, z21⟩, st21⟩ := Jvm.LawKit.callS X20 hx (y := (⟨"com/example/parley/parley/wire/WireWriterPutUnsignedVarintPinLaw", "ok", "([BIIIJB)Z"⟩ : MethodName)) hown (mvT hZ (hw _ (List.mem_of_getElem? (i := 10) rfl))) (mvT hZ (hw _ (List.mem_of_getElem? (i := 11) rfl))) (mvT hZ (hw _ (List.mem_of_getElem? (i := 3) rfl))) (mvT hZ (hw _ (List.mem_of_getElem? (i := 12) rfl))) (by decide) (backOf (W := 0) (rm3 l Z A0 hw [] ar (2 : Int32) (Int32.ofNat aa) (Int32.ofNat (k + 1)) v ss k1 ((own_vk k v aa (own_fill ss)).set (aa + k) (.int (own_lo (own_shk k v)))) (.int (0 : Int32)) (own_val k v aa ss 2) T18.heap n0 ZT18_heap V_ar (⟨by decide, by decide⟩) (own_getD k v aa ss 2 haa hk9 (by decide) _)) hZ (hw _ (List.mem_of_getElem? (i := 12) rfl)) (hw _ (List.mem_of_getElem? (i := 3) rfl)) (by decide) (by decide)) (g := (mkF m 183 #[.val (.long q0), .second, .val (.int p1), .val (.int p2), .val (.int p3), .val (.long v), .second, .val (.int (Int32.ofNat aa)), .val (.int ss), .val (.ref ar), .val (.int (Int32.ofNat (k + 1))), .val (.int (Int32.ofNat (aa + k + 1)))] [(.int ss), (.long v), (.int (Int32.ofNat (k + 1))), (.int (Int32.ofNat aa)), (.int (2 : Int32)), (.ref ar)])) rfl (by rw [hml]; rfl) (argsL := [(.ref ar), (.int (2 : Int32)), (.int (Int32.ofNat aa)), (.int (Int32.ofNat (k + 1))), (.long v), (.int ss)]) (rest := []) (lenOf pd_2 rfl) rfl (by show 2 * 0 + _ ≤ _; exact Nat.le_of_eq rfl) (hb hby at_183) (fun _ _ => ⟨rfl, eh20, (by decide : 1 + 0 ≤ _), (by decide : 15 + 0 ≤ _)⟩)
  dsimp only [Pt.U, Pt.locs, Pt.cells, Pt.slots] at X21 l21 y21 z21 st21 hQ21
  subst y21 z21
  obtain ⟨rfl, N21q, eh21⟩ := hQ21
  have N21 : Fr n0 L21 := by rw [l21]; exact Fr.app N20 N21q
  clear l21
  obtain ⟨o2, h_o2⟩ : ∃ z : Int32, z = (own_okf (2 : Int32) (Int32.ofNat aa) (Int32.ofNat (k + 1)) v ss (own_val k v aa ss 2)) := ⟨_, rfl⟩
  obtain ⟨_, _, ⟨T22, L22, k22, n22⟩, -, X22, ⟨Lc22, hQ22, l22, y22, z22⟩, st22⟩ := Jvm.LawKit.callS X21 hx (y := (⟨"com/example/parley/parley/wire/WireWriterPutUnsignedVarintPinLaw", "ok", "([BIIIJB)Z"⟩ : MethodName)) hown (mvT hZ (hw _ (List.mem_of_getElem? (i := 10) rfl))) (mvT hZ (hw _ (List.mem_of_getElem? (i := 11) rfl))) (mvT hZ (hw _ (List.mem_of_getElem? (i := 3) rfl))) (mvT hZ (hw _ (List.mem_of_getElem? (i := 12) rfl))) (by decide) (backOf (W := 0) (rm3 l Z A0 hw [] ar (3 : Int32) (Int32.ofNat aa) (Int32.ofNat (k + 1)) v ss k1 ((own_vk k v aa (own_fill ss)).set (aa + k) (.int (own_lo (own_shk k v)))) (.int (0 : Int32)) (own_val k v aa ss 3) T18.heap n0 ZT18_heap V_ar (⟨by decide, by decide⟩) (own_getD k v aa ss 3 haa hk9 (by decide) _)) hZ (hw _ (List.mem_of_getElem? (i := 12) rfl)) (hw _ (List.mem_of_getElem? (i := 3) rfl)) (by decide) (by decide)) (g := (mkF m 200 #[.val (.long q0), .second, .val (.int p1), .val (.int p2), .val (.int p3), .val (.long v), .second, .val (.int (Int32.ofNat aa)), .val (.int ss), .val (.ref ar), .val (.int (Int32.ofNat (k + 1))), .val (.int (Int32.ofNat (aa + k + 1)))] [(.int ss), (.long v), (.int (Int32.ofNat (k + 1))), (.int (Int32.ofNat aa)), (.int (3 : Int32)), (.ref ar)])) rfl (by rw [hml]; rfl) (argsL := [(.ref ar), (.int (3 : Int32)), (.int (Int32.ofNat aa)), (.int (Int32.ofNat (k + 1))), (.long v), (.int ss)]) (rest := []) (lenOf pd_2 rfl) rfl (by show 2 * 0 + _ ≤ _; exact Nat.le_of_eq rfl) (hb hby at_200) (fun _ _ => ⟨rfl, eh21, (by decide : 1 + 0 ≤ _), (by decide : 15 + 0 ≤ _)⟩)
  dsimp only [Pt.U, Pt.locs, Pt.cells, Pt.slots] at X22 l22 y22 z22 st22 hQ22
  subst y22 z22
  obtain ⟨rfl, N22q, eh22⟩ := hQ22
  have N22 : Fr n0 L22 := by rw [l22]; exact Fr.app N21 N22q
  clear l22
  obtain ⟨o3, h_o3⟩ : ∃ z : Int32, z = (own_okf (3 : Int32) (Int32.ofNat aa) (Int32.ofNat (k + 1)) v ss (own_val k v aa ss 3)) := ⟨_, rfl⟩
  obtain ⟨_, _, ⟨T23, L23, k23, n23⟩, -, X23, ⟨Lc23, hQ23, l23, y23, z23⟩, st23⟩ := Jvm.LawKit.callS X22 hx (y := (⟨"com/example/parley/parley/wire/WireWriterPutUnsignedVarintPinLaw", "ok", "([BIIIJB)Z"⟩ : MethodName)) hown (mvT hZ (hw _ (List.mem_of_getElem? (i := 10) rfl))) (mvT hZ (hw _ (List.mem_of_getElem? (i := 11) rfl))) (mvT hZ (hw _ (List.mem_of_getElem? (i := 3) rfl))) (mvT hZ (hw _ (List.mem_of_getElem? (i := 12) rfl))) (by decide) (backOf (W := 0) (rm3 l Z A0 hw [] ar (4 : Int32) (Int32.ofNat aa) (Int32.ofNat (k + 1)) v ss k1 ((own_vk k v aa (own_fill ss)).set (aa + k) (.int (own_lo (own_shk k v)))) (.int (0 : Int32)) (own_val k v aa ss 4) T18.heap n0 ZT18_heap V_ar (⟨by decide, by decide⟩) (own_getD k v aa ss 4 haa hk9 (by decide) _)) hZ (hw _ (List.mem_of_getElem? (i := 12) rfl)) (hw _ (List.mem_of_getElem? (i := 3) rfl)) (by decide) (by decide)) (g := (mkF m 217 #[.val (.long q0), .second, .val (.int p1), .val (.int p2), .val (.int p3), .val (.long v), .second, .val (.int (Int32.ofNat aa)), .val (.int ss), .val (.ref ar), .val (.int (Int32.ofNat (k + 1))), .val (.int (Int32.ofNat (aa + k + 1)))] [(.int ss), (.long v), (.int (Int32.ofNat (k + 1))), (.int (Int32.ofNat aa)), (.int (4 : Int32)), (.ref ar)])) rfl (by rw [hml]; rfl) (argsL := [(.ref ar), (.int (4 : Int32)), (.int (Int32.ofNat aa)), (.int (Int32.ofNat (k + 1))), (.long v), (.int ss)]) (rest := []) (lenOf pd_2 rfl) rfl (by show 2 * 0 + _ ≤ _; exact Nat.le_of_eq rfl) (hb hby at_217) (fun _ _ => ⟨rfl, eh22, (by decide : 1 + 0 ≤ _), (by decide : 15 + 0 ≤ _)⟩)
  dsimp only [Pt.U, Pt.locs, Pt.cells, Pt.slots] at X23 l23 y23 z23 st23 hQ23
  subst y23 z23
  obtain ⟨rfl, N23q, eh23⟩ := hQ23
  have N23 : Fr n0 L23 := by rw [l23]; exact Fr.app N22 N23q
  clear l23
  obtain ⟨o4, h_o4⟩ : ∃ z : Int32, z = (own_okf (4 : Int32) (Int32.ofNat aa) (Int32.ofNat (k + 1)) v ss (own_val k v aa ss 4)) := ⟨_, rfl⟩
  obtain ⟨_, _, ⟨T24, L24, k24, n24⟩, -, X24, ⟨Lc24, hQ24, l24, y24, z24⟩, st24⟩ := Jvm.LawKit.callS X23 hx (y := (⟨"com/example/parley/parley/wire/WireWriterPutUnsignedVarintPinLaw", "ok", "([BIIIJB)Z"⟩ : MethodName)) hown (mvT hZ (hw _ (List.mem_of_getElem? (i := 10) rfl))) (mvT hZ (hw _ (List.mem_of_getElem? (i := 11) rfl))) (mvT hZ (hw _ (List.mem_of_getElem? (i := 3) rfl))) (mvT hZ (hw _ (List.mem_of_getElem? (i := 12) rfl))) (by decide) (backOf (W := 0) (rm3 l Z A0 hw [] ar (5 : Int32) (Int32.ofNat aa) (Int32.ofNat (k + 1)) v ss k1 ((own_vk k v aa (own_fill ss)).set (aa + k) (.int (own_lo (own_shk k v)))) (.int (0 : Int32)) (own_val k v aa ss 5) T18.heap n0 ZT18_heap V_ar (⟨by decide, by decide⟩) (own_getD k v aa ss 5 haa hk9 (by decide) _)) hZ (hw _ (List.mem_of_getElem? (i := 12) rfl)) (hw _ (List.mem_of_getElem? (i := 3) rfl)) (by decide) (by decide)) (g := (mkF m 234 #[.val (.long q0), .second, .val (.int p1), .val (.int p2), .val (.int p3), .val (.long v), .second, .val (.int (Int32.ofNat aa)), .val (.int ss), .val (.ref ar), .val (.int (Int32.ofNat (k + 1))), .val (.int (Int32.ofNat (aa + k + 1)))] [(.int ss), (.long v), (.int (Int32.ofNat (k + 1))), (.int (Int32.ofNat aa)), (.int (5 : Int32)), (.ref ar)])) rfl (by rw [hml]; rfl) (argsL := [(.ref ar), (.int (5 : Int32)), (.int (Int32.ofNat aa)), (.int (Int32.ofNat (k + 1))), (.long v), (.int ss)]) (rest := []) (lenOf pd_2 rfl) rfl (by show 2 * 0 + _ ≤ _; exact Nat.le_of_eq rfl) (hb hby at_234) (fun _ _ => ⟨rfl, eh23, (by decide : 1 + 0 ≤ _), (by decide : 15 + 0 ≤ _)⟩)
  dsimp only [Pt.U, Pt.locs, Pt.cells, Pt.slots] at X24 l24 y24 z24 st24 hQ24
  subst y24 z24
  obtain ⟨rfl, N24q, eh24⟩ := hQ24
  have N24 : Fr n0 L24 := by rw [l24]; exact Fr.app N23 N24q
  clear l24
  obtain ⟨o5, h_o5⟩ : ∃ z : Int32, z = (own_okf (5 : Int32) (Int32.ofNat aa) (Int32.ofNat (k + 1)) v ss (own_val k v aa ss 5)) := ⟨_, rfl⟩
  obtain ⟨_, _, ⟨T25, L25, k25, n25⟩, -, X25, ⟨Lc25, hQ25, l25, y25, z25⟩, st25⟩ := Jvm.LawKit.callS X24 hx (y := (⟨"com/example/parley/parley/wire/WireWriterPutUnsignedVarintPinLaw", "ok", "([BIIIJB)Z"⟩ : MethodName)) hown (mvT hZ (hw _ (List.mem_of_getElem? (i := 10) rfl))) (mvT hZ (hw _ (List.mem_of_getElem? (i := 11) rfl))) (mvT hZ (hw _ (List.mem_of_getElem? (i := 3) rfl))) (mvT hZ (hw _ (List.mem_of_getElem? (i := 12) rfl))) (by decide) (backOf (W := 0) (rm3 l Z A0 hw [] ar (6 : Int32) (Int32.ofNat aa) (Int32.ofNat (k + 1)) v ss k1 ((own_vk k v aa (own_fill ss)).set (aa + k) (.int (own_lo (own_shk k v)))) (.int (0 : Int32)) (own_val k v aa ss 6) T18.heap n0 ZT18_heap V_ar (⟨by decide, by decide⟩) (own_getD k v aa ss 6 haa hk9 (by decide) _)) hZ (hw _ (List.mem_of_getElem? (i := 12) rfl)) (hw _ (List.mem_of_getElem? (i := 3) rfl)) (by decide) (by decide)) (g := (mkF m 252 #[.val (.long q0), .second, .val (.int p1), .val (.int p2), .val (.int p3), .val (.long v), .second, .val (.int (Int32.ofNat aa)), .val (.int ss), .val (.ref ar), .val (.int (Int32.ofNat (k + 1))), .val (.int (Int32.ofNat (aa + k + 1)))] [(.int ss), (.long v), (.int (Int32.ofNat (k + 1))), (.int (Int32.ofNat aa)), (.int (6 : Int32)), (.ref ar)])) rfl (by rw [hml]; rfl) (argsL := [(.ref ar), (.int (6 : Int32)), (.int (Int32.ofNat aa)), (.int (Int32.ofNat (k + 1))), (.long v), (.int ss)]) (rest := []) (lenOf pd_2 rfl) rfl (by show 2 * 0 + _ ≤ _; exact Nat.le_of_eq rfl) (hb hby at_252) (fun _ _ => ⟨rfl, eh24, (by decide : 1 + 0 ≤ _), (by decide : 15 + 0 ≤ _)⟩)
  dsimp only [Pt.U, Pt.locs, Pt.cells, Pt.slots] at X25 l25 y25 z25 st25 hQ25
  subst y25 z25
  obtain ⟨rfl, N25q, eh25⟩ := hQ25
  have N25 : Fr n0 L25 := by rw [l25]; exact Fr.app N24 N25q
  clear l25
  obtain ⟨o6, h_o6⟩ : ∃ z : Int32, z = (own_okf (6 : Int32) (Int32.ofNat aa) (Int32.ofNat (k + 1)) v ss (own_val k v aa ss 6)) := ⟨_, rfl⟩
  obtain ⟨_, _, ⟨T26, L26, k26, n26⟩, -, X26, ⟨Lc26, hQ26, l26, y26, z26⟩, st26⟩ := Jvm.LawKit.callS X25 hx (y := (⟨"com/example/parley/parley/wire/WireWriterPutUnsignedVarintPinLaw", "ok", "([BIIIJB)Z"⟩ : MethodName)) hown (mvT hZ (hw _ (List.mem_of_getElem? (i := 10) rfl))) (mvT hZ (hw _ (List.mem_of_getElem? (i := 11) rfl))) (mvT hZ (hw _ (List.mem_of_getElem? (i := 3) rfl))) (mvT hZ (hw _ (List.mem_of_getElem? (i := 12) rfl))) (by decide) (backOf (W := 0) (rm3 l Z A0 hw [] ar (7 : Int32) (Int32.ofNat aa) (Int32.ofNat (k + 1)) v ss k1 ((own_vk k v aa (own_fill ss)).set (aa + k) (.int (own_lo (own_shk k v)))) (.int (0 : Int32)) (own_val k v aa ss 7) T18.heap n0 ZT18_heap V_ar (⟨by decide, by decide⟩) (own_getD k v aa ss 7 haa hk9 (by decide) _)) hZ (hw _ (List.mem_of_getElem? (i := 12) rfl)) (hw _ (List.mem_of_getElem? (i := 3) rfl)) (by decide) (by decide)) (g := (mkF m 270 #[.val (.long q0), .second, .val (.int p1), .val (.int p2), .val (.int p3), .val (.long v), .second, .val (.int (Int32.ofNat aa)), .val (.int ss), .val (.ref ar), .val (.int (Int32.ofNat (k + 1))), .val (.int (Int32.ofNat (aa + k + 1)))] [(.int ss), (.long v), (.int (Int32.ofNat (k + 1))), (.int (Int32.ofNat aa)), (.int (7 : Int32)), (.ref ar)])) rfl (by rw [hml]; rfl) (argsL := [(.ref ar), (.int (7 : Int32)), (.int (Int32.ofNat aa)), (.int (Int32.ofNat (k + 1))), (.long v), (.int ss)]) (rest := []) (lenOf pd_2 rfl) rfl (by show 2 * 0 + _ ≤ _; exact Nat.le_of_eq rfl) (hb hby at_270) (fun _ _ => ⟨rfl, eh25, (by decide : 1 + 0 ≤ _), (by decide : 15 + 0 ≤ _)⟩)
  dsimp only [Pt.U, Pt.locs, Pt.cells, Pt.slots] at X26 l26 y26 z26 st26 hQ26
  subst y26 z26
  obtain ⟨rfl, N26q, eh26⟩ := hQ26
  have N26 : Fr n0 L26 := by rw [l26]; exact Fr.app N25 N26q
  clear l26
  obtain ⟨o7, h_o7⟩ : ∃ z : Int32, z = (own_okf (7 : Int32) (Int32.ofNat aa) (Int32.ofNat (k + 1)) v ss (own_val k v aa ss 7)) := ⟨_, rfl⟩
  obtain ⟨_, _, ⟨T27, L27, k27, n27⟩, -, X27, ⟨Lc27, hQ27, l27, y27, z27⟩, st27⟩ := Jvm.LawKit.callS X26 hx (y := (⟨"com/example/parley/parley/wire/WireWriterPutUnsignedVarintPinLaw", "ok", "([BIIIJB)Z"⟩ : MethodName)) hown (mvT hZ (hw _ (List.mem_of_getElem? (i := 10) rfl))) (mvT hZ (hw _ (List.mem_of_getElem? (i := 11) rfl))) (mvT hZ (hw _ (List.mem_of_getElem? (i := 3) rfl))) (mvT hZ (hw _ (List.mem_of_getElem? (i := 12) rfl))) (by decide) (backOf (W := 0) (rm3 l Z A0 hw [] ar (8 : Int32) (Int32.ofNat aa) (Int32.ofNat (k + 1)) v ss k1 ((own_vk k v aa (own_fill ss)).set (aa + k) (.int (own_lo (own_shk k v)))) (.int (0 : Int32)) (own_val k v aa ss 8) T18.heap n0 ZT18_heap V_ar (⟨by decide, by decide⟩) (own_getD k v aa ss 8 haa hk9 (by decide) _)) hZ (hw _ (List.mem_of_getElem? (i := 12) rfl)) (hw _ (List.mem_of_getElem? (i := 3) rfl)) (by decide) (by decide)) (g := (mkF m 288 #[.val (.long q0), .second, .val (.int p1), .val (.int p2), .val (.int p3), .val (.long v), .second, .val (.int (Int32.ofNat aa)), .val (.int ss), .val (.ref ar), .val (.int (Int32.ofNat (k + 1))), .val (.int (Int32.ofNat (aa + k + 1)))] [(.int ss), (.long v), (.int (Int32.ofNat (k + 1))), (.int (Int32.ofNat aa)), (.int (8 : Int32)), (.ref ar)])) rfl (by rw [hml]; rfl) (argsL := [(.ref ar), (.int (8 : Int32)), (.int (Int32.ofNat aa)), (.int (Int32.ofNat (k + 1))), (.long v), (.int ss)]) (rest := []) (lenOf pd_2 rfl) rfl (by show 2 * 0 + _ ≤ _; exact Nat.le_of_eq rfl) (hb hby at_288) (fun _ _ => ⟨rfl, eh26, (by decide : 1 + 0 ≤ _), (by decide : 15 + 0 ≤ _)⟩)
  dsimp only [Pt.U, Pt.locs, Pt.cells, Pt.slots] at X27 l27 y27 z27 st27 hQ27
  subst y27 z27
  obtain ⟨rfl, N27q, eh27⟩ := hQ27
  have N27 : Fr n0 L27 := by rw [l27]; exact Fr.app N26 N27q
  clear l27
  obtain ⟨o8, h_o8⟩ : ∃ z : Int32, z = (own_okf (8 : Int32) (Int32.ofNat aa) (Int32.ofNat (k + 1)) v ss (own_val k v aa ss 8)) := ⟨_, rfl⟩
  obtain ⟨_, _, ⟨T28, L28, k28, n28⟩, -, X28, ⟨Lc28, hQ28, l28, y28, z28⟩, st28⟩ := Jvm.LawKit.callS X27 hx (y := (⟨"com/example/parley/parley/wire/WireWriterPutUnsignedVarintPinLaw", "ok", "([BIIIJB)Z"⟩ : MethodName)) hown (mvT hZ (hw _ (List.mem_of_getElem? (i := 10) rfl))) (mvT hZ (hw _ (List.mem_of_getElem? (i := 11) rfl))) (mvT hZ (hw _ (List.mem_of_getElem? (i := 3) rfl))) (mvT hZ (hw _ (List.mem_of_getElem? (i := 12) rfl))) (by decide) (backOf (W := 0) (rm3 l Z A0 hw [] ar (9 : Int32) (Int32.ofNat aa) (Int32.ofNat (k + 1)) v ss k1 ((own_vk k v aa (own_fill ss)).set (aa + k) (.int (own_lo (own_shk k v)))) (.int (0 : Int32)) (own_val k v aa ss 9) T18.heap n0 ZT18_heap V_ar (⟨by decide, by decide⟩) (own_getD k v aa ss 9 haa hk9 (by decide) _)) hZ (hw _ (List.mem_of_getElem? (i := 12) rfl)) (hw _ (List.mem_of_getElem? (i := 3) rfl)) (by decide) (by decide)) (g := (mkF m 306 #[.val (.long q0), .second, .val (.int p1), .val (.int p2), .val (.int p3), .val (.long v), .second, .val (.int (Int32.ofNat aa)), .val (.int ss), .val (.ref ar), .val (.int (Int32.ofNat (k + 1))), .val (.int (Int32.ofNat (aa + k + 1)))] [(.int ss), (.long v), (.int (Int32.ofNat (k + 1))), (.int (Int32.ofNat aa)), (.int (9 : Int32)), (.ref ar)])) rfl (by rw [hml]; rfl) (argsL := [(.ref ar), (.int (9 : Int32)), (.int (Int32.ofNat aa)), (.int (Int32.ofNat (k + 1))), (.long v), (.int ss)]) (rest := []) (lenOf pd_2 rfl) rfl (by show 2 * 0 + _ ≤ _; exact Nat.le_of_eq rfl) (hb hby at_306) (fun _ _ => ⟨rfl, eh27, (by decide : 1 + 0 ≤ _), (by decide : 15 + 0 ≤ _)⟩)
  dsimp only [Pt.U, Pt.locs, Pt.cells, Pt.slots] at X28 l28 y28 z28 st28 hQ28
  subst y28 z28
  obtain ⟨rfl, N28q, eh28⟩ := hQ28
  have N28 : Fr n0 L28 := by rw [l28]; exact Fr.app N27 N28q
  clear l28
  obtain ⟨o9, h_o9⟩ : ∃ z : Int32, z = (own_okf (9 : Int32) (Int32.ofNat aa) (Int32.ofNat (k + 1)) v ss (own_val k v aa ss 9)) := ⟨_, rfl⟩
  obtain ⟨_, _, ⟨T29, L29, k29, n29⟩, -, X29, ⟨Lc29, hQ29, l29, y29, z29⟩, st29⟩ := Jvm.LawKit.callS X28 hx (y := (⟨"com/example/parley/parley/wire/WireWriterPutUnsignedVarintPinLaw", "ok", "([BIIIJB)Z"⟩ : MethodName)) hown (mvT hZ (hw _ (List.mem_of_getElem? (i := 10) rfl))) (mvT hZ (hw _ (List.mem_of_getElem? (i := 11) rfl))) (mvT hZ (hw _ (List.mem_of_getElem? (i := 3) rfl))) (mvT hZ (hw _ (List.mem_of_getElem? (i := 12) rfl))) (by decide) (backOf (W := 0) (rm3 l Z A0 hw [] ar (10 : Int32) (Int32.ofNat aa) (Int32.ofNat (k + 1)) v ss k1 ((own_vk k v aa (own_fill ss)).set (aa + k) (.int (own_lo (own_shk k v)))) (.int (0 : Int32)) (own_val k v aa ss 10) T18.heap n0 ZT18_heap V_ar (⟨by decide, by decide⟩) (own_getD k v aa ss 10 haa hk9 (by decide) _)) hZ (hw _ (List.mem_of_getElem? (i := 12) rfl)) (hw _ (List.mem_of_getElem? (i := 3) rfl)) (by decide) (by decide)) (g := (mkF m 324 #[.val (.long q0), .second, .val (.int p1), .val (.int p2), .val (.int p3), .val (.long v), .second, .val (.int (Int32.ofNat aa)), .val (.int ss), .val (.ref ar), .val (.int (Int32.ofNat (k + 1))), .val (.int (Int32.ofNat (aa + k + 1)))] [(.int ss), (.long v), (.int (Int32.ofNat (k + 1))), (.int (Int32.ofNat aa)), (.int (10 : Int32)), (.ref ar)])) rfl (by rw [hml]; rfl) (argsL := [(.ref ar), (.int (10 : Int32)), (.int (Int32.ofNat aa)), (.int (Int32.ofNat (k + 1))), (.long v), (.int ss)]) (rest := []) (lenOf pd_2 rfl) rfl (by show 2 * 0 + _ ≤ _; exact Nat.le_of_eq rfl) (hb hby at_324) (fun _ _ => ⟨rfl, eh28, (by decide : 1 + 0 ≤ _), (by decide : 15 + 0 ≤ _)⟩)
  dsimp only [Pt.U, Pt.locs, Pt.cells, Pt.slots] at X29 l29 y29 z29 st29 hQ29
  subst y29 z29
  obtain ⟨rfl, N29q, eh29⟩ := hQ29
  have N29 : Fr n0 L29 := by rw [l29]; exact Fr.app N28 N29q
  clear l29
  obtain ⟨o10, h_o10⟩ : ∃ z : Int32, z = (own_okf (10 : Int32) (Int32.ofNat aa) (Int32.ofNat (k + 1)) v ss (own_val k v aa ss 10)) := ⟨_, rfl⟩
  obtain ⟨_, _, ⟨T30, L30, k30, n30⟩, -, X30, ⟨Lc30, hQ30, l30, y30, z30⟩, st30⟩ := Jvm.LawKit.callS X29 hx (y := (⟨"com/example/parley/parley/wire/WireWriterPutUnsignedVarintPinLaw", "ok", "([BIIIJB)Z"⟩ : MethodName)) hown (mvT hZ (hw _ (List.mem_of_getElem? (i := 10) rfl))) (mvT hZ (hw _ (List.mem_of_getElem? (i := 11) rfl))) (mvT hZ (hw _ (List.mem_of_getElem? (i := 3) rfl))) (mvT hZ (hw _ (List.mem_of_getElem? (i := 12) rfl))) (by decide) (backOf (W := 0) (rm3 l Z A0 hw [] ar (11 : Int32) (Int32.ofNat aa) (Int32.ofNat (k + 1)) v ss k1 ((own_vk k v aa (own_fill ss)).set (aa + k) (.int (own_lo (own_shk k v)))) (.int (0 : Int32)) (own_val k v aa ss 11) T18.heap n0 ZT18_heap V_ar (⟨by decide, by decide⟩) (own_getD k v aa ss 11 haa hk9 (by decide) _)) hZ (hw _ (List.mem_of_getElem? (i := 12) rfl)) (hw _ (List.mem_of_getElem? (i := 3) rfl)) (by decide) (by decide)) (g := (mkF m 342 #[.val (.long q0), .second, .val (.int p1), .val (.int p2), .val (.int p3), .val (.long v), .second, .val (.int (Int32.ofNat aa)), .val (.int ss), .val (.ref ar), .val (.int (Int32.ofNat (k + 1))), .val (.int (Int32.ofNat (aa + k + 1)))] [(.int ss), (.long v), (.int (Int32.ofNat (k + 1))), (.int (Int32.ofNat aa)), (.int (11 : Int32)), (.ref ar)])) rfl (by rw [hml]; rfl) (argsL := [(.ref ar), (.int (11 : Int32)), (.int (Int32.ofNat aa)), (.int (Int32.ofNat (k + 1))), (.long v), (.int ss)]) (rest := []) (lenOf pd_2 rfl) rfl (by show 2 * 0 + _ ≤ _; exact Nat.le_of_eq rfl) (hb hby at_342) (fun _ _ => ⟨rfl, eh29, (by decide : 1 + 0 ≤ _), (by decide : 15 + 0 ≤ _)⟩)
  dsimp only [Pt.U, Pt.locs, Pt.cells, Pt.slots] at X30 l30 y30 z30 st30 hQ30
  subst y30 z30
  obtain ⟨rfl, N30q, eh30⟩ := hQ30
  have N30 : Fr n0 L30 := by rw [l30]; exact Fr.app N29 N30q
  clear l30
  obtain ⟨o11, h_o11⟩ : ∃ z : Int32, z = (own_okf (11 : Int32) (Int32.ofNat aa) (Int32.ofNat (k + 1)) v ss (own_val k v aa ss 11)) := ⟨_, rfl⟩
  obtain ⟨_, _, ⟨T31, L31, k31, n31⟩, -, X31, ⟨Lc31, hQ31, l31, y31, z31⟩, st31⟩ := Jvm.LawKit.callS X30 hx (y := (⟨"com/example/parley/parley/wire/WireWriterPutUnsignedVarintPinLaw", "ok", "([BIIIJB)Z"⟩ : MethodName)) hown (mvT hZ (hw _ (List.mem_of_getElem? (i := 10) rfl))) (mvT hZ (hw _ (List.mem_of_getElem? (i := 11) rfl))) (mvT hZ (hw _ (List.mem_of_getElem? (i := 3) rfl))) (mvT hZ (hw _ (List.mem_of_getElem? (i := 12) rfl))) (by decide) (backOf (W := 0) (rm3 l Z A0 hw [] ar (12 : Int32) (Int32.ofNat aa) (Int32.ofNat (k + 1)) v ss k1 ((own_vk k v aa (own_fill ss)).set (aa + k) (.int (own_lo (own_shk k v)))) (.int (0 : Int32)) (own_val k v aa ss 12) T18.heap n0 ZT18_heap V_ar (⟨by decide, by decide⟩) (own_getD k v aa ss 12 haa hk9 (by decide) _)) hZ (hw _ (List.mem_of_getElem? (i := 12) rfl)) (hw _ (List.mem_of_getElem? (i := 3) rfl)) (by decide) (by decide)) (g := (mkF m 360 #[.val (.long q0), .second, .val (.int p1), .val (.int p2), .val (.int p3), .val (.long v), .second, .val (.int (Int32.ofNat aa)), .val (.int ss), .val (.ref ar), .val (.int (Int32.ofNat (k + 1))), .val (.int (Int32.ofNat (aa + k + 1)))] [(.int ss), (.long v), (.int (Int32.ofNat (k + 1))), (.int (Int32.ofNat aa)), (.int (12 : Int32)), (.ref ar)])) rfl (by rw [hml]; rfl) (argsL := [(.ref ar), (.int (12 : Int32)), (.int (Int32.ofNat aa)), (.int (Int32.ofNat (k + 1))), (.long v), (.int ss)]) (rest := []) (lenOf pd_2 rfl) rfl (by show 2 * 0 + _ ≤ _; exact Nat.le_of_eq rfl) (hb hby at_360) (fun _ _ => ⟨rfl, eh30, (by decide : 1 + 0 ≤ _), (by decide : 15 + 0 ≤ _)⟩)
  dsimp only [Pt.U, Pt.locs, Pt.cells, Pt.slots] at X31 l31 y31 z31 st31 hQ31
  subst y31 z31
  obtain ⟨rfl, N31q, eh31⟩ := hQ31
  have N31 : Fr n0 L31 := by rw [l31]; exact Fr.app N30 N31q
  clear l31
  obtain ⟨o12, h_o12⟩ : ∃ z : Int32, z = (own_okf (12 : Int32) (Int32.ofNat aa) (Int32.ofNat (k + 1)) v ss (own_val k v aa ss 12)) := ⟨_, rfl⟩
  obtain ⟨_, _, ⟨T32, L32, k32, n32⟩, -, X32, ⟨Lc32, hQ32, l32, y32, z32⟩, st32⟩ := Jvm.LawKit.callS X31 hx (y := (⟨"com/example/parley/parley/wire/WireWriterPutUnsignedVarintPinLaw", "ok", "([BIIIJB)Z"⟩ : MethodName)) hown (mvT hZ (hw _ (List.mem_of_getElem? (i := 10) rfl))) (mvT hZ (hw _ (List.mem_of_getElem? (i := 11) rfl))) (mvT hZ (hw _ (List.mem_of_getElem? (i := 3) rfl))) (mvT hZ (hw _ (List.mem_of_getElem? (i := 12) rfl))) (by decide) (backOf (W := 0) (rm3 l Z A0 hw [] ar (13 : Int32) (Int32.ofNat aa) (Int32.ofNat (k + 1)) v ss k1 ((own_vk k v aa (own_fill ss)).set (aa + k) (.int (own_lo (own_shk k v)))) (.int (0 : Int32)) (own_val k v aa ss 13) T18.heap n0 ZT18_heap V_ar (⟨by decide, by decide⟩) (own_getD k v aa ss 13 haa hk9 (by decide) _)) hZ (hw _ (List.mem_of_getElem? (i := 12) rfl)) (hw _ (List.mem_of_getElem? (i := 3) rfl)) (by decide) (by decide)) (g := (mkF m 378 #[.val (.long q0), .second, .val (.int p1), .val (.int p2), .val (.int p3), .val (.long v), .second, .val (.int (Int32.ofNat aa)), .val (.int ss), .val (.ref ar), .val (.int (Int32.ofNat (k + 1))), .val (.int (Int32.ofNat (aa + k + 1)))] [(.int ss), (.long v), (.int (Int32.ofNat (k + 1))), (.int (Int32.ofNat aa)), (.int (13 : Int32)), (.ref ar)])) rfl (by rw [hml]; rfl) (argsL := [(.ref ar), (.int (13 : Int32)), (.int (Int32.ofNat aa)), (.int (Int32.ofNat (k + 1))), (.long v), (.int ss)]) (rest := []) (lenOf pd_2 rfl) rfl (by show 2 * 0 + _ ≤ _; exact Nat.le_of_eq rfl) (hb hby at_378) (fun _ _ => ⟨rfl, eh31, (by decide : 1 + 0 ≤ _), (by decide : 15 + 0 ≤ _)⟩)
  dsimp only [Pt.U, Pt.locs, Pt.cells, Pt.slots] at X32 l32 y32 z32 st32 hQ32
  subst y32 z32
  obtain ⟨rfl, N32q, eh32⟩ := hQ32
  have N32 : Fr n0 L32 := by rw [l32]; exact Fr.app N31 N32q
  clear l32
  obtain ⟨o13, h_o13⟩ : ∃ z : Int32, z = (own_okf (13 : Int32) (Int32.ofNat aa) (Int32.ofNat (k + 1)) v ss (own_val k v aa ss 13)) := ⟨_, rfl⟩
  obtain ⟨_, _, ⟨T33, L33, k33, n33⟩, -, X33, ⟨Lc33, hQ33, l33, y33, z33⟩, st33⟩ := Jvm.LawKit.callS X32 hx (y := (⟨"com/example/parley/parley/wire/WireWriterPutUnsignedVarintPinLaw", "ok", "([BIIIJB)Z"⟩ : MethodName)) hown (mvT hZ (hw _ (List.mem_of_getElem? (i := 10) rfl))) (mvT hZ (hw _ (List.mem_of_getElem? (i := 11) rfl))) (mvT hZ (hw _ (List.mem_of_getElem? (i := 3) rfl))) (mvT hZ (hw _ (List.mem_of_getElem? (i := 12) rfl))) (by decide) (backOf (W := 0) (rm3 l Z A0 hw [] ar (14 : Int32) (Int32.ofNat aa) (Int32.ofNat (k + 1)) v ss k1 ((own_vk k v aa (own_fill ss)).set (aa + k) (.int (own_lo (own_shk k v)))) (.int (0 : Int32)) (own_val k v aa ss 14) T18.heap n0 ZT18_heap V_ar (⟨by decide, by decide⟩) (own_getD k v aa ss 14 haa hk9 (by decide) _)) hZ (hw _ (List.mem_of_getElem? (i := 12) rfl)) (hw _ (List.mem_of_getElem? (i := 3) rfl)) (by decide) (by decide)) (g := (mkF m 396 #[.val (.long q0), .second, .val (.int p1), .val (.int p2), .val (.int p3), .val (.long v), .second, .val (.int (Int32.ofNat aa)), .val (.int ss), .val (.ref ar), .val (.int (Int32.ofNat (k + 1))), .val (.int (Int32.ofNat (aa + k + 1)))] [(.int ss), (.long v), (.int (Int32.ofNat (k + 1))), (.int (Int32.ofNat aa)), (.int (14 : Int32)), (.ref ar)])) rfl (by rw [hml]; rfl) (argsL := [(.ref ar), (.int (14 : Int32)), (.int (Int32.ofNat aa)), (.int (Int32.ofNat (k + 1))), (.long v), (.int ss)]) (rest := []) (lenOf pd_2 rfl) rfl (by show 2 * 0 + _ ≤ _; exact Nat.le_of_eq rfl) (hb hby at_396) (fun _ _ => ⟨rfl, eh32, (by decide : 1 + 0 ≤ _), (by decide : 15 + 0 ≤ _)⟩)
  dsimp only [Pt.U, Pt.locs, Pt.cells, Pt.slots] at X33 l33 y33 z33 st33 hQ33
  subst y33 z33
  obtain ⟨rfl, N33q, eh33⟩ := hQ33
  have N33 : Fr n0 L33 := by rw [l33]; exact Fr.app N32 N33q
  clear l33
  obtain ⟨o14, h_o14⟩ : ∃ z : Int32, z = (own_okf (14 : Int32) (Int32.ofNat aa) (Int32.ofNat (k + 1)) v ss (own_val k v aa ss 14)) := ⟨_, rfl⟩
  obtain ⟨fs, hr, hrun, hended, hW, hsame⟩ := X33.leave (v := some (.int (1 : Int32))) (fun h => by rw [Bd.returns] at h; cases h)
  refine ⟨_, _, pre0 _ ?_, hrun, hended, _, _, rfl, ?_, ⟨_, rfl⟩, hW, hsame.mono (by decide) (by decide)⟩
  · show Steps p.tables e below (s₁.setTop (mkF m 0 #[.val (.long q0), .second, .val (.int p1), .val (.int p2), .val (.int p3), .unset, .unset, .unset, .unset, .unset, .unset, .unset] [])) _
    refine XS.lloadN X0.here hx rfl (hb hby at_0) rfl ?_
    show Steps p.tables e below (s₁.setTop (mkF m 1 #[.val (.long q0), .second, .val (.int p1), .val (.int p2), .val (.int p3), .unset, .unset, .unset, .unset, .unset, .unset, .unset] [(.long q0)])) _
    refine XS.iloadN X0.here hx rfl (hb hby at_1) rfl ?_
    show Steps p.tables e below (s₁.setTop (mkF m 2 #[.val (.long q0), .second, .val (.int p1), .val (.int p2), .val (.int p3), .unset, .unset, .unset, .unset, .unset, .unset, .unset] [(.int p1), (.long q0)])) _
    refine XS.bipush X0.here hx rfl (hb hby at_2) ?_
    show Steps p.tables e below (s₁.setTop (mkF m 4 #[.val (.long q0), .second, .val (.int p1), .val (.int p2), .val (.int p3), .unset, .unset, .unset, .unset, .unset, .unset, .unset] [(.int (63 : Int32)), (.int p1), (.long q0)])) _
    refine XS.iand X0.here hx rfl (hb hby at_4) rfl ?_
    show Steps p.tables e below (s₁.setTop (mkF m 5 #[.val (.long q0), .second, .val (.int p1), .val (.int p2), .val (.int p3), .unset, .unset, .unset, .unset, .unset, .unset, .unset] [(.int (p1 &&& (63 : Int32))), (.long q0)])) _
    refine XS.lushr X0.here hx rfl (hb hby at_5) rfl ?_
    show Steps p.tables e below (s₁.setTop (mkF m 6 #[.val (.long q0), .second, .val (.int p1), .val (.int p2), .val (.int p3), .unset, .unset, .unset, .unset, .unset, .unset, .unset] [(.long ((q0.toUInt64 >>> ((p1 &&& (63 : Int32)) &&& 0x3f).toInt64.toUInt64).toInt64))])) _
    rw [← h_v]
    show Steps p.tables e below (s₁.setTop (mkF m 6 #[.val (.long q0), .second, .val (.int p1), .val (.int p2), .val (.int p3), .unset, .unset, .unset, .unset, .unset, .unset, .unset] [(.long v)])) _
    refine XS.lstore X0.here hx rfl (hb hby at_6) rfl (l' := #[.val (.long q0), .second, .val (.int p1), .val (.int p2), .val (.int p3), .val (.long v), .second, .unset, .unset, .unset, .unset, .unset]) rfl ?_
    show Steps p.tables e below (s₁.setTop (mkF m 8 #[.val (.long q0), .second, .val (.int p1), .val (.int p2), .val (.int p3), .val (.long v), .second, .unset, .unset, .unset, .unset, .unset] [])) _
    refine XS.iloadN X0.here hx rfl (hb hby at_8) rfl ?_
    show Steps p.tables e below (s₁.setTop (mkF m 9 #[.val (.long q0), .second, .val (.int p1), .val (.int p2), .val (.int p3), .val (.long v), .second, .unset, .unset, .unset, .unset, .unset] [(.int p2)])) _
    refine XS.iconst X0.here hx rfl (hb hby at_9) ?_
    show Steps p.tables e below (s₁.setTop (mkF m 10 #[.val (.long q0), .second, .val (.int p1), .val (.int p2), .val (.int p3), .val (.long v), .second, .unset, .unset, .unset, .unset, .unset] [(.int (3 : Int32)), (.int p2)])) _
    refine XS.iand X0.here hx rfl (hb hby at_10) rfl ?_
    show Steps p.tables e below (s₁.setTop (mkF m 11 #[.val (.long q0), .second, .val (.int p1), .val (.int p2), .val (.int p3), .val (.long v), .second, .unset, .unset, .unset, .unset, .unset] [(.int (p2 &&& (3 : Int32)))])) _
    rw [← h_at_]
    show Steps p.tables e below (s₁.setTop (mkF m 11 #[.val (.long q0), .second, .val (.int p1), .val (.int p2), .val (.int p3), .val (.long v), .second, .unset, .unset, .unset, .unset, .unset] [(.int (Int32.ofNat aa))])) _
    refine XS.istore X0.here hx rfl (hb hby at_11) rfl (l' := #[.val (.long q0), .second, .val (.int p1), .val (.int p2), .val (.int p3), .val (.long v), .second, .val (.int (Int32.ofNat aa)), .unset, .unset, .unset, .unset]) rfl ?_
    show Steps p.tables e below (s₁.setTop (mkF m 13 #[.val (.long q0), .second, .val (.int p1), .val (.int p2), .val (.int p3), .val (.long v), .second, .val (.int (Int32.ofNat aa)), .unset, .unset, .unset, .unset] [])) _
    refine XS.iload X0.here hx rfl (hb hby at_13) rfl ?_
    show Steps p.tables e below (s₁.setTop (mkF m 15 #[.val (.long q0), .second, .val (.int p1), .val (.int p2), .val (.int p3), .val (.long v), .second, .val (.int (Int32.ofNat aa)), .unset, .unset, .unset, .unset] [(.int p3)])) _
    refine XS.i2b X0.here hx rfl (hb hby at_15) rfl ?_
    show Steps p.tables e below (s₁.setTop (mkF m 16 #[.val (.long q0), .second, .val (.int p1), .val (.int p2), .val (.int p3), .val (.long v), .second, .val (.int (Int32.ofNat aa)), .unset, .unset, .unset, .unset] [(.int (p3.toInt8.toInt32))])) _
    rw [← h_ss]
    show Steps p.tables e below (s₁.setTop (mkF m 16 #[.val (.long q0), .second, .val (.int p1), .val (.int p2), .val (.int p3), .val (.long v), .second, .val (.int (Int32.ofNat aa)), .unset, .unset, .unset, .unset] [(.int ss)])) _
    refine XS.istore X0.here hx rfl (hb hby at_16) rfl (l' := #[.val (.long q0), .second, .val (.int p1), .val (.int p2), .val (.int p3), .val (.long v), .second, .val (.int (Int32.ofNat aa)), .val (.int ss), .unset, .unset, .unset]) rfl ?_
    show Steps p.tables e below (s₁.setTop (mkF m 18 #[.val (.long q0), .second, .val (.int p1), .val (.int p2), .val (.int p3), .val (.long v), .second, .val (.int (Int32.ofNat aa)), .val (.int ss), .unset, .unset, .unset] [])) _
    refine XS.bipush X0.here hx rfl (hb hby at_18) ?_
    show Steps p.tables e below (s₁.setTop (mkF m 20 #[.val (.long q0), .second, .val (.int p1), .val (.int p2), .val (.int p3), .val (.long v), .second, .val (.int (Int32.ofNat aa)), .val (.int ss), .unset, .unset, .unset] [(.int (15 : Int32))])) _
    refine st1 _ ?_
    show Steps p.tables e below (T1.setTop (mkF m 22 #[.val (.long q0), .second, .val (.int p1), .val (.int p2), .val (.int p3), .val (.long v), .second, .val (.int (Int32.ofNat aa)), .val (.int ss), .unset, .unset, .unset] [(.ref ar)])) _
    refine XS.dup X1.here hx rfl (hb hby at_22) rfl rfl ?_
    show Steps p.tables e below (T1.setTop (mkF m 23 #[.val (.long q0), .second, .val (.int p1), .val (.int p2), .val (.int p3), .val (.long v), .second, .val (.int (Int32.ofNat aa)), .val (.int ss), .unset, .unset, .unset] [(.ref ar), (.ref ar)])) _
    refine XS.iconst X1.here hx rfl (hb hby at_23) ?_
    show Steps p.tables e below (T1.setTop (mkF m 24 #[.val (.long q0), .second, .val (.int p1), .val (.int p2), .val (.int p3), .val (.long v), .second, .val (.int (Int32.ofNat aa)), .val (.int ss), .unset, .unset, .unset] [(.int (0 : Int32)), (.ref ar), (.ref ar)])) _
    refine XS.iload X1.here hx rfl (hb hby at_24) rfl ?_
    show Steps p.tables e below (T1.setTop (mkF m 26 #[.val (.long q0), .second, .val (.int p1), .val (.int p2), .val (.int p3), .val (.long v), .second, .val (.int (Int32.ofNat aa)), .val (.int ss), .unset, .unset, .unset] [(.int ss), (.int (0 : Int32)), (.ref ar), (.ref ar)])) _
    refine st2 _ ?_
    show Steps p.tables e below (T2.setTop (mkF m 27 #[.val (.long q0), .second, .val (.int p1), .val (.int p2), .val (.int p3), .val (.long v), .second, .val (.int (Int32.ofNat aa)), .val (.int ss), .unset, .unset, .unset] [(.ref ar)])) _
    refine XS.dup X2.here hx rfl (hb hby at_27) rfl rfl ?_
    show Steps p.tables e below (T2.setTop (mkF m 28 #[.val (.long q0), .second, .val (.int p1), .val (.int p2), .val (.int p3), .val (.long v), .second, .val (.int (Int32.ofNat aa)), .val (.int ss), .unset, .unset, .unset] [(.ref ar), (.ref ar)])) _
    refine XS.iconst X2.here hx rfl (hb hby at_28) ?_
    show Steps p.tables e below (T2.setTop (mkF m 29 #[.val (.long q0), .second, .val (.int p1), .val (.int p2), .val (.int p3), .val (.long v), .second, .val (.int (Int32.ofNat aa)), .val (.int ss), .unset, .unset, .unset] [(.int (1 : Int32)), (.ref ar), (.ref ar)])) _
    refine XS.iload X2.here hx rfl (hb hby at_29) rfl ?_
    show Steps p.tables e below (T2.setTop (mkF m 31 #[.val (.long q0), .second, .val (.int p1), .val (.int p2), .val (.int p3), .val (.long v), .second, .val (.int (Int32.ofNat aa)), .val (.int ss), .unset, .unset, .unset] [(.int ss), (.int (1 : Int32)), (.ref ar), (.ref ar)])) _
    refine st3 _ ?_
    show Steps p.tables e below (T3.setTop (mkF m 32 #[.val (.long q0), .second, .val (.int p1), .val (.int p2), .val (.int p3), .val (.long v), .second, .val (.int (Int32.ofNat aa)), .val (.int ss), .unset, .unset, .unset] [(.ref ar)])) _
    refine XS.dup X3.here hx rfl (hb hby at_32) rfl rfl ?_
    show Steps p.tables e below (T3.setTop (mkF m 33 #[.val (.long q0), .second, .val (.int p1), .val (.int p2), .val (.int p3), .val (.long v), .second, .val (.int (Int32.ofNat aa)), .val (.int ss), .unset, .unset, .unset] [(.ref ar), (.ref ar)])) _
    refine XS.iconst X3.here hx rfl (hb hby at_33) ?_
    show Steps p.tables e below (T3.setTop (mkF m 34 #[.val (.long q0), .second, .val (.int p1), .val (.int p2), .val (.int p3), .val (.long v), .second, .val (.int (Int32.ofNat aa)), .val (.int ss), .unset, .unset, .unset] [(.int (2 : Int32)), (.ref ar), (.ref ar)])) _
    refine XS.iload X3.here hx rfl (hb hby at_34) rfl ?_
    show Steps p.tables e below (T3.setTop (mkF m 36 #[.val (.long q0), .second, .val (.int p1), .val (.int p2), .val (.int p3), .val (.long v), .second, .val (.int (Int32.ofNat aa)), .val (.int ss), .unset, .unset, .unset] [(.int ss), (.int (2 : Int32)), (.ref ar), (.ref ar)])) _
    refine st4 _ ?_
    show Steps p.tables e below (T4.setTop (mkF m 37 #[.val (.long q0), .second, .val (.int p1), .val (.int p2), .val (.int p3), .val (.long v), .second, .val (.int (Int32.ofNat aa)), .val (.int ss), .unset, .unset, .unset] [(.ref ar)])) _
    refine XS.dup X4.here hx rfl (hb hby at_37) rfl rfl ?_
    show Steps p.tables e below (T4.setTop (mkF m 38 #[.val (.long q0), .second, .val (.int p1), .val (.int p2), .val (.int p3), .val (.long v), .second, .val (.int (Int32.ofNat aa)), .val (.int ss), .unset, .unset, .unset] [(.ref ar), (.ref ar)])) _
    refine XS.iconst X4.here hx rfl (hb hby at_38) ?_
    show Steps p.tables e below (T4.setTop (mkF m 39 #[.val (.long q0), .second, .val (.int p1), .val (.int p2), .val (.int p3), .val (.long v), .second, .val (.int (Int32.ofNat aa)), .val (.int ss), .unset, .unset, .unset] [(.int (3 : Int32)), (.ref ar), (.ref ar)])) _
    refine XS.iload X4.here hx rfl (hb hby at_39) rfl ?_
    show Steps p.tables e below (T4.setTop (mkF m 41 #[.val (.long q0), .second, .val (.int p1), .val (.int p2), .val (.int p3), .val (.long v), .second, .val (.int (Int32.ofNat aa)), .val (.int ss), .unset, .unset, .unset] [(.int ss), (.int (3 : Int32)), (.ref ar), (.ref ar)])) _
    refine st5 _ ?_
    show Steps p.tables e below (T5.setTop (mkF m 42 #[.val (.long q0), .second, .val (.int p1), .val (.int p2), .val (.int p3), .val (.long v), .second, .val (.int (Int32.ofNat aa)), .val (.int ss), .unset, .unset, .unset] [(.ref ar)])) _
    refine XS.dup X5.here hx rfl (hb hby at_42) rfl rfl ?_
    show Steps p.tables e below (T5.setTop (mkF m 43 #[.val (.long q0), .second, .val (.int p1), .val (.int p2), .val (.int p3), .val (.long v), .second, .val (.int (Int32.ofNat aa)), .val (.int ss), .unset, .unset, .unset] [(.ref ar), (.ref ar)])) _
    refine XS.iconst X5.here hx rfl (hb hby at_43) ?_
    show Steps p.tables e below (T5.setTop (mkF m 44 #[.val (.long q0), .second, .val (.int p1), .val (.int p2), .val (.int p3), .val (.long v), .second, .val (.int (Int32.ofNat aa)), .val (.int ss), .unset, .unset, .unset] [(.int (4 : Int32)), (.ref ar), (.ref ar)])) _
    refine XS.iload X5.here hx rfl (hb hby at_44) rfl ?_
    show Steps p.tables e below (T5.setTop (mkF m 46 #[.val (.long q0), .second, .val (.int p1), .val (.int p2), .val (.int p3), .val (.long v), .second, .val (.int (Int32.ofNat aa)), .val (.int ss), .unset, .unset, .unset] [(.int ss), (.int (4 : Int32)), (.ref ar), (.ref ar)])) _
    refine st6 _ ?_
    show Steps p.tables e below (T6.setTop (mkF m 47 #[.val (.long q0), .second, .val (.int p1), .val (.int p2), .val (.int p3), .val (.long v), .second, .val (.int (Int32.ofNat aa)), .val (.int ss), .unset, .unset, .unset] [(.ref ar)])) _
    refine XS.dup X6.here hx rfl (hb hby at_47) rfl rfl ?_
    show Steps p.tables e below (T6.setTop (mkF m 48 #[.val (.long q0), .second, .val (.int p1), .val (.int p2), .val (.int p3), .val (.long v), .second, .val (.int (Int32.ofNat aa)), .val (.int ss), .unset, .unset, .unset] [(.ref ar), (.ref ar)])) _
    refine XS.iconst X6.here hx rfl (hb hby at_48) ?_
    show Steps p.tables e below (T6.setTop (mkF m 49 #[.val (.long q0), .second, .val (.int p1), .val (.int p2), .val (.int p3), .val (.long v), .second, .val (.int (Int32.ofNat aa)), .val (.int ss), .unset, .unset, .unset] [(.int (5 : Int32)), (.ref ar), (.ref ar)])) _
    refine XS.iload X6.here hx rfl (hb hby at_49) rfl ?_
    show Steps p.tables e below (T6.setTop (mkF m 51 #[.val (.long q0), .second, .val (.int p1), .val (.int p2), .val (.int p3), .val (.long v), .second, .val (.int (Int32.ofNat aa)), .val (.int ss), .unset, .unset, .unset] [(.int ss), (.int (5 : Int32)), (.ref ar), (.ref ar)])) _
    refine st7 _ ?_
    show Steps p.tables e below (T7.setTop (mkF m 52 #[.val (.long q0), .second, .val (.int p1), .val (.int p2), .val (.int p3), .val (.long v), .second, .val (.int (Int32.ofNat aa)), .val (.int ss), .unset, .unset, .unset] [(.ref ar)])) _
    refine XS.dup X7.here hx rfl (hb hby at_52) rfl rfl ?_
    show Steps p.tables e below (T7.setTop (mkF m 53 #[.val (.long q0), .second, .val (.int p1), .val (.int p2), .val (.int p3), .val (.long v), .second, .val (.int (Int32.ofNat aa)), .val (.int ss), .unset, .unset, .unset] [(.ref ar), (.ref ar)])) _
    refine XS.bipush X7.here hx rfl (hb hby at_53) ?_
    show Steps p.tables e below (T7.setTop (mkF m 55 #[.val (.long q0), .second, .val (.int p1), .val (.int p2), .val (.int p3), .val (.long v), .second, .val (.int (Int32.ofNat aa)), .val (.int ss), .unset, .unset, .unset] [(.int (6 : Int32)), (.ref ar), (.ref ar)])) _
    refine XS.iload X7.here hx rfl (hb hby at_55) rfl ?_
    show Steps p.tables e below (T7.setTop (mkF m 57 #[.val (.long q0), .second, .val (.int p1), .val (.int p2), .val (.int p3), .val (.long v), .second, .val (.int (Int32.ofNat aa)), .val (.int ss), .unset, .unset, .unset] [(.int ss), (.int (6 : Int32)), (.ref ar), (.ref ar)])) _
    refine st8 _ ?_
    show Steps p.tables e below (T8.setTop (mkF m 58 #[.val (.long q0), .second, .val (.int p1), .val (.int p2), .val (.int p3), .val (.long v), .second, .val (.int (Int32.ofNat aa)), .val (.int ss), .unset, .unset, .unset] [(.ref ar)])) _
    refine XS.dup X8.here hx rfl (hb hby at_58) rfl rfl ?_
    show Steps p.tables e below (T8.setTop (mkF m 59 #[.val (.long q0), .second, .val (.int p1), .val (.int p2), .val (.int p3), .val (.long v), .second, .val (.int (Int32.ofNat aa)), .val (.int ss), .unset, .unset, .unset] [(.ref ar), (.ref ar)])) _
    refine XS.bipush X8.here hx rfl (hb hby at_59) ?_
    show Steps p.tables e below (T8.setTop (mkF m 61 #[.val (.long q0), .second, .val (.int p1), .val (.int p2), .val (.int p3), .val (.long v), .second, .val (.int (Int32.ofNat aa)), .val (.int ss), .unset, .unset, .unset] [(.int (7 : Int32)), (.ref ar), (.ref ar)])) _
    refine XS.iload X8.here hx rfl (hb hby at_61) rfl ?_
    show Steps p.tables e below (T8.setTop (mkF m 63 #[.val (.long q0), .second, .val (.int p1), .val (.int p2), .val (.int p3), .val (.long v), .second, .val (.int (Int32.ofNat aa)), .val (.int ss), .unset, .unset, .unset] [(.int ss), (.int (7 : Int32)), (.ref ar), (.ref ar)])) _
    refine st9 _ ?_
    show Steps p.tables e below (T9.setTop (mkF m 64 #[.val (.long q0), .second, .val (.int p1), .val (.int p2), .val (.int p3), .val (.long v), .second, .val (.int (Int32.ofNat aa)), .val (.int ss), .unset, .unset, .unset] [(.ref ar)])) _
    refine XS.dup X9.here hx rfl (hb hby at_64) rfl rfl ?_
    show Steps p.tables e below (T9.setTop (mkF m 65 #[.val (.long q0), .second, .val (.int p1), .val (.int p2), .val (.int p3), .val (.long v), .second, .val (.int (Int32.ofNat aa)), .val (.int ss), .unset, .unset, .unset] [(.ref ar), (.ref ar)])) _
    refine XS.bipush X9.here hx rfl (hb hby at_65) ?_
    show Steps p.tables e below (T9.setTop (mkF m 67 #[.val (.long q0), .second, .val (.int p1), .val (.int p2), .val (.int p3), .val (.long v), .second, .val (.int (Int32.ofNat aa)), .val (.int ss), .unset, .unset, .unset] [(.int (8 : Int32)), (.ref ar), (.ref ar)])) _
    refine XS.iload X9.here hx rfl (hb hby at_67) rfl ?_
    show Steps p.tables e below (T9.setTop (mkF m 69 #[.val (.long q0), .second, .val (.int p1), .val (.int p2), .val (.int p3), .val (.long v), .second, .val (.int (Int32.ofNat aa)), .val (.int ss), .unset, .unset, .unset] [(.int ss), (.int (8 : Int32)), (.ref ar), (.ref ar)])) _
    refine st10 _ ?_
    show Steps p.tables e below (T10.setTop (mkF m 70 #[.val (.long q0), .second, .val (.int p1), .val (.int p2), .val (.int p3), .val (.long v), .second, .val (.int (Int32.ofNat aa)), .val (.int ss), .unset, .unset, .unset] [(.ref ar)])) _
    refine XS.dup X10.here hx rfl (hb hby at_70) rfl rfl ?_
    show Steps p.tables e below (T10.setTop (mkF m 71 #[.val (.long q0), .second, .val (.int p1), .val (.int p2), .val (.int p3), .val (.long v), .second, .val (.int (Int32.ofNat aa)), .val (.int ss), .unset, .unset, .unset] [(.ref ar), (.ref ar)])) _
    refine XS.bipush X10.here hx rfl (hb hby at_71) ?_
    show Steps p.tables e below (T10.setTop (mkF m 73 #[.val (.long q0), .second, .val (.int p1), .val (.int p2), .val (.int p3), .val (.long v), .second, .val (.int (Int32.ofNat aa)), .val (.int ss), .unset, .unset, .unset] [(.int (9 : Int32)), (.ref ar), (.ref ar)])) _
    refine XS.iload X10.here hx rfl (hb hby at_73) rfl ?_
    show Steps p.tables e below (T10.setTop (mkF m 75 #[.val (.long q0), .second, .val (.int p1), .val (.int p2), .val (.int p3), .val (.long v), .second, .val (.int (Int32.ofNat aa)), .val (.int ss), .unset, .unset, .unset] [(.int ss), (.int (9 : Int32)), (.ref ar), (.ref ar)])) _
    refine st11 _ ?_
    show Steps p.tables e below (T11.setTop (mkF m 76 #[.val (.long q0), .second, .val (.int p1), .val (.int p2), .val (.int p3), .val (.long v), .second, .val (.int (Int32.ofNat aa)), .val (.int ss), .unset, .unset, .unset] [(.ref ar)])) _
    refine XS.dup X11.here hx rfl (hb hby at_76) rfl rfl ?_
    show Steps p.tables e below (T11.setTop (mkF m 77 #[.val (.long q0), .second, .val (.int p1), .val (.int p2), .val (.int p3), .val (.long v), .second, .val (.int (Int32.ofNat aa)), .val (.int ss), .unset, .unset, .unset] [(.ref ar), (.ref ar)])) _
    refine XS.bipush X11.here hx rfl (hb hby at_77) ?_
    show Steps p.tables e below (T11.setTop (mkF m 79 #[.val (.long q0), .second, .val (.int p1), .val (.int p2), .val (.int p3), .val (.long v), .second, .val (.int (Int32.ofNat aa)), .val (.int ss), .unset, .unset, .unset] [(.int (10 : Int32)), (.ref ar), (.ref ar)])) _
    refine XS.iload X11.here hx rfl (hb hby at_79) rfl ?_
    show Steps p.tables e below (T11.setTop (mkF m 81 #[.val (.long q0), .second, .val (.int p1), .val (.int p2), .val (.int p3), .val (.long v), .second, .val (.int (Int32.ofNat aa)), .val (.int ss), .unset, .unset, .unset] [(.int ss), (.int (10 : Int32)), (.ref ar), (.ref ar)])) _
    refine st12 _ ?_
    show Steps p.tables e below (T12.setTop (mkF m 82 #[.val (.long q0), .second, .val (.int p1), .val (.int p2), .val (.int p3), .val (.long v), .second, .val (.int (Int32.ofNat aa)), .val (.int ss), .unset, .unset, .unset] [(.ref ar)])) _
    refine XS.dup X12.here hx rfl (hb hby at_82) rfl rfl ?_
    show Steps p.tables e below (T12.setTop (mkF m 83 #[.val (.long q0), .second, .val (.int p1), .val (.int p2), .val (.int p3), .val (.long v), .second, .val (.int (Int32.ofNat aa)), .val (.int ss), .unset, .unset, .unset] [(.ref ar), (.ref ar)])) _
    refine XS.bipush X12.here hx rfl (hb hby at_83) ?_
    show Steps p.tables e below (T12.setTop (mkF m 85 #[.val (.long q0), .second, .val (.int p1), .val (.int p2), .val (.int p3), .val (.long v), .second, .val (.int (Int32.ofNat aa)), .val (.int ss), .unset, .unset, .unset] [(.int (11 : Int32)), (.ref ar), (.ref ar)])) _
    refine XS.iload X12.here hx rfl (hb hby at_85) rfl ?_
    show Steps p.tables e below (T12.setTop (mkF m 87 #[.val (.long q0), .second, .val (.int p1), .val (.int p2), .val (.int p3), .val (.long v), .second, .val (.int (Int32.ofNat aa)), .val (.int ss), .unset, .unset, .unset] [(.int ss), (.int (11 : Int32)), (.ref ar), (.ref ar)])) _
    refine st13 _ ?_
    show Steps p.tables e below (T13.setTop (mkF m 88 #[.val (.long q0), .second, .val (.int p1), .val (.int p2), .val (.int p3), .val (.long v), .second, .val (.int (Int32.ofNat aa)), .val (.int ss), .unset, .unset, .unset] [(.ref ar)])) _
    refine XS.dup X13.here hx rfl (hb hby at_88) rfl rfl ?_
    show Steps p.tables e below (T13.setTop (mkF m 89 #[.val (.long q0), .second, .val (.int p1), .val (.int p2), .val (.int p3), .val (.long v), .second, .val (.int (Int32.ofNat aa)), .val (.int ss), .unset, .unset, .unset] [(.ref ar), (.ref ar)])) _
    refine XS.bipush X13.here hx rfl (hb hby at_89) ?_
    show Steps p.tables e below (T13.setTop (mkF m 91 #[.val (.long q0), .second, .val (.int p1), .val (.int p2), .val (.int p3), .val (.long v), .second, .val (.int (Int32.ofNat aa)), .val (.int ss), .unset, .unset, .unset] [(.int (12 : Int32)), (.ref ar), (.ref ar)])) _
    refine XS.iload X13.here hx rfl (hb hby at_91) rfl ?_
    show Steps p.tables e below (T13.setTop (mkF m 93 #[.val (.long q0), .second, .val (.int p1), .val (.int p2), .val (.int p3), .val (.long v), .second, .val (.int (Int32.ofNat aa)), .val (.int ss), .unset, .unset, .unset] [(.int ss), (.int (12 : Int32)), (.ref ar), (.ref ar)])) _
    refine st14 _ ?_
    show Steps p.tables e below (T14.setTop (mkF m 94 #[.val (.long q0), .second, .val (.int p1), .val (.int p2), .val (.int p3), .val (.long v), .second, .val (.int (Int32.ofNat aa)), .val (.int ss), .unset, .unset, .unset] [(.ref ar)])) _
    refine XS.dup X14.here hx rfl (hb hby at_94) rfl rfl ?_
    show Steps p.tables e below (T14.setTop (mkF m 95 #[.val (.long q0), .second, .val (.int p1), .val (.int p2), .val (.int p3), .val (.long v), .second, .val (.int (Int32.ofNat aa)), .val (.int ss), .unset, .unset, .unset] [(.ref ar), (.ref ar)])) _
    refine XS.bipush X14.here hx rfl (hb hby at_95) ?_
    show Steps p.tables e below (T14.setTop (mkF m 97 #[.val (.long q0), .second, .val (.int p1), .val (.int p2), .val (.int p3), .val (.long v), .second, .val (.int (Int32.ofNat aa)), .val (.int ss), .unset, .unset, .unset] [(.int (13 : Int32)), (.ref ar), (.ref ar)])) _
    refine XS.iload X14.here hx rfl (hb hby at_97) rfl ?_
    show Steps p.tables e below (T14.setTop (mkF m 99 #[.val (.long q0), .second, .val (.int p1), .val (.int p2), .val (.int p3), .val (.long v), .second, .val (.int (Int32.ofNat aa)), .val (.int ss), .unset, .unset, .unset] [(.int ss), (.int (13 : Int32)), (.ref ar), (.ref ar)])) _
    refine st15 _ ?_
    show Steps p.tables e below (T15.setTop (mkF m 100 #[.val (.long q0), .second, .val (.int p1), .val (.int p2), .val (.int p3), .val (.long v), .second, .val (.int (Int32.ofNat aa)), .val (.int ss), .unset, .unset, .unset] [(.ref ar)])) _
    refine XS.dup X15.here hx rfl (hb hby at_100) rfl rfl ?_
    show Steps p.tables e below (T15.setTop (mkF m 101 #[.val (.long q0), .second, .val (.int p1), .val (.int p2), .val (.int p3), .val (.long v), .second, .val (.int (Int32.ofNat aa)), .val (.int ss), .unset, .unset, .unset] [(.ref ar), (.ref ar)])) _
    refine XS.bipush X15.here hx rfl (hb hby at_101) ?_
    show Steps p.tables e below (T15.setTop (mkF m 103 #[.val (.long q0), .second, .val (.int p1), .val (.int p2), .val (.int p3), .val (.long v), .second, .val (.int (Int32.ofNat aa)), .val (.int ss), .unset, .unset, .unset] [(.int (14 : Int32)), (.ref ar), (.ref ar)])) _
    refine XS.iload X15.here hx rfl (hb hby at_103) rfl ?_
    show Steps p.tables e below (T15.setTop (mkF m 105 #[.val (.long q0), .second, .val (.int p1), .val (.int p2), .val (.int p3), .val (.long v), .second, .val (.int (Int32.ofNat aa)), .val (.int ss), .unset, .unset, .unset] [(.int ss), (.int (14 : Int32)), (.ref ar), (.ref ar)])) _
    refine st16 _ ?_
    show Steps p.tables e below (T16.setTop (mkF m 106 #[.val (.long q0), .second, .val (.int p1), .val (.int p2), .val (.int p3), .val (.long v), .second, .val (.int (Int32.ofNat aa)), .val (.int ss), .unset, .unset, .unset] [(.ref ar)])) _
    refine XS.astore X16.here hx rfl (hb hby at_106) rfl rfl (l' := #[.val (.long q0), .second, .val (.int p1), .val (.int p2), .val (.int p3), .val (.long v), .second, .val (.int (Int32.ofNat aa)), .val (.int ss), .val (.ref ar), .unset, .unset]) rfl ?_
    show Steps p.tables e below (T16.setTop (mkF m 108 #[.val (.long q0), .second, .val (.int p1), .val (.int p2), .val (.int p3), .val (.long v), .second, .val (.int (Int32.ofNat aa)), .val (.int ss), .val (.ref ar), .unset, .unset] [])) _
    refine XS.lload X16.here hx rfl (hb hby at_108) rfl ?_
    show Steps p.tables e below (T16.setTop (mkF m 110 #[.val (.long q0), .second, .val (.int p1), .val (.int p2), .val (.int p3), .val (.long v), .second, .val (.int (Int32.ofNat aa)), .val (.int ss), .val (.ref ar), .unset, .unset] [(.long v)])) _
    refine st17 _ ?_
    show Steps p.tables e below (T17.setTop (mkF m 113 #[.val (.long q0), .second, .val (.int p1), .val (.int p2), .val (.int p3), .val (.long v), .second, .val (.int (Int32.ofNat aa)), .val (.int ss), .val (.ref ar), .unset, .unset] [(.int (if ((v.toUInt64 >>> ((63 : Int32) &&& 0x3f).toInt64.toUInt64).toInt64) = (0 : Int64) then (if ((v.toUInt64 >>> ((56 : Int32) &&& 0x3f).toInt64.toUInt64).toInt64) = (0 : Int64) then (if ((v.toUInt64 >>> ((49 : Int32) &&& 0x3f).toInt64.toUInt64).toInt64) = (0 : Int64) then (if ((v.toUInt64 >>> ((42 : Int32) &&& 0x3f).toInt64.toUInt64).toInt64) = (0 : Int64) then (if ((v.toUInt64 >>> ((35 : Int32) &&& 0x3f).toInt64.toUInt64).toInt64) = (0 : Int64) then (if ((v.toUInt64 >>> ((28 : Int32) &&& 0x3f).toInt64.toUInt64).toInt64) = (0 : Int64) then (if ((v.toUInt64 >>> ((21 : Int32) &&& 0x3f).toInt64.toUInt64).toInt64) = (0 : Int64) then (if ((v.toUInt64 >>> ((14 : Int32) &&& 0x3f).toInt64.toUInt64).toInt64) = (0 : Int64) then (if ((v.toUInt64 >>> ((7 : Int32) &&& 0x3f).toInt64.toUInt64).toInt64) = (0 : Int64) then (1 : Int32) else (2 : Int32)) else (3 : Int32)) else (4 : Int32)) else (5 : Int32)) else (6 : Int32)) else (7 : Int32)) else (8 : Int32)) else (9 : Int32)) else (10 : Int32)))])) _
    rw [← h_nz]
    show Steps p.tables e below (T17.setTop (mkF m 113 #[.val (.long q0), .second, .val (.int p1), .val (.int p2), .val (.int p3), .val (.long v), .second, .val (.int (Int32.ofNat aa)), .val (.int ss), .val (.ref ar), .unset, .unset] [(.int (Int32.ofNat (k + 1)))])) _
    refine XS.istore X17.here hx rfl (hb hby at_113) rfl (l' := #[.val (.long q0), .second, .val (.int p1), .val (.int p2), .val (.int p3), .val (.long v), .second, .val (.int (Int32.ofNat aa)), .val (.int ss), .val (.ref ar), .val (.int (Int32.ofNat (k + 1))), .unset]) rfl ?_
    show Steps p.tables e below (T17.setTop (mkF m 115 #[.val (.long q0), .second, .val (.int p1), .val (.int p2), .val (.int p3), .val (.long v), .second, .val (.int (Int32.ofNat aa)), .val (.int ss), .val (.ref ar), .val (.int (Int32.ofNat (k + 1))), .unset] [])) _
    refine XS.aload X17.here hx rfl (hb hby at_115) rfl rfl ?_
    show Steps p.tables e below (T17.setTop (mkF m 117 #[.val (.long q0), .second, .val (.int p1), .val (.int p2), .val (.int p3), .val (.long v), .second, .val (.int (Int32.ofNat aa)), .val (.int ss), .val (.ref ar), .val (.int (Int32.ofNat (k + 1))), .unset] [(.ref ar)])) _
    refine XS.iload X17.here hx rfl (hb hby at_117) rfl ?_
    show Steps p.tables e below (T17.setTop (mkF m 119 #[.val (.long q0), .second, .val (.int p1), .val (.int p2), .val (.int p3), .val (.long v), .second, .val (.int (Int32.ofNat aa)), .val (.int ss), .val (.ref ar), .val (.int (Int32.ofNat (k + 1))), .unset] [(.int (Int32.ofNat aa)), (.ref ar)])) _
    refine XS.lload X17.here hx rfl (hb hby at_119) rfl ?_
    show Steps p.tables e below (T17.setTop (mkF m 121 #[.val (.long q0), .second, .val (.int p1), .val (.int p2), .val (.int p3), .val (.long v), .second, .val (.int (Int32.ofNat aa)), .val (.int ss), .val (.ref ar), .val (.int (Int32.ofNat (k + 1))), .unset] [(.long v), (.int (Int32.ofNat aa)), (.ref ar)])) _
    refine st18 _ ?_
    show Steps p.tables e below (T18.setTop (mkF m 124 #[.val (.long q0), .second, .val (.int p1), .val (.int p2), .val (.int p3), .val (.long v), .second, .val (.int (Int32.ofNat aa)), .val (.int ss), .val (.ref ar), .val (.int (Int32.ofNat (k + 1))), .unset] [(.int (Int32.ofNat (aa + k + 1)))])) _
    refine XS.istore X18.here hx rfl (hb hby at_124) rfl (l' := #[.val (.long q0), .second, .val (.int p1), .val (.int p2), .val (.int p3), .val (.long v), .second, .val (.int (Int32.ofNat aa)), .val (.int ss), .val (.ref ar), .val (.int (Int32.ofNat (k + 1))), .val (.int (Int32.ofNat (aa + k + 1)))]) rfl ?_
    show Steps p.tables e below (T18.setTop (mkF m 126 #[.val (.long q0), .second, .val (.int p1), .val (.int p2), .val (.int p3), .val (.long v), .second, .val (.int (Int32.ofNat aa)), .val (.int ss), .val (.ref ar), .val (.int (Int32.ofNat (k + 1))), .val (.int (Int32.ofNat (aa + k + 1)))] [])) _
    refine XS.iload X18.here hx rfl (hb hby at_126) rfl ?_
    show Steps p.tables e below (T18.setTop (mkF m 128 #[.val (.long q0), .second, .val (.int p1), .val (.int p2), .val (.int p3), .val (.long v), .second, .val (.int (Int32.ofNat aa)), .val (.int ss), .val (.ref ar), .val (.int (Int32.ofNat (k + 1))), .val (.int (Int32.ofNat (aa + k + 1)))] [(.int (Int32.ofNat (aa + k + 1)))])) _
    refine XS.iload X18.here hx rfl (hb hby at_128) rfl ?_
    show Steps p.tables e below (T18.setTop (mkF m 130 #[.val (.long q0), .second, .val (.int p1), .val (.int p2), .val (.int p3), .val (.long v), .second, .val (.int (Int32.ofNat aa)), .val (.int ss), .val (.ref ar), .val (.int (Int32.ofNat (k + 1))), .val (.int (Int32.ofNat (aa + k + 1)))] [(.int (Int32.ofNat aa)), (.int (Int32.ofNat (aa + k + 1)))])) _
    refine XS.iload X18.here hx rfl (hb hby at_130) rfl ?_
    show Steps p.tables e below (T18.setTop (mkF m 132 #[.val (.long q0), .second, .val (.int p1), .val (.int p2), .val (.int p3), .val (.long v), .second, .val (.int (Int32.ofNat aa)), .val (.int ss), .val (.ref ar), .val (.int (Int32.ofNat (k + 1))), .val (.int (Int32.ofNat (aa + k + 1)))] [(.int (Int32.ofNat (k + 1))), (.int (Int32.ofNat aa)), (.int (Int32.ofNat (aa + k + 1)))])) _
    refine XS.iadd X18.here hx rfl (hb hby at_132) rfl ?_
    show Steps p.tables e below (T18.setTop (mkF m 133 #[.val (.long q0), .second, .val (.int p1), .val (.int p2), .val (.int p3), .val (.long v), .second, .val (.int (Int32.ofNat aa)), .val (.int ss), .val (.ref ar), .val (.int (Int32.ofNat (k + 1))), .val (.int (Int32.ofNat (aa + k + 1)))] [(.int ((Int32.ofNat aa) + (Int32.ofNat (k + 1)))), (.int (Int32.ofNat (aa + k + 1)))])) _
    refine XS.icmpYes X18.here hx rfl (pc0 := 133) (pc' := 138) rfl (hb hby at_133) rfl (teq (own_sum aa k : (Int32.ofNat (aa + k + 1)) = ((Int32.ofNat aa) + (Int32.ofNat (k + 1))))).1 (by decide) (by decide) ?_
    show Steps p.tables e below (T18.setTop (mkF m 138 #[.val (.long q0), .second, .val (.int p1), .val (.int p2), .val (.int p3), .val (.long v), .second, .val (.int (Int32.ofNat aa)), .val (.int ss), .val (.ref ar), .val (.int (Int32.ofNat (k + 1))), .val (.int (Int32.ofNat (aa + k + 1)))] [])) _
    refine XS.aload X18.here hx rfl (hb hby at_138) rfl rfl ?_
    show Steps p.tables e below (T18.setTop (mkF m 140 #[.val (.long q0), .second, .val (.int p1), .val (.int p2), .val (.int p3), .val (.long v), .second, .val (.int (Int32.ofNat aa)), .val (.int ss), .val (.ref ar), .val (.int (Int32.ofNat (k + 1))), .val (.int (Int32.ofNat (aa + k + 1)))] [(.ref ar)])) _
    refine XS.iconst X18.here hx rfl (hb hby at_140) ?_
    show Steps p.tables e below (T18.setTop (mkF m 141 #[.val (.long q0), .second, .val (.int p1), .val (.int p2), .val (.int p3), .val (.long v), .second, .val (.int (Int32.ofNat aa)), .val (.int ss), .val (.ref ar), .val (.int (Int32.ofNat (k + 1))), .val (.int (Int32.ofNat (aa + k + 1)))] [(.int (0 : Int32)), (.ref ar)])) _
    refine XS.iload X18.here hx rfl (hb hby at_141) rfl ?_
    show Steps p.tables e below (T18.setTop (mkF m 143 #[.val (.long q0), .second, .val (.int p1), .val (.int p2), .val (.int p3), .val (.long v), .second, .val (.int (Int32.ofNat aa)), .val (.int ss), .val (.ref ar), .val (.int (Int32.ofNat (k + 1))), .val (.int (Int32.ofNat (aa + k + 1)))] [(.int (Int32.ofNat aa)), (.int (0 : Int32)), (.ref ar)])) _
    refine XS.iload X18.here hx rfl (hb hby at_143) rfl ?_
    show Steps p.tables e below (T18.setTop (mkF m 145 #[.val (.long q0), .second, .val (.int p1), .val (.int p2), .val (.int p3), .val (.long v), .second, .val (.int (Int32.ofNat aa)), .val (.int ss), .val (.ref ar), .val (.int (Int32.ofNat (k + 1))), .val (.int (Int32.ofNat (aa + k + 1)))] [(.int (Int32.ofNat (k + 1))), (.int (Int32.ofNat aa)), (.int (0 : Int32)), (.ref ar)])) _
    refine XS.lload X18.here hx rfl (hb hby at_145) rfl ?_
    show Steps p.tables e below (T18.setTop (mkF m 147 #[.val (.long q0), .second, .val (.int p1), .val (.int p2), .val (.int p3), .val (.long v), .second, .val (.int (Int32.ofNat aa)), .val (.int ss), .val (.ref ar), .val (.int (Int32.ofNat (k + 1))), .val (.int (Int32.ofNat (aa + k + 1)))] [(.long v), (.int (Int32.ofNat (k + 1))), (.int (Int32.ofNat aa)), (.int (0 : Int32)), (.ref ar)])) _
    refine XS.iload X18.here hx rfl (hb hby at_147) rfl ?_
    show Steps p.tables e below (T18.setTop (mkF m 149 #[.val (.long q0), .second, .val (.int p1), .val (.int p2), .val (.int p3), .val (.long v), .second, .val (.int (Int32.ofNat aa)), .val (.int ss), .val (.ref ar), .val (.int (Int32.ofNat (k + 1))), .val (.int (Int32.ofNat (aa + k + 1)))] [(.int ss), (.long v), (.int (Int32.ofNat (k + 1))), (.int (Int32.ofNat aa)), (.int (0 : Int32)), (.ref ar)])) _
    refine st19 _ ?_
    show Steps p.tables e below (T19.setTop (mkF m 152 #[.val (.long q0), .second, .val (.int p1), .val (.int p2), .val (.int p3), .val (.long v), .second, .val (.int (Int32.ofNat aa)), .val (.int ss), .val (.ref ar), .val (.int (Int32.ofNat (k + 1))), .val (.int (Int32.ofNat (aa + k + 1)))] [(.int (own_okf (0 : Int32) (Int32.ofNat aa) (Int32.ofNat (k + 1)) v ss (own_val k v aa ss 0)))])) _
    rw [← h_o0]
    show Steps p.tables e below (T19.setTop (mkF m 152 #[.val (.long q0), .second, .val (.int p1), .val (.int p2), .val (.int p3), .val (.long v), .second, .val (.int (Int32.ofNat aa)), .val (.int ss), .val (.ref ar), .val (.int (Int32.ofNat (k + 1))), .val (.int (Int32.ofNat (aa + k + 1)))] [(.int o0)])) _
    refine XS.ifNo X19.here hx rfl (hb hby at_152) rfl ((if0 _ _).trans (feq (by rw [h_o0]; exact own_ok k v aa ss 0 haa hk9 (by decide) hT (h_ss ▸ own_ss p3) : ¬ (o0 = (0 : Int32)))).1) ?_
    show Steps p.tables e below (T19.setTop (mkF m 155 #[.val (.long q0), .second, .val (.int p1), .val (.int p2), .val (.int p3), .val (.long v), .second, .val (.int (Int32.ofNat aa)), .val (.int ss), .val (.ref ar), .val (.int (Int32.ofNat (k + 1))), .val (.int (Int32.ofNat (aa + k + 1)))] [])) _
    refine XS.aload X19.here hx rfl (hb hby at_155) rfl rfl ?_
    show Steps p.tables e below (T19.setTop (mkF m 157 #[.val (.long q0), .second, .val (.int p1), .val (.int p2), .val (.int p3), .val (.long v), .second, .val (.int (Int32.ofNat aa)), .val (.int ss), .val (.ref ar), .val (.int (Int32.ofNat (k + 1))), .val (.int (Int32.ofNat (aa + k + 1)))] [(.ref ar)])) _
    refine XS.iconst X19.here hx rfl (hb hby at_157) ?_
    show Steps p.tables e below (T19.setTop (mkF m 158 #[.val (.long q0), .second, .val (.int p1), .val (.int p2), .val (.int p3), .val (.long v), .second, .val (.int (Int32.ofNat aa)), .val (.int ss), .val (.ref ar), .val (.int (Int32.ofNat (k + 1))), .val (.int (Int32.ofNat (aa + k + 1)))] [(.int (1 : Int32)), (.ref ar)])) _
    refine XS.iload X19.here hx rfl (hb hby at_158) rfl ?_
    show Steps p.tables e below (T19.setTop (mkF m 160 #[.val (.long q0), .second, .val (.int p1), .val (.int p2), .val (.int p3), .val (.long v), .second, .val (.int (Int32.ofNat aa)), .val (.int ss), .val (.ref ar), .val (.int (Int32.ofNat (k + 1))), .val (.int (Int32.ofNat (aa + k + 1)))] [(.int (Int32.ofNat aa)), (.int (1 : Int32)), (.ref ar)])) _
    refine XS.iload X19.here hx rfl (hb hby at_160) rfl ?_
    show Steps p.tables e below (T19.setTop (mkF m 162 #[.val (.long q0), .second, .val (.int p1), .val (.int p2), .val (.int p3), .val (.long v), .second, .val (.int (Int32.ofNat aa)), .val (.int ss), .val (.ref ar), .val (.int (Int32.ofNat (k + 1))), .val (.int (Int32.ofNat (aa + k + 1)))] [(.int (Int32.ofNat (k + 1))), (.int (Int32.ofNat aa)), (.int (1 : Int32)), (.ref ar)])) _
    refine XS.lload X19.here hx rfl (hb hby at_162) rfl ?_
    show Steps p.tables e below (T19.setTop (mkF m 164 #[.val (.long q0), .second, .val (.int p1), .val (.int p2), .val (.int p3), .val (.long v), .second, .val (.int (Int32.ofNat aa)), .val (.int ss), .val (.ref ar), .val (.int (Int32.ofNat (k + 1))), .val (.int (Int32.ofNat (aa + k + 1)))] [(.long v), (.int (Int32.ofNat (k + 1))), (.int (Int32.ofNat aa)), (.int (1 : Int32)), (.ref ar)])) _
    refine XS.iload X19.here hx rfl (hb hby at_164) rfl ?_
    show Steps p.tables e below (T19.setTop (mkF m 166 #[.val (.long q0), .second, .val (.int p1), .val (.int p2), .val (.int p3), .val (.long v), .second, .val (.int (Int32.ofNat aa)), .val (.int ss), .val (.ref ar), .val (.int (Int32.ofNat (k + 1))), .val (.int (Int32.ofNat (aa + k + 1)))] [(.int ss), (.long v), (.int (Int32.ofNat (k + 1))), (.int (Int32.ofNat aa)), (.int (1 : Int32)), (.ref ar)])) _
    refine st20 _ ?_
    show Steps p.tables e below (T20.setTop (mkF m 169 #[.val (.long q0), .second, .val (.int p1), .val (.int p2), .val (.int p3), .val (.long v), .second, .val (.int (Int32.ofNat aa)), .val (.int ss), .val (.ref ar), .val (.int (Int32.ofNat (k + 1))), .val (.int (Int32.ofNat (aa + k + 1)))] [(.int (own_okf (1 : Int32) (Int32.ofNat aa) (Int32.ofNat (k + 1)) v ss (own_val k v aa ss 1)))])) _
    rw [← h_o1]
    show Steps p.tables e below (T20.setTop (mkF m 169 #[.val (.long q0), .second, .val (.int p1), .val (.int p2), .val (.int p3), .val (.long v), .second, .val (.int (Int32.ofNat aa)), .val (.int ss), .val (.ref ar), .val (.int (Int32.ofNat (k + 1))), .val (.int (Int32.ofNat (aa + k + 1)))] [(.int o1)])) _
    refine XS.ifNo X20.here hx rfl (hb hby at_169) rfl ((if0 _ _).trans (feq (by rw [h_o1]; exact own_ok k v aa ss 1 haa hk9 (by decide) hT (h_ss ▸ own_ss p3) : ¬ (o1 = (0 : Int32)))).1) ?_
    show Steps p.tables e below (T20.setTop (mkF m 172 #[.val (.long q0), .second, .val (.int p1), .val (.int p2), .val (.int p3), .val (.long v), .second, .val (.int (Int32.ofNat aa)), .val (.int ss), .val (.ref ar), .val (.int (Int32.ofNat (k + 1))), .val (.int (Int32.ofNat (aa + k + 1)))] [])) _
    refine XS.aload X20.here hx rfl (hb hby at_172) rfl rfl ?_
    show Steps p.tables e below (T20.setTop (mkF m 174 #[.val (.long q0), .second, .val (.int p1), .val (.int p2), .val (.int p3), .val (.long v), .second, .val (.int (Int32.ofNat aa)), .val (.int ss), .val (.ref ar), .val (.int (Int32.ofNat (k + 1))), .val (.int (Int32.ofNat (aa + k + 1)))] [(.ref ar)])) _
    refine XS.iconst X20.here hx rfl (hb hby at_174) ?_
    show Steps p.tables e below (T20.setTop (mkF m 175 #[.val (.long q0), .second, .val (.int p1), .val (.int p2), .val (.int p3), .val (.long v), .second, .val (.int (Int32.ofNat aa)), .val (.int ss), .val (.ref ar), .val (.int (Int32.ofNat (k + 1))), .val (.int (Int32.ofNat (aa + k + 1)))] [(.int (2 : Int32)), (.ref ar)])) _
    refine XS.iload X20.here hx rfl (hb hby at_175) rfl ?_
    show Steps p.tables e below (T20.setTop (mkF m 177 #[.val (.long q0), .second, .val (.int p1), .val (.int p2), .val (.int p3), .val (.long v), .second, .val (.int (Int32.ofNat aa)), .val (.int ss), .val (.ref ar), .val (.int (Int32.ofNat (k + 1))), .val (.int (Int32.ofNat (aa + k + 1)))] [(.int (Int32.ofNat aa)), (.int (2 : Int32)), (.ref ar)])) _
    refine XS.iload X20.here hx rfl (hb hby at_177) rfl ?_
    show Steps p.tables e below (T20.setTop (mkF m 179 #[.val (.long q0), .second, .val (.int p1), .val (.int p2), .val (.int p3), .val (.long v), .second, .val (.int (Int32.ofNat aa)), .val (.int ss), .val (.ref ar), .val (.int (Int32.ofNat (k + 1))), .val (.int (Int32.ofNat (aa + k + 1)))] [(.int (Int32.ofNat (k + 1))), (.int (Int32.ofNat aa)), (.int (2 : Int32)), (.ref ar)])) _
    refine XS.lload X20.here hx rfl (hb hby at_179) rfl ?_
    show Steps p.tables e below (T20.setTop (mkF m 181 #[.val (.long q0), .second, .val (.int p1), .val (.int p2), .val (.int p3), .val (.long v), .second, .val (.int (Int32.ofNat aa)), .val (.int ss), .val (.ref ar), .val (.int (Int32.ofNat (k + 1))), .val (.int (Int32.ofNat (aa + k + 1)))] [(.long v), (.int (Int32.ofNat (k + 1))), (.int (Int32.ofNat aa)), (.int (2 : Int32)), (.ref ar)])) _
    refine XS.iload X20.here hx rfl (hb hby at_181) rfl ?_
    show Steps p.tables e below (T20.setTop (mkF m 183 #[.val (.long q0), .second, .val (.int p1), .val (.int p2), .val (.int p3), .val (.long v), .second, .val (.int (Int32.ofNat aa)), .val (.int ss), .val (.ref ar), .val (.int (Int32.ofNat (k + 1))), .val (.int (Int32.ofNat (aa + k + 1)))] [(.int ss), (.long v), (.int (Int32.ofNat (k + 1))), (.int (Int32.ofNat aa)), (.int (2 : Int32)), (.ref ar)])) _
    refine st21 _ ?_
    show Steps p.tables e below (T21.setTop (mkF m 186 #[.val (.long q0), .second, .val (.int p1), .val (.int p2), .val (.int p3), .val (.long v), .second, .val (.int (Int32.ofNat aa)), .val (.int ss), .val (.ref ar), .val (.int (Int32.ofNat (k + 1))), .val (.int (Int32.ofNat (aa + k + 1)))] [(.int (own_okf (2 : Int32) (Int32.ofNat aa) (Int32.ofNat (k + 1)) v ss (own_val k v aa ss 2)))])) _
    rw [← h_o2]
    show Steps p.tables e below (T21.setTop (mkF m 186 #[.val (.long q0), .second, .val (.int p1), .val (.int p2), .val (.int p3), .val (.long v), .second, .val (.int (Int32.ofNat aa)), .val (.int ss), .val (.ref ar), .val (.int (Int32.ofNat (k + 1))), .val (.int (Int32.ofNat (aa + k + 1)))] [(.int o2)])) _
    refine XS.ifNo X21.here hx rfl (hb hby at_186) rfl ((if0 _ _).trans (feq (by rw [h_o2]; exact own_ok k v aa ss 2 haa hk9 (by decide) hT (h_ss ▸ own_ss p3) : ¬ (o2 = (0 : Int32)))).1) ?_
    show Steps p.tables e below (T21.setTop (mkF m 189 #[.val (.long q0), .second, .val (.int p1), .val (.int p2), .val (.int p3), .val (.long v), .second, .val (.int (Int32.ofNat aa)), .val (.int ss), .val (.ref ar), .val (.int (Int32.ofNat (k + 1))), .val (.int (Int32.ofNat (aa + k + 1)))] [])) _
    refine XS.aload X21.here hx rfl (hb hby at_189) rfl rfl ?_
    show Steps p.tables e below (T21.setTop (mkF m 191 #[.val (.long q0), .second, .val (.int p1), .val (.int p2), .val (.int p3), .val (.long v), .second, .val (.int (Int32.ofNat aa)), .val (.int ss), .val (.ref ar), .val (.int (Int32.ofNat (k + 1))), .val (.int (Int32.ofNat (aa + k + 1)))] [(.ref ar)])) _
    refine XS.iconst X21.here hx rfl (hb hby at_191) ?_
    show Steps p.tables e below (T21.setTop (mkF m 192 #[.val (.long q0), .second, .val (.int p1), .val (.int p2), .val (.int p3), .val (.long v), .second, .val (.int (Int32.ofNat aa)), .val (.int ss), .val (.ref ar), .val (.int (Int32.ofNat (k + 1))), .val (.int (Int32.ofNat (aa + k + 1)))] [(.int (3 : Int32)), (.ref ar)])) _
    refine XS.iload X21.here hx rfl (hb hby at_192) rfl ?_
    show Steps p.tables e below (T21.setTop (mkF m 194 #[.val (.long q0), .second, .val (.int p1), .val (.int p2), .val (.int p3), .val (.long v), .second, .val (.int (Int32.ofNat aa)), .val (.int ss), .val (.ref ar), .val (.int (Int32.ofNat (k + 1))), .val (.int (Int32.ofNat (aa + k + 1)))] [(.int (Int32.ofNat aa)), (.int (3 : Int32)), (.ref ar)])) _
    refine XS.iload X21.here hx rfl (hb hby at_194) rfl ?_
    show Steps p.tables e below (T21.setTop (mkF m 196 #[.val (.long q0), .second, .val (.int p1), .val (.int p2), .val (.int p3), .val (.long v), .second, .val (.int (Int32.ofNat aa)), .val (.int ss), .val (.ref ar), .val (.int (Int32.ofNat (k + 1))), .val (.int (Int32.ofNat (aa + k + 1)))] [(.int (Int32.ofNat (k + 1))), (.int (Int32.ofNat aa)), (.int (3 : Int32)), (.ref ar)])) _
    refine XS.lload X21.here hx rfl (hb hby at_196) rfl ?_
    show Steps p.tables e below (T21.setTop (mkF m 198 #[.val (.long q0), .second, .val (.int p1), .val (.int p2), .val (.int p3), .val (.long v), .second, .val (.int (Int32.ofNat aa)), .val (.int ss), .val (.ref ar), .val (.int (Int32.ofNat (k + 1))), .val (.int (Int32.ofNat (aa + k + 1)))] [(.long v), (.int (Int32.ofNat (k + 1))), (.int (Int32.ofNat aa)), (.int (3 : Int32)), (.ref ar)])) _
    refine XS.iload X21.here hx rfl (hb hby at_198) rfl ?_
    show Steps p.tables e below (T21.setTop (mkF m 200 #[.val (.long q0), .second, .val (.int p1), .val (.int p2), .val (.int p3), .val (.long v), .second, .val (.int (Int32.ofNat aa)), .val (.int ss), .val (.ref ar), .val (.int (Int32.ofNat (k + 1))), .val (.int (Int32.ofNat (aa + k + 1)))] [(.int ss), (.long v), (.int (Int32.ofNat (k + 1))), (.int (Int32.ofNat aa)), (.int (3 : Int32)), (.ref ar)])) _
    refine st22 _ ?_
    show Steps p.tables e below (T22.setTop (mkF m 203 #[.val (.long q0), .second, .val (.int p1), .val (.int p2), .val (.int p3), .val (.long v), .second, .val (.int (Int32.ofNat aa)), .val (.int ss), .val (.ref ar), .val (.int (Int32.ofNat (k + 1))), .val (.int (Int32.ofNat (aa + k + 1)))] [(.int (own_okf (3 : Int32) (Int32.ofNat aa) (Int32.ofNat (k + 1)) v ss (own_val k v aa ss 3)))])) _
    rw [← h_o3]
    show Steps p.tables e below (T22.setTop (mkF m 203 #[.val (.long q0), .second, .val (.int p1), .val (.int p2), .val (.int p3), .val (.long v), .second, .val (.int (Int32.ofNat aa)), .val (.int ss), .val (.ref ar), .val (.int (Int32.ofNat (k + 1))), .val (.int (Int32.ofNat (aa + k + 1)))] [(.int o3)])) _
    refine XS.ifNo X22.here hx rfl (hb hby at_203) rfl ((if0 _ _).trans (feq (by rw [h_o3]; exact own_ok k v aa ss 3 haa hk9 (by decide) hT (h_ss ▸ own_ss p3) : ¬ (o3 = (0 : Int32)))).1) ?_
    show Steps p.tables e below (T22.setTop (mkF m 206 #[.val (.long q0), .second, .val (.int p1), .val (.int p2), .val (.int p3), .val (.long v), .second, .val (.int (Int32.ofNat aa)), .val (.int ss), .val (.ref ar), .val (.int (Int32.ofNat (k + 1))), .val (.int (Int32.ofNat (aa + k + 1)))] [])) _
    refine XS.aload X22.here hx rfl (hb hby at_206) rfl rfl ?_
    show Steps p.tables e below (T22.setTop (mkF m 208 #[.val (.long q0), .second, .val (.int p1), .val (.int p2), .val (.int p3), .val (.long v), .second, .val (.int (Int32.ofNat aa)), .val (.int ss), .val (.ref ar), .val (.int (Int32.ofNat (k + 1))), .val (.int (Int32.ofNat (aa + k + 1)))] [(.ref ar)])) _
    refine XS.iconst X22.here hx rfl (hb hby at_208) ?_
    show Steps p.tables e below (T22.setTop (mkF m 209 #[.val (.long q0), .second, .val (.int p1), .val (.int p2), .val (.int p3), .val (.long v), .second, .val (.int (Int32.ofNat aa)), .val (.int ss), .val (.ref ar), .val (.int (Int32.ofNat (k + 1))), .val (.int (Int32.ofNat (aa + k + 1)))] [(.int (4 : Int32)), (.ref ar)])) _
    refine XS.iload X22.here hx rfl (hb hby at_209) rfl ?_
    show Steps p.tables e below (T22.setTop (mkF m 211 #[.val (.long q0), .second, .val (.int p1), .val (.int p2), .val (.int p3), .val (.long v), .second, .val (.int (Int32.ofNat aa)), .val (.int ss), .val (.ref ar), .val (.int (Int32.ofNat (k + 1))), .val (.int (Int32.ofNat (aa + k + 1)))] [(.int (Int32.ofNat aa)), (.int (4 : Int32)), (.ref ar)])) _
    refine XS.iload X22.here hx rfl (hb hby at_211) rfl ?_
    show Steps p.tables e below (T22.setTop (mkF m 213 #[.val (.long q0), .second, .val (.int p1), .val (.int p2), .val (.int p3), .val (.long v), .second, .val (.int (Int32.ofNat aa)), .val (.int ss), .val (.ref ar), .val (.int (Int32.ofNat (k + 1))), .val (.int (Int32.ofNat (aa + k + 1)))] [(.int (Int32.ofNat (k + 1))), (.int (Int32.ofNat aa)), (.int (4 : Int32)), (.ref ar)])) _
    refine XS.lload X22.here hx rfl (hb hby at_213) rfl ?_
    show Steps p.tables e below (T22.setTop (mkF m 215 #[.val (.long q0), .second, .val (.int p1), .val (.int p2), .val (.int p3), .val (.long v), .second, .val (.int (Int32.ofNat aa)), .val (.int ss), .val (.ref ar), .val (.int (Int32.ofNat (k + 1))), .val (.int (Int32.ofNat (aa + k + 1)))] [(.long v), (.int (Int32.ofNat (k + 1))), (.int (Int32.ofNat aa)), (.int (4 : Int32)), (.ref ar)])) _
    refine XS.iload X22.here hx rfl (hb hby at_215) rfl ?_
    show Steps p.tables e below (T22.setTop (mkF m 217 #[.val (.long q0), .second, .val (.int p1), .val (.int p2), .val (.int p3), .val (.long v), .second, .val (.int (Int32.ofNat aa)), .val (.int ss), .val (.ref ar), .val (.int (Int32.ofNat (k + 1))), .val (.int (Int32.ofNat (aa + k + 1)))] [(.int ss), (.long v), (.int (Int32.ofNat (k + 1))), (.int (Int32.ofNat aa)), (.int (4 : Int32)), (.ref ar)])) _
    refine st23 _ ?_
    show Steps p.tables e below (T23.setTop (mkF m 220 #[.val (.long q0), .second, .val (.int p1), .val (.int p2), .val (.int p3), .val (.long v), .second, .val (.int (Int32.ofNat aa)), .val (.int ss), .val (.ref ar), .val (.int (Int32.ofNat (k + 1))), .val (.int (Int32.ofNat (aa + k + 1)))] [(.int (own_okf (4 : Int32) (Int32.ofNat aa) (Int32.ofNat (k + 1)) v ss (own_val k v aa ss 4)))])) _
    rw [← h_o4]
    show Steps p.tables e below (T23.setTop (mkF m 220 #[.val (.long q0), .second, .val (.int p1), .val (.int p2), .val (.int p3), .val (.long v), .second, .val (.int (Int32.ofNat aa)), .val (.int ss), .val (.ref ar), .val (.int (Int32.ofNat (k + 1))), .val (.int (Int32.ofNat (aa + k + 1)))] [(.int o4)])) _
    refine XS.ifNo X23.here hx rfl (hb hby at_220) rfl ((if0 _ _).trans (feq (by rw [h_o4]; exact own_ok k v aa ss 4 haa hk9 (by decide) hT (h_ss ▸ own_ss p3) : ¬ (o4 = (0 : Int32)))).1) ?_
    show Steps p.tables e below (T23.setTop (mkF m 223 #[.val (.long q0), .second, .val (.int p1), .val (.int p2), .val (.int p3), .val (.long v), .second, .val (.int (Int32.ofNat aa)), .val (.int ss), .val (.ref ar), .val (.int (Int32.ofNat (k + 1))), .val (.int (Int32.ofNat (aa + k + 1)))] [])) _
    refine XS.aload X23.here hx rfl (hb hby at_223) rfl rfl ?_
    show Steps p.tables e below (T23.setTop (mkF m 225 #[.val (.long q0), .second, .val (.int p1), .val (.int p2), .val (.int p3), .val (.long v), .second, .val (.int (Int32.ofNat aa)), .val (.int ss), .val (.ref ar), .val (.int (Int32.ofNat (k + 1))), .val (.int (Int32.ofNat (aa + k + 1)))] [(.ref ar)])) _
    refine XS.iconst X23.here hx rfl (hb hby at_225) ?_
    show Steps p.tables e below (T23.setTop (mkF m 226 #[.val (.long q0), .second, .val (.int p1), .val (.int p2), .val (.int p3), .val (.long v), .second, .val (.int (Int32.ofNat aa)), .val (.int ss), .val (.ref ar), .val (.int (Int32.ofNat (k + 1))), .val (.int (Int32.ofNat (aa + k + 1)))] [(.int (5 : Int32)), (.ref ar)])) _
    refine XS.iload X23.here hx rfl (hb hby at_226) rfl ?_
    show Steps p.tables e below (T23.setTop (mkF m 228 #[.val (.long q0), .second, .val (.int p1), .val (.int p2), .val (.int p3), .val (.long v), .second, .val (.int (Int32.ofNat aa)), .val (.int ss), .val (.ref ar), .val (.int (Int32.ofNat (k + 1))), .val (.int (Int32.ofNat (aa + k + 1)))] [(.int (Int32.ofNat aa)), (.int (5 : Int32)), (.ref ar)])) _
    refine XS.iload X23.here hx rfl (hb hby at_228) rfl ?_
    show Steps p.tables e below (T23.setTop (mkF m 230 #[.val (.long q0), .second, .val (.int p1), .val (.int p2), .val (.int p3), .val (.long v), .second, .val (.int (Int32.ofNat aa)), .val (.int ss), .val (.ref ar), .val (.int (Int32.ofNat (k + 1))), .val (.int (Int32.ofNat (aa + k + 1)))] [(.int (Int32.ofNat (k + 1))), (.int (Int32.ofNat aa)), (.int (5 : Int32)), (.ref ar)])) _
    refine XS.lload X23.here hx rfl (hb hby at_230) rfl ?_
    show Steps p.tables e below (T23.setTop (mkF m 232 #[.val (.long q0), .second, .val (.int p1), .val (.int p2), .val (.int p3), .val (.long v), .second, .val (.int (Int32.ofNat aa)), .val (.int ss), .val (.ref ar), .val (.int (Int32.ofNat (k + 1))), .val (.int (Int32.ofNat (aa + k + 1)))] [(.long v), (.int (Int32.ofNat (k + 1))), (.int (Int32.ofNat aa)), (.int (5 : Int32)), (.ref ar)])) _
    refine XS.iload X23.here hx rfl (hb hby at_232) rfl ?_
    show Steps p.tables e below (T23.setTop (mkF m 234 #[.val (.long q0), .second, .val (.int p1), .val (.int p2), .val (.int p3), .val (.long v), .second, .val (.int (Int32.ofNat aa)), .val (.int ss), .val (.ref ar), .val (.int (Int32.ofNat (k + 1))), .val (.int (Int32.ofNat (aa + k + 1)))] [(.int ss), (.long v), (.int (Int32.ofNat (k + 1))), (.int (Int32.ofNat aa)), (.int (5 : Int32)), (.ref ar)])) _
    refine st24 _ ?_
    show Steps p.tables e below (T24.setTop (mkF m 237 #[.val (.long q0), .second, .val (.int p1), .val (.int p2), .val (.int p3), .val (.long v), .second, .val (.int (Int32.ofNat aa)), .val (.int ss), .val (.ref ar), .val (.int (Int32.ofNat (k + 1))), .val (.int (Int32.ofNat (aa + k + 1)))] [(.int (own_okf (5 : Int32) (Int32.ofNat aa) (Int32.ofNat (k + 1)) v ss (own_val k v aa ss 5)))])) _
    rw [← h_o5]
    show Steps p.tables e below (T24.setTop (mkF m 237 #[.val (.long q0), .second, .val (.int p1), .val (.int p2), .val (.int p3), .val (.long v), .second, .val (.int (Int32.ofNat aa)), .val (.int ss), .val (.ref ar), .val (.int (Int32.ofNat (k + 1))), .val (.int (Int32.ofNat (aa + k + 1)))] [(.int o5)])) _
    refine XS.ifNo X24.here hx rfl (hb hby at_237) rfl ((if0 _ _).trans (feq (by rw [h_o5]; exact own_ok k v aa ss 5 haa hk9 (by decide) hT (h_ss ▸ own_ss p3) : ¬ (o5 = (0 : Int32)))).1) ?_
    show Steps p.tables e below (T24.setTop (mkF m 240 #[.val (.long q0), .second, .val (.int p1), .val (.int p2), .val (.int p3), .val (.long v), .second, .val (.int (Int32.ofNat aa)), .val (.int ss), .val (.ref ar), .val (.int (Int32.ofNat (k + 1))), .val (.int (Int32.ofNat (aa + k + 1)))] [])) _
    refine XS.aload X24.here hx rfl (hb hby at_240) rfl rfl ?_
    show Steps p.tables e below (T24.setTop (mkF m 242 #[.val (.long q0), .second, .val (.int p1), .val (.int p2), .val (.int p3), .val (.long v), .second, .val (.int (Int32.ofNat aa)), .val (.int ss), .val (.ref ar), .val (.int (Int32.ofNat (k + 1))), .val (.int (Int32.ofNat (aa + k + 1)))] [(.ref ar)])) _
    refine XS.bipush X24.here hx rfl (hb hby at_242) ?_
    show Steps p.tables e below (T24.setTop (mkF m 244 #[.val (.long q0), .second, .val (.int p1), .val (.int p2), .val (.int p3), .val (.long v), .second, .val (.int (Int32.ofNat aa)), .val (.int ss), .val (.ref ar), .val (.int (Int32.ofNat (k + 1))), .val (.int (Int32.ofNat (aa + k + 1)))] [(.int (6 : Int32)), (.ref ar)])) _
    refine XS.iload X24.here hx rfl (hb hby at_244) rfl ?_
    show Steps p.tables e below (T24.setTop (mkF m 246 #[.val (.long q0), .second, .val (.int p1), .val (.int p2), .val (.int p3), .val (.long v), .second, .val (.int (Int32.ofNat aa)), .val (.int ss), .val (.ref ar), .val (.int (Int32.ofNat (k + 1))), .val (.int (Int32.ofNat (aa + k + 1)))] [(.int (Int32.ofNat aa)), (.int (6 : Int32)), (.ref ar)])) _
    refine XS.iload X24.here hx rfl (hb hby at_246) rfl ?_
    show Steps p.tables e below (T24.setTop (mkF m 248 #[.val (.long q0), .second, .val (.int p1), .val (.int p2), .val (.int p3), .val (.long v), .second, .val (.int (Int32.ofNat aa)), .val (.int ss), .val (.ref ar), .val (.int (Int32.ofNat (k + 1))), .val (.int (Int32.ofNat (aa + k + 1)))] [(.int (Int32.ofNat (k + 1))), (.int (Int32.ofNat aa)), (.int (6 : Int32)), (.ref ar)])) _
    refine XS.lload X24.here hx rfl (hb hby at_248) rfl ?_
    show Steps p.tables e below (T24.setTop (mkF m 250 #[.val (.long q0), .second, .val (.int p1), .val (.int p2), .val (.int p3), .val (.long v), .second, .val (.int (Int32.ofNat aa)), .val (.int ss), .val (.ref ar), .val (.int (Int32.ofNat (k + 1))), .val (.int (Int32.ofNat (aa + k + 1)))] [(.long v), (.int (Int32.ofNat (k + 1))), (.int (Int32.ofNat aa)), (.int (6 : Int32)), (.ref ar)])) _
    refine XS.iload X24.here hx rfl (hb hby at_250) rfl ?_
    show Steps p.tables e below (T24.setTop (mkF m 252 #[.val (.long q0), .second, .val (.int p1), .val (.int p2), .val (.int p3), .val (.long v), .second, .val (.int (Int32.ofNat aa)), .val (.int ss), .val (.ref ar), .val (.int (Int32.ofNat (k + 1))), .val (.int (Int32.ofNat (aa + k + 1)))] [(.int ss), (.long v), (.int (Int32.ofNat (k + 1))), (.int (Int32.ofNat aa)), (.int (6 : Int32)), (.ref ar)])) _
    refine st25 _ ?_
    show Steps p.tables e below (T25.setTop (mkF m 255 #[.val (.long q0), .second, .val (.int p1), .val (.int p2), .val (.int p3), .val (.long v), .second, .val (.int (Int32.ofNat aa)), .val (.int ss), .val (.ref ar), .val (.int (Int32.ofNat (k + 1))), .val (.int (Int32.ofNat (aa + k + 1)))] [(.int (own_okf (6 : Int32) (Int32.ofNat aa) (Int32.ofNat (k + 1)) v ss (own_val k v aa ss 6)))])) _
    rw [← h_o6]
    show Steps p.tables e below (T25.setTop (mkF m 255 #[.val (.long q0), .second, .val (.int p1), .val (.int p2), .val (.int p3), .val (.long v), .second, .val (.int (Int32.ofNat aa)), .val (.int ss), .val (.ref ar), .val (.int (Int32.ofNat (k + 1))), .val (.int (Int32.ofNat (aa + k + 1)))] [(.int o6)])) _
    refine XS.ifNo X25.here hx rfl (hb hby at_255) rfl ((if0 _ _).trans (feq (by rw [h_o6]; exact own_ok k v aa ss 6 haa hk9 (by decide) hT (h_ss ▸ own_ss p3) : ¬ (o6 = (0 : Int32)))).1) ?_
    show Steps p.tables e below (T25.setTop (mkF m 258 #[.val (.long q0), .second, .val (.int p1), .val (.int p2), .val (.int p3), .val (.long v), .second, .val (.int (Int32.ofNat aa)), .val (.int ss), .val (.ref ar), .val (.int (Int32.ofNat (k + 1))), .val (.int (Int32.ofNat (aa + k + 1)))] [])) _
    refine XS.aload X25.here hx rfl (hb hby at_258) rfl rfl ?_
    show Steps p.tables e below (T25.setTop (mkF m 260 #[.val (.long q0), .second, .val (.int p1), .val (.int p2), .val (.int p3), .val (.long v), .second, .val (.int (Int32.ofNat aa)), .val (.int ss), .val (.ref ar), .val (.int (Int32.ofNat (k + 1))), .val (.int (Int32.ofNat (aa + k + 1)))] [(.ref ar)])) _
    refine XS.bipush X25.here hx rfl (hb hby at_260) ?_
    show Steps p.tables e below (T25.setTop (mkF m 262 #[.val (.long q0), .second, .val (.int p1), .val (.int p2), .val (.int p3), .val (.long v), .second, .val (.int (Int32.ofNat aa)), .val (.int ss), .val (.ref ar), .val (.int (Int32.ofNat (k + 1))), .val (.int (Int32.ofNat (aa + k + 1)))] [(.int (7 : Int32)), (.ref ar)])) _
    refine XS.iload X25.here hx rfl (hb hby at_262) rfl ?_
    show Steps p.tables e below (T25.setTop (mkF m 264 #[.val (.long q0), .second, .val (.int p1), .val (.int p2), .val (.int p3), .val (.long v), .second, .val (.int (Int32.ofNat aa)), .val (.int ss), .val (.ref ar), .val (.int (Int32.ofNat (k + 1))), .val (.int (Int32.ofNat (aa + k + 1)))] [(.int (Int32.ofNat aa)), (.int (7 : Int32)), (.ref ar)])) _
    refine XS.iload X25.here hx rfl (hb hby at_264) rfl ?_
    show Steps p.tables e below (T25.setTop (mkF m 266 #[.val (.long q0), .second, .val (.int p1), .val (.int p2), .val (.int p3), .val (.long v), .second, .val (.int (Int32.ofNat aa)), .val (.int ss), .val (.ref ar), .val (.int (Int32.ofNat (k + 1))), .val (.int (Int32.ofNat (aa + k + 1)))] [(.int (Int32.ofNat (k + 1))), (.int (Int32.ofNat aa)), (.int (7 : Int32)), (.ref ar)])) _
    refine XS.lload X25.here hx rfl (hb hby at_266) rfl ?_
    show Steps p.tables e below (T25.setTop (mkF m 268 #[.val (.long q0), .second, .val (.int p1), .val (.int p2), .val (.int p3), .val (.long v), .second, .val (.int (Int32.ofNat aa)), .val (.int ss), .val (.ref ar), .val (.int (Int32.ofNat (k + 1))), .val (.int (Int32.ofNat (aa + k + 1)))] [(.long v), (.int (Int32.ofNat (k + 1))), (.int (Int32.ofNat aa)), (.int (7 : Int32)), (.ref ar)])) _
    refine XS.iload X25.here hx rfl (hb hby at_268) rfl ?_
    show Steps p.tables e below (T25.setTop (mkF m 270 #[.val (.long q0), .second, .val (.int p1), .val (.int p2), .val (.int p3), .val (.long v), .second, .val (.int (Int32.ofNat aa)), .val (.int ss), .val (.ref ar), .val (.int (Int32.ofNat (k + 1))), .val (.int (Int32.ofNat (aa + k + 1)))] [(.int ss), (.long v), (.int (Int32.ofNat (k + 1))), (.int (Int32.ofNat aa)), (.int (7 : Int32)), (.ref ar)])) _
    refine st26 _ ?_
    show Steps p.tables e below (T26.setTop (mkF m 273 #[.val (.long q0), .second, .val (.int p1), .val (.int p2), .val (.int p3), .val (.long v), .second, .val (.int (Int32.ofNat aa)), .val (.int ss), .val (.ref ar), .val (.int (Int32.ofNat (k + 1))), .val (.int (Int32.ofNat (aa + k + 1)))] [(.int (own_okf (7 : Int32) (Int32.ofNat aa) (Int32.ofNat (k + 1)) v ss (own_val k v aa ss 7)))])) _
    rw [← h_o7]
    show Steps p.tables e below (T26.setTop (mkF m 273 #[.val (.long q0), .second, .val (.int p1), .val (.int p2), .val (.int p3), .val (.long v), .second, .val (.int (Int32.ofNat aa)), .val (.int ss), .val (.ref ar), .val (.int (Int32.ofNat (k + 1))), .val (.int (Int32.ofNat (aa + k + 1)))] [(.int o7)])) _
    refine XS.ifNo X26.here hx rfl (hb hby at_273) rfl ((if0 _ _).trans (feq (by rw [h_o7]; exact own_ok k v aa ss 7 haa hk9 (by decide) hT (h_ss ▸ own_ss p3) : ¬ (o7 = (0 : Int32)))).1) ?_
    show Steps p.tables e below (T26.setTop (mkF m 276 #[.val (.long q0), .second, .val (.int p1), .val (.int p2), .val (.int p3), .val (.long v), .second, .val (.int (Int32.ofNat aa)), .val (.int ss), .val (.ref ar), .val (.int (Int32.ofNat (k + 1))), .val (.int (Int32.ofNat (aa + k + 1)))] [])) _
    refine XS.aload X26.here hx rfl (hb hby at_276) rfl rfl ?_
    show Steps p.tables e below (T26.setTop (mkF m 278 #[.val (.long q0), .second, .val (.int p1), .val (.int p2), .val (.int p3), .val (.long v), .second, .val (.int (Int32.ofNat aa)), .val (.int ss), .val (.ref ar), .val (.int (Int32.ofNat (k + 1))), .val (.int (Int32.ofNat (aa + k + 1)))] [(.ref ar)])) _
    refine XS.bipush X26.here hx rfl (hb hby at_278) ?_
    show Steps p.tables e below (T26.setTop (mkF m 280 #[.val (.long q0), .second, .val (.int p1), .val (.int p2), .val (.int p3), .val (.long v), .second, .val (.int (Int32.ofNat aa)), .val (.int ss), .val (.ref ar), .val (.int (Int32.ofNat (k + 1))), .val (.int (Int32.ofNat (aa + k + 1)))] [(.int (8 : Int32)), (.ref ar)])) _
    refine XS.iload X26.here hx rfl (hb hby at_280) rfl ?_
    show Steps p.tables e below (T26.setTop (mkF m 282 #[.val (.long q0), .second, .val (.int p1), .val (.int p2), .val (.int p3), .val (.long v), .second, .val (.int (Int32.ofNat aa)), .val (.int ss), .val (.ref ar), .val (.int (Int32.ofNat (k + 1))), .val (.int (Int32.ofNat (aa + k + 1)))] [(.int (Int32.ofNat aa)), (.int (8 : Int32)), (.ref ar)])) _
    refine XS.iload X26.here hx rfl (hb hby at_282) rfl ?_
    show Steps p.tables e below (T26.setTop (mkF m 284 #[.val (.long q0), .second, .val (.int p1), .val (.int p2), .val (.int p3), .val (.long v), .second, .val (.int (Int32.ofNat aa)), .val (.int ss), .val (.ref ar), .val (.int (Int32.ofNat (k + 1))), .val (.int (Int32.ofNat (aa + k + 1)))] [(.int (Int32.ofNat (k + 1))), (.int (Int32.ofNat aa)), (.int (8 : Int32)), (.ref ar)])) _
    refine XS.lload X26.here hx rfl (hb hby at_284) rfl ?_
    show Steps p.tables e below (T26.setTop (mkF m 286 #[.val (.long q0), .second, .val (.int p1), .val (.int p2), .val (.int p3), .val (.long v), .second, .val (.int (Int32.ofNat aa)), .val (.int ss), .val (.ref ar), .val (.int (Int32.ofNat (k + 1))), .val (.int (Int32.ofNat (aa + k + 1)))] [(.long v), (.int (Int32.ofNat (k + 1))), (.int (Int32.ofNat aa)), (.int (8 : Int32)), (.ref ar)])) _
    refine XS.iload X26.here hx rfl (hb hby at_286) rfl ?_
    show Steps p.tables e below (T26.setTop (mkF m 288 #[.val (.long q0), .second, .val (.int p1), .val (.int p2), .val (.int p3), .val (.long v), .second, .val (.int (Int32.ofNat aa)), .val (.int ss), .val (.ref ar), .val (.int (Int32.ofNat (k + 1))), .val (.int (Int32.ofNat (aa + k + 1)))] [(.int ss), (.long v), (.int (Int32.ofNat (k + 1))), (.int (Int32.ofNat aa)), (.int (8 : Int32)), (.ref ar)])) _
    refine st27 _ ?_
    show Steps p.tables e below (T27.setTop (mkF m 291 #[.val (.long q0), .second, .val (.int p1), .val (.int p2), .val (.int p3), .val (.long v), .second, .val (.int (Int32.ofNat aa)), .val (.int ss), .val (.ref ar), .val (.int (Int32.ofNat (k + 1))), .val (.int (Int32.ofNat (aa + k + 1)))] [(.int (own_okf (8 : Int32) (Int32.ofNat aa) (Int32.ofNat (k + 1)) v ss (own_val k v aa ss 8)))])) _
    rw [← h_o8]
    show Steps p.tables e below (T27.setTop (mkF m 291 #[.val (.long q0), .second, .val (.int p1), .val (.int p2), .val (.int p3), .val (.long v), .second, .val (.int (Int32.ofNat aa)), .val (.int ss), .val (.ref ar), .val (.int (Int32.ofNat (k + 1))), .val (.int (Int32.ofNat (aa + k + 1)))] [(.int o8)])) _
    refine XS.ifNo X27.here hx rfl (hb hby at_291) rfl ((if0 _ _).trans (feq (by rw [h_o8]; exact own_ok k v aa ss 8 haa hk9 (by decide) hT (h_ss ▸ own_ss p3) : ¬ (o8 = (0 : Int32)))).1) ?_
    show Steps p.tables e below (T27.setTop (mkF m 294 #[.val (.long q0), .second, .val (.int p1), .val (.int p2), .val (.int p3), .val (.long v), .second, .val (.int (Int32.ofNat aa)), .val (.int ss), .val (.ref ar), .val (.int (Int32.ofNat (k + 1))), .val (.int (Int32.ofNat (aa + k + 1)))] [])) _
    refine XS.aload X27.here hx rfl (hb hby at_294) rfl rfl ?_
    show Steps p.tables e below (T27.setTop (mkF m 296 #[.val (.long q0), .second, .val (.int p1), .val (.int p2), .val (.int p3), .val (.long v), .second, .val (.int (Int32.ofNat aa)), .val (.int ss), .val (.ref ar), .val (.int (Int32.ofNat (k + 1))), .val (.int (Int32.ofNat (aa + k + 1)))] [(.ref ar)])) _
    refine XS.bipush X27.here hx rfl (hb hby at_296) ?_
    show Steps p.tables e below (T27.setTop (mkF m 298 #[.val (.long q0), .second, .val (.int p1), .val (.int p2), .val (.int p3), .val (.long v), .second, .val (.int (Int32.ofNat aa)), .val (.int ss), .val (.ref ar), .val (.int (Int32.ofNat (k + 1))), .val (.int (Int32.ofNat (aa + k + 1)))] [(.int (9 : Int32)), (.ref ar)])) _
    refine XS.iload X27.here hx rfl (hb hby at_298) rfl ?_
    show Steps p.tables e below (T27.setTop (mkF m 300 #[.val (.long q0), .second, .val (.int p1), .val (.int p2), .val (.int p3), .val (.long v), .second, .val (.int (Int32.ofNat aa)), .val (.int ss), .val (.ref ar), .val (.int (Int32.ofNat (k + 1))), .val (.int (Int32.ofNat (aa + k + 1)))] [(.int (Int32.ofNat aa)), (.int (9 : Int32)), (.ref ar)])) _
    refine XS.iload X27.here hx rfl (hb hby at_300) rfl ?_
    show Steps p.tables e below (T27.setTop (mkF m 302 #[.val (.long q0), .second, .val (.int p1), .val (.int p2), .val (.int p3), .val (.long v), .second, .val (.int (Int32.ofNat aa)), .val (.int ss), .val (.ref ar), .val (.int (Int32.ofNat (k + 1))), .val (.int (Int32.ofNat (aa + k + 1)))] [(.int (Int32.ofNat (k + 1))), (.int (Int32.ofNat aa)), (.int (9 : Int32)), (.ref ar)])) _
    refine XS.lload X27.here hx rfl (hb hby at_302) rfl ?_
    show Steps p.tables e below (T27.setTop (mkF m 304 #[.val (.long q0), .second, .val (.int p1), .val (.int p2), .val (.int p3), .val (.long v), .second, .val (.int (Int32.ofNat aa)), .val (.int ss), .val (.ref ar), .val (.int (Int32.ofNat (k + 1))), .val (.int (Int32.ofNat (aa + k + 1)))] [(.long v), (.int (Int32.ofNat (k + 1))), (.int (Int32.ofNat aa)), (.int (9 : Int32)), (.ref ar)])) _
    refine XS.iload X27.here hx rfl (hb hby at_304) rfl ?_
    show Steps p.tables e below (T27.setTop (mkF m 306 #[.val (.long q0), .second, .val (.int p1), .val (.int p2), .val (.int p3), .val (.long v), .second, .val (.int (Int32.ofNat aa)), .val (.int ss), .val (.ref ar), .val (.int (Int32.ofNat (k + 1))), .val (.int (Int32.ofNat (aa + k + 1)))] [(.int ss), (.long v), (.int (Int32.ofNat (k + 1))), (.int (Int32.ofNat aa)), (.int (9 : Int32)), (.ref ar)])) _
    refine st28 _ ?_
    show Steps p.tables e below (T28.setTop (mkF m 309 #[.val (.long q0), .second, .val (.int p1), .val (.int p2), .val (.int p3), .val (.long v), .second, .val (.int (Int32.ofNat aa)), .val (.int ss), .val (.ref ar), .val (.int (Int32.ofNat (k + 1))), .val (.int (Int32.ofNat (aa + k + 1)))] [(.int (own_okf (9 : Int32) (Int32.ofNat aa) (Int32.ofNat (k + 1)) v ss (own_val k v aa ss 9)))])) _
    rw [← h_o9]
    show Steps p.tables e below (T28.setTop (mkF m 309 #[.val (.long q0), .second, .val (.int p1), .val (.int p2), .val (.int p3), .val (.long v), .second, .val (.int (Int32.ofNat aa)), .val (.int ss), .val (.ref ar), .val (.int (Int32.ofNat (k + 1))), .val (.int (Int32.ofNat (aa + k + 1)))] [(.int o9)])) _
    refine XS.ifNo X28.here hx rfl (hb hby at_309) rfl ((if0 _ _).trans (feq (by rw [h_o9]; exact own_ok k v aa ss 9 haa hk9 (by decide) hT (h_ss ▸ own_ss p3) : ¬ (o9 = (0 : Int32)))).1) ?_
    show Steps p.tables e below (T28.setTop (mkF m 312 #[.val (.long q0), .second, .val (.int p1), .val (.int p2), .val (.int p3), .val (.long v), .second, .val (.int (Int32.ofNat aa)), .val (.int ss), .val (.ref ar), .val (.int (Int32.ofNat (k + 1))), .val (.int (Int32.ofNat (aa + k + 1)))] [])) _
    refine XS.aload X28.here hx rfl (hb hby at_312) rfl rfl ?_
    show Steps p.tables e below (T28.setTop (mkF m 314 #[.val (.long q0), .second, .val (.int p1), .val (.int p2), .val (.int p3), .val (.long v), .second, .val (.int (Int32.ofNat aa)), .val (.int ss), .val (.ref ar), .val (.int (Int32.ofNat (k + 1))), .val (.int (Int32.ofNat (aa + k + 1)))] [(.ref ar)])) _
    refine XS.bipush X28.here hx rfl (hb hby at_314) ?_
    show Steps p.tables e below (T28.setTop (mkF m 316 #[.val (.long q0), .second, .val (.int p1), .val (.int p2), .val (.int p3), .val (.long v), .second, .val (.int (Int32.ofNat aa)), .val (.int ss), .val (.ref ar), .val (.int (Int32.ofNat (k + 1))), .val (.int (Int32.ofNat (aa + k + 1)))] [(.int (10 : Int32)), (.ref ar)])) _
    refine XS.iload X28.here hx rfl (hb hby at_316) rfl ?_
    show Steps p.tables e below (T28.setTop (mkF m 318 #[.val (.long q0), .second, .val (.int p1), .val (.int p2), .val (.int p3), .val (.long v), .second, .val (.int (Int32.ofNat aa)), .val (.int ss), .val (.ref ar), .val (.int (Int32.ofNat (k + 1))), .val (.int (Int32.ofNat (aa + k + 1)))] [(.int (Int32.ofNat aa)), (.int (10 : Int32)), (.ref ar)])) _
    refine XS.iload X28.here hx rfl (hb hby at_318) rfl ?_
    show Steps p.tables e below (T28.setTop (mkF m 320 #[.val (.long q0), .second, .val (.int p1), .val (.int p2), .val (.int p3), .val (.long v), .second, .val (.int (Int32.ofNat aa)), .val (.int ss), .val (.ref ar), .val (.int (Int32.ofNat (k + 1))), .val (.int (Int32.ofNat (aa + k + 1)))] [(.int (Int32.ofNat (k + 1))), (.int (Int32.ofNat aa)), (.int (10 : Int32)), (.ref ar)])) _
    refine XS.lload X28.here hx rfl (hb hby at_320) rfl ?_
    show Steps p.tables e below (T28.setTop (mkF m 322 #[.val (.long q0), .second, .val (.int p1), .val (.int p2), .val (.int p3), .val (.long v), .second, .val (.int (Int32.ofNat aa)), .val (.int ss), .val (.ref ar), .val (.int (Int32.ofNat (k + 1))), .val (.int (Int32.ofNat (aa + k + 1)))] [(.long v), (.int (Int32.ofNat (k + 1))), (.int (Int32.ofNat aa)), (.int (10 : Int32)), (.ref ar)])) _
    refine XS.iload X28.here hx rfl (hb hby at_322) rfl ?_
    show Steps p.tables e below (T28.setTop (mkF m 324 #[.val (.long q0), .second, .val (.int p1), .val (.int p2), .val (.int p3), .val (.long v), .second, .val (.int (Int32.ofNat aa)), .val (.int ss), .val (.ref ar), .val (.int (Int32.ofNat (k + 1))), .val (.int (Int32.ofNat (aa + k + 1)))] [(.int ss), (.long v), (.int (Int32.ofNat (k + 1))), (.int (Int32.ofNat aa)), (.int (10 : Int32)), (.ref ar)])) _
    refine st29 _ ?_
    show Steps p.tables e below (T29.setTop (mkF m 327 #[.val (.long q0), .second, .val (.int p1), .val (.int p2), .val (.int p3), .val (.long v), .second, .val (.int (Int32.ofNat aa)), .val (.int ss), .val (.ref ar), .val (.int (Int32.ofNat (k + 1))), .val (.int (Int32.ofNat (aa + k + 1)))] [(.int (own_okf (10 : Int32) (Int32.ofNat aa) (Int32.ofNat (k + 1)) v ss (own_val k v aa ss 10)))])) _
    rw [← h_o10]
    show Steps p.tables e below (T29.setTop (mkF m 327 #[.val (.long q0), .second, .val (.int p1), .val (.int p2), .val (.int p3), .val (.long v), .second, .val (.int (Int32.ofNat aa)), .val (.int ss), .val (.ref ar), .val (.int (Int32.ofNat (k + 1))), .val (.int (Int32.ofNat (aa + k + 1)))] [(.int o10)])) _
    refine XS.ifNo X29.here hx rfl (hb hby at_327) rfl ((if0 _ _).trans (feq (by rw [h_o10]; exact own_ok k v aa ss 10 haa hk9 (by decide) hT (h_ss ▸ own_ss p3) : ¬ (o10 = (0 : Int32)))).1) ?_
    show Steps p.tables e below (T29.setTop (mkF m 330 #[.val (.long q0), .second, .val (.int p1), .val (.int p2), .val (.int p3), .val (.long v), .second, .val (.int (Int32.ofNat aa)), .val (.int ss), .val (.ref ar), .val (.int (Int32.ofNat (k + 1))), .val (.int (Int32.ofNat (aa + k + 1)))] [])) _
    refine XS.aload X29.here hx rfl (hb hby at_330) rfl rfl ?_
    show Steps p.tables e below (T29.setTop (mkF m 332 #[.val (.long q0), .second, .val (.int p1), .val (.int p2), .val (.int p3), .val (.long v), .second, .val (.int (Int32.ofNat aa)), .val (.int ss), .val (.ref ar), .val (.int (Int32.ofNat (k + 1))), .val (.int (Int32.ofNat (aa + k + 1)))] [(.ref ar)])) _
    refine XS.bipush X29.here hx rfl (hb hby at_332) ?_
    show Steps p.tables e below (T29.setTop (mkF m 334 #[.val (.long q0), .second, .val (.int p1), .val (.int p2), .val (.int p3), .val (.long v), .second, .val (.int (Int32.ofNat aa)), .val (.int ss), .val (.ref ar), .val (.int (Int32.ofNat (k + 1))), .val (.int (Int32.ofNat (aa + k + 1)))] [(.int (11 : Int32)), (.ref ar)])) _
    refine XS.iload X29.here hx rfl (hb hby at_334) rfl ?_
    show Steps p.tables e below (T29.setTop (mkF m 336 #[.val (.long q0), .second, .val (.int p1), .val (.int p2), .val (.int p3), .val (.long v), .second, .val (.int (Int32.ofNat aa)), .val (.int ss), .val (.ref ar), .val (.int (Int32.ofNat (k + 1))), .val (.int (Int32.ofNat (aa + k + 1)))] [(.int (Int32.ofNat aa)), (.int (11 : Int32)), (.ref ar)])) _
    refine XS.iload X29.here hx rfl (hb hby at_336) rfl ?_
    show Steps p.tables e below (T29.setTop (mkF m 338 #[.val (.long q0), .second, .val (.int p1), .val (.int p2), .val (.int p3), .val (.long v), .second, .val (.int (Int32.ofNat aa)), .val (.int ss), .val (.ref ar), .val (.int (Int32.ofNat (k + 1))), .val (.int (Int32.ofNat (aa + k + 1)))] [(.int (Int32.ofNat (k + 1))), (.int (Int32.ofNat aa)), (.int (11 : Int32)), (.ref ar)])) _
    refine XS.lload X29.here hx rfl (hb hby at_338) rfl ?_
    show Steps p.tables e below (T29.setTop (mkF m 340 #[.val (.long q0), .second, .val (.int p1), .val (.int p2), .val (.int p3), .val (.long v), .second, .val (.int (Int32.ofNat aa)), .val (.int ss), .val (.ref ar), .val (.int (Int32.ofNat (k + 1))), .val (.int (Int32.ofNat (aa + k + 1)))] [(.long v), (.int (Int32.ofNat (k + 1))), (.int (Int32.ofNat aa)), (.int (11 : Int32)), (.ref ar)])) _
    refine XS.iload X29.here hx rfl (hb hby at_340) rfl ?_
    show Steps p.tables e below (T29.setTop (mkF m 342 #[.val (.long q0), .second, .val (.int p1), .val (.int p2), .val (.int p3), .val (.long v), .second, .val (.int (Int32.ofNat aa)), .val (.int ss), .val (.ref ar), .val (.int (Int32.ofNat (k + 1))), .val (.int (Int32.ofNat (aa + k + 1)))] [(.int ss), (.long v), (.int (Int32.ofNat (k + 1))), (.int (Int32.ofNat aa)), (.int (11 : Int32)), (.ref ar)])) _
    refine st30 _ ?_
    show Steps p.tables e below (T30.setTop (mkF m 345 #[.val (.long q0), .second, .val (.int p1), .val (.int p2), .val (.int p3), .val (.long v), .second, .val (.int (Int32.ofNat aa)), .val (.int ss), .val (.ref ar), .val (.int (Int32.ofNat (k + 1))), .val (.int (Int32.ofNat (aa + k + 1)))] [(.int (own_okf (11 : Int32) (Int32.ofNat aa) (Int32.ofNat (k + 1)) v ss (own_val k v aa ss 11)))])) _
    rw [← h_o11]
    show Steps p.tables e below (T30.setTop (mkF m 345 #[.val (.long q0), .second, .val (.int p1), .val (.int p2), .val (.int p3), .val (.long v), .second, .val (.int (Int32.ofNat aa)), .val (.int ss), .val (.ref ar), .val (.int (Int32.ofNat (k + 1))), .val (.int (Int32.ofNat (aa + k + 1)))] [(.int o11)])) _
    refine XS.ifNo X30.here hx rfl (hb hby at_345) rfl ((if0 _ _).trans (feq (by rw [h_o11]; exact own_ok k v aa ss 11 haa hk9 (by decide) hT (h_ss ▸ own_ss p3) : ¬ (o11 = (0 : Int32)))).1) ?_
    show Steps p.tables e below (T30.setTop (mkF m 348 #[.val (.long q0), .second, .val (.int p1), .val (.int p2), .val (.int p3), .val (.long v), .second, .val (.int (Int32.ofNat aa)), .val (.int ss), .val (.ref ar), .val (.int (Int32.ofNat (k + 1))), .val (.int (Int32.ofNat (aa + k + 1)))] [])) _
    refine XS.aload X30.here hx rfl (hb hby at_348) rfl rfl ?_
    show Steps p.tables e below (T30.setTop (mkF m 350 #[.val (.long q0), .second, .val (.int p1), .val (.int p2), .val (.int p3), .val (.long v), .second, .val (.int (Int32.ofNat aa)), .val (.int ss), .val (.ref ar), .val (.int (Int32.ofNat (k + 1))), .val (.int (Int32.ofNat (aa + k + 1)))] [(.ref ar)])) _
    refine XS.bipush X30.here hx rfl (hb hby at_350) ?_
    show Steps p.tables e below (T30.setTop (mkF m 352 #[.val (.long q0), .second, .val (.int p1), .val (.int p2), .val (.int p3), .val (.long v), .second, .val (.int (Int32.ofNat aa)), .val (.int ss), .val (.ref ar), .val (.int (Int32.ofNat (k + 1))), .val (.int (Int32.ofNat (aa + k + 1)))] [(.int (12 : Int32)), (.ref ar)])) _
    refine XS.iload X30.here hx rfl (hb hby at_352) rfl ?_
    show Steps p.tables e below (T30.setTop (mkF m 354 #[.val (.long q0), .second, .val (.int p1), .val (.int p2), .val (.int p3), .val (.long v), .second, .val (.int (Int32.ofNat aa)), .val (.int ss), .val (.ref ar), .val (.int (Int32.ofNat (k + 1))), .val (.int (Int32.ofNat (aa + k + 1)))] [(.int (Int32.ofNat aa)), (.int (12 : Int32)), (.ref ar)])) _
    refine XS.iload X30.here hx rfl (hb hby at_354) rfl ?_
    show Steps p.tables e below (T30.setTop (mkF m 356 #[.val (.long q0), .second, .val (.int p1), .val (.int p2), .val (.int p3), .val (.long v), .second, .val (.int (Int32.ofNat aa)), .val (.int ss), .val (.ref ar), .val (.int (Int32.ofNat (k + 1))), .val (.int (Int32.ofNat (aa + k + 1)))] [(.int (Int32.ofNat (k + 1))), (.int (Int32.ofNat aa)), (.int (12 : Int32)), (.ref ar)])) _
    refine XS.lload X30.here hx rfl (hb hby at_356) rfl ?_
    show Steps p.tables e below (T30.setTop (mkF m 358 #[.val (.long q0), .second, .val (.int p1), .val (.int p2), .val (.int p3), .val (.long v), .second, .val (.int (Int32.ofNat aa)), .val (.int ss), .val (.ref ar), .val (.int (Int32.ofNat (k + 1))), .val (.int (Int32.ofNat (aa + k + 1)))] [(.long v), (.int (Int32.ofNat (k + 1))), (.int (Int32.ofNat aa)), (.int (12 : Int32)), (.ref ar)])) _
    refine XS.iload X30.here hx rfl (hb hby at_358) rfl ?_
    show Steps p.tables e below (T30.setTop (mkF m 360 #[.val (.long q0), .second, .val (.int p1), .val (.int p2), .val (.int p3), .val (.long v), .second, .val (.int (Int32.ofNat aa)), .val (.int ss), .val (.ref ar), .val (.int (Int32.ofNat (k + 1))), .val (.int (Int32.ofNat (aa + k + 1)))] [(.int ss), (.long v), (.int (Int32.ofNat (k + 1))), (.int (Int32.ofNat aa)), (.int (12 : Int32)), (.ref ar)])) _
    refine st31 _ ?_
    show Steps p.tables e below (T31.setTop (mkF m 363 #[.val (.long q0), .second, .val (.int p1), .val (.int p2), .val (.int p3), .val (.long v), .second, .val (.int (Int32.ofNat aa)), .val (.int ss), .val (.ref ar), .val (.int (Int32.ofNat (k + 1))), .val (.int (Int32.ofNat (aa + k + 1)))] [(.int (own_okf (12 : Int32) (Int32.ofNat aa) (Int32.ofNat (k + 1)) v ss (own_val k v aa ss 12)))])) _
    rw [← h_o12]
    show Steps p.tables e below (T31.setTop (mkF m 363 #[.val (.long q0), .second, .val (.int p1), .val (.int p2), .val (.int p3), .val (.long v), .second, .val (.int (Int32.ofNat aa)), .val (.int ss), .val (.ref ar), .val (.int (Int32.ofNat (k + 1))), .val (.int (Int32.ofNat (aa + k + 1)))] [(.int o12)])) _
    refine XS.ifNo X31.here hx rfl (hb hby at_363) rfl ((if0 _ _).trans (feq (by rw [h_o12]; exact own_ok k v aa ss 12 haa hk9 (by decide) hT (h_ss ▸ own_ss p3) : ¬ (o12 = (0 : Int32)))).1) ?_
    show Steps p.tables e below (T31.setTop (mkF m 366 #[.val (.long q0), .second, .val (.int p1), .val (.int p2), .val (.int p3), .val (.long v), .second, .val (.int (Int32.ofNat aa)), .val (.int ss), .val (.ref ar), .val (.int (Int32.ofNat (k + 1))), .val (.int (Int32.ofNat (aa + k + 1)))] [])) _
    refine XS.aload X31.here hx rfl (hb hby at_366) rfl rfl ?_
    show Steps p.tables e below (T31.setTop (mkF m 368 #[.val (.long q0), .second, .val (.int p1), .val (.int p2), .val (.int p3), .val (.long v), .second, .val (.int (Int32.ofNat aa)), .val (.int ss), .val (.ref ar), .val (.int (Int32.ofNat (k + 1))), .val (.int (Int32.ofNat (aa + k + 1)))] [(.ref ar)])) _
    refine XS.bipush X31.here hx rfl (hb hby at_368) ?_
    show Steps p.tables e below (T31.setTop (mkF m 370 #[.val (.long q0), .second, .val (.int p1), .val (.int p2), .val (.int p3), .val (.long v), .second, .val (.int (Int32.ofNat aa)), .val (.int ss), .val (.ref ar), .val (.int (Int32.ofNat (k + 1))), .val (.int (Int32.ofNat (aa + k + 1)))] [(.int (13 : Int32)), (.ref ar)])) _
    refine XS.iload X31.here hx rfl (hb hby at_370) rfl ?_
    show Steps p.tables e below (T31.setTop (mkF m 372 #[.val (.long q0), .second, .val (.int p1), .val (.int p2), .val (.int p3), .val (.long v), .second, .val (.int (Int32.ofNat aa)), .val (.int ss), .val (.ref ar), .val (.int (Int32.ofNat (k + 1))), .val (.int (Int32.ofNat (aa + k + 1)))] [(.int (Int32.ofNat aa)), (.int (13 : Int32)), (.ref ar)])) _
    refine XS.iload X31.here hx rfl (hb hby at_372) rfl ?_
    show Steps p.tables e below (T31.setTop (mkF m 374 #[.val (.long q0), .second, .val (.int p1), .val (.int p2), .val (.int p3), .val (.long v), .second, .val (.int (Int32.ofNat aa)), .val (.int ss), .val (.ref ar), .val (.int (Int32.ofNat (k + 1))), .val (.int (Int32.ofNat (aa + k + 1)))] [(.int (Int32.ofNat (k + 1))), (.int (Int32.ofNat aa)), (.int (13 : Int32)), (.ref ar)])) _
    refine XS.lload X31.here hx rfl (hb hby at_374) rfl ?_
    show Steps p.tables e below (T31.setTop (mkF m 376 #[.val (.long q0), .second, .val (.int p1), .val (.int p2), .val (.int p3), .val (.long v), .second, .val (.int (Int32.ofNat aa)), .val (.int ss), .val (.ref ar), .val (.int (Int32.ofNat (k + 1))), .val (.int (Int32.ofNat (aa + k + 1)))] [(.long v), (.int (Int32.ofNat (k + 1))), (.int (Int32.ofNat aa)), (.int (13 : Int32)), (.ref ar)])) _
    refine XS.iload X31.here hx rfl (hb hby at_376) rfl ?_
    show Steps p.tables e below (T31.setTop (mkF m 378 #[.val (.long q0), .second, .val (.int p1), .val (.int p2), .val (.int p3), .val (.long v), .second, .val (.int (Int32.ofNat aa)), .val (.int ss), .val (.ref ar), .val (.int (Int32.ofNat (k + 1))), .val (.int (Int32.ofNat (aa + k + 1)))] [(.int ss), (.long v), (.int (Int32.ofNat (k + 1))), (.int (Int32.ofNat aa)), (.int (13 : Int32)), (.ref ar)])) _
    refine st32 _ ?_
    show Steps p.tables e below (T32.setTop (mkF m 381 #[.val (.long q0), .second, .val (.int p1), .val (.int p2), .val (.int p3), .val (.long v), .second, .val (.int (Int32.ofNat aa)), .val (.int ss), .val (.ref ar), .val (.int (Int32.ofNat (k + 1))), .val (.int (Int32.ofNat (aa + k + 1)))] [(.int (own_okf (13 : Int32) (Int32.ofNat aa) (Int32.ofNat (k + 1)) v ss (own_val k v aa ss 13)))])) _
    rw [← h_o13]
    show Steps p.tables e below (T32.setTop (mkF m 381 #[.val (.long q0), .second, .val (.int p1), .val (.int p2), .val (.int p3), .val (.long v), .second, .val (.int (Int32.ofNat aa)), .val (.int ss), .val (.ref ar), .val (.int (Int32.ofNat (k + 1))), .val (.int (Int32.ofNat (aa + k + 1)))] [(.int o13)])) _
    refine XS.ifNo X32.here hx rfl (hb hby at_381) rfl ((if0 _ _).trans (feq (by rw [h_o13]; exact own_ok k v aa ss 13 haa hk9 (by decide) hT (h_ss ▸ own_ss p3) : ¬ (o13 = (0 : Int32)))).1) ?_
    show Steps p.tables e below (T32.setTop (mkF m 384 #[.val (.long q0), .second, .val (.int p1), .val (.int p2), .val (.int p3), .val (.long v), .second, .val (.int (Int32.ofNat aa)), .val (.int ss), .val (.ref ar), .val (.int (Int32.ofNat (k + 1))), .val (.int (Int32.ofNat (aa + k + 1)))] [])) _
    refine XS.aload X32.here hx rfl (hb hby at_384) rfl rfl ?_
    show Steps p.tables e below (T32.setTop (mkF m 386 #[.val (.long q0), .second, .val (.int p1), .val (.int p2), .val (.int p3), .val (.long v), .second, .val (.int (Int32.ofNat aa)), .val (.int ss), .val (.ref ar), .val (.int (Int32.ofNat (k + 1))), .val (.int (Int32.ofNat (aa + k + 1)))] [(.ref ar)])) _
    refine XS.bipush X32.here hx rfl (hb hby at_386) ?_
    show Steps p.tables e below (T32.setTop (mkF m 388 #[.val (.long q0), .second, .val (.int p1), .val (.int p2), .val (.int p3), .val (.long v), .second, .val (.int (Int32.ofNat aa)), .val (.int ss), .val (.ref ar), .val (.int (Int32.ofNat (k + 1))), .val (.int (Int32.ofNat (aa + k + 1)))] [(.int (14 : Int32)), (.ref ar)])) _
    refine XS.iload X32.here hx rfl (hb hby at_388) rfl ?_
    show Steps p.tables e below (T32.setTop (mkF m 390 #[.val (.long q0), .second, .val (.int p1), .val (.int p2), .val (.int p3), .val (.long v), .second, .val (.int (Int32.ofNat aa)), .val (.int ss), .val (.ref ar), .val (.int (Int32.ofNat (k + 1))), .val (.int (Int32.ofNat (aa + k + 1)))] [(.int (Int32.ofNat aa)), (.int (14 : Int32)), (.ref ar)])) _
    refine XS.iload X32.here hx rfl (hb hby at_390) rfl ?_
    show Steps p.tables e below (T32.setTop (mkF m 392 #[.val (.long q0), .second, .val (.int p1), .val (.int p2), .val (.int p3), .val (.long v), .second, .val (.int (Int32.ofNat aa)), .val (.int ss), .val (.ref ar), .val (.int (Int32.ofNat (k + 1))), .val (.int (Int32.ofNat (aa + k + 1)))] [(.int (Int32.ofNat (k + 1))), (.int (Int32.ofNat aa)), (.int (14 : Int32)), (.ref ar)])) _
    refine XS.lload X32.here hx rfl (hb hby at_392) rfl ?_
    show Steps p.tables e below (T32.setTop (mkF m 394 #[.val (.long q0), .second, .val (.int p1), .val (.int p2), .val (.int p3), .val (.long v), .second, .val (.int (Int32.ofNat aa)), .val (.int ss), .val (.ref ar), .val (.int (Int32.ofNat (k + 1))), .val (.int (Int32.ofNat (aa + k + 1)))] [(.long v), (.int (Int32.ofNat (k + 1))), (.int (Int32.ofNat aa)), (.int (14 : Int32)), (.ref ar)])) _
    refine XS.iload X32.here hx rfl (hb hby at_394) rfl ?_
    show Steps p.tables e below (T32.setTop (mkF m 396 #[.val (.long q0), .second, .val (.int p1), .val (.int p2), .val (.int p3), .val (.long v), .second, .val (.int (Int32.ofNat aa)), .val (.int ss), .val (.ref ar), .val (.int (Int32.ofNat (k + 1))), .val (.int (Int32.ofNat (aa + k + 1)))] [(.int ss), (.long v), (.int (Int32.ofNat (k + 1))), (.int (Int32.ofNat aa)), (.int (14 : Int32)), (.ref ar)])) _
    refine st33 _ ?_
    show Steps p.tables e below (T33.setTop (mkF m 399 #[.val (.long q0), .second, .val (.int p1), .val (.int p2), .val (.int p3), .val (.long v), .second, .val (.int (Int32.ofNat aa)), .val (.int ss), .val (.ref ar), .val (.int (Int32.ofNat (k + 1))), .val (.int (Int32.ofNat (aa + k + 1)))] [(.int (own_okf (14 : Int32) (Int32.ofNat aa) (Int32.ofNat (k + 1)) v ss (own_val k v aa ss 14)))])) _
    rw [← h_o14]
    show Steps p.tables e below (T33.setTop (mkF m 399 #[.val (.long q0), .second, .val (.int p1), .val (.int p2), .val (.int p3), .val (.long v), .second, .val (.int (Int32.ofNat aa)), .val (.int ss), .val (.ref ar), .val (.int (Int32.ofNat (k + 1))), .val (.int (Int32.ofNat (aa + k + 1)))] [(.int o14)])) _
    refine XS.ifNo X33.here hx rfl (hb hby at_399) rfl ((if0 _ _).trans (feq (by rw [h_o14]; exact own_ok k v aa ss 14 haa hk9 (by decide) hT (h_ss ▸ own_ss p3) : ¬ (o14 = (0 : Int32)))).1) ?_
    show Steps p.tables e below (T33.setTop (mkF m 402 #[.val (.long q0), .second, .val (.int p1), .val (.int p2), .val (.int p3), .val (.long v), .second, .val (.int (Int32.ofNat aa)), .val (.int ss), .val (.ref ar), .val (.int (Int32.ofNat (k + 1))), .val (.int (Int32.ofNat (aa + k + 1)))] [])) _
    refine XS.iconst X33.here hx rfl (hb hby at_402) ?_
    show Steps p.tables e below (T33.setTop (mkF m 403 #[.val (.long q0), .second, .val (.int p1), .val (.int p2), .val (.int p3), .val (.long v), .second, .val (.int (Int32.ofNat aa)), .val (.int ss), .val (.ref ar), .val (.int (Int32.ofNat (k + 1))), .val (.int (Int32.ofNat (aa + k + 1)))] [(.int (1 : Int32))])) _
    refine XS.goto X33.here hx rfl (pc0 := 403) (pc' := 407) rfl (hb hby at_403) (by decide) (by decide) ?_
    show Steps p.tables e below (T33.setTop (mkF m 407 #[.val (.long q0), .second, .val (.int p1), .val (.int p2), .val (.int p3), .val (.long v), .second, .val (.int (Int32.ofNat aa)), .val (.int ss), .val (.ref ar), .val (.int (Int32.ofNat (k + 1))), .val (.int (Int32.ofNat (aa + k + 1)))] [(.int (1 : Int32))])) _
    exact retN X33 hx (t := .boolean) Bd.returns (by simp) (hb hby at_407) hr
  · show Qrm0 Z q0 p1 p2 p3 h0 n0 _ T33.heap _
    rw [eh33]
    exact ⟨rfl, N33⟩
set_option maxRecDepth 65536 in
set_option maxHeartbeats 40000000 in
theorem comes_1 {Post : Tables → Env → Array Value → State → Outcome → State → Prop} (hpost : ∀ tb e args s v u, (limb_1_1.after args s (.returned v) u = true ∧ limb_1_2.after args s (.returned v) u = true ∧ True) → FrameEnd s (.returned v) u (Jvm.fieldLocs frame_1_writes args s ++ Jvm.arrayLocs frame_1_arrays args s ++ Jvm.staticLocs frame_1_statics s) 16 128 → Post tb e args s (.returned v) u) :
    ArmFor flags0 classFile x code maxLocals ret World_1 tables_1 room_1 Calls_1 rest_1 Pre_1 Post := by
  intro l hfl _ _ p e ha hc hk s m args below hf hA hF happ hP
  obtain ⟨hcalls, hrest, hpre⟩ := hP
  obtain ⟨-, -, -, hnamed, -, -, -, hat⟩ := (Spec.applies_iff hf).mp happ
  obtain ⟨hg, hn⟩ := and_e (Cond.before_iff.mp (show (Jvm.Cond.and given_1 narrow_1).before args s = true from hpre))
  obtain ⟨g1, g2⟩ := and_e hg
  obtain ⟨g3, g4⟩ := and_e g2
  obtain ⟨g5, g6⟩ := and_e g4
  obtain ⟨g7, g8⟩ := and_e g6
  obtain ⟨w0, w1, w2, w3, rfl⟩ : ∃ w0 w1 w2 w3 : Value, args = #[w0, w1, w2, w3] := by
    have hs : args.size = 4 := by simpa [Cond.value, given_1] using g1
    obtain ⟨L⟩ := args
    match L, hs with
    | [w0, w1, w2, w3], _ => exact ⟨w0, w1, w2, w3, rfl⟩
  have hw := fun d (hd : d ∈ tables_1) => atoms_spec (ws := Jvm.Cond.code x code maxLocals ret :: tables_1) hat d (List.mem_cons_of_mem _ hd)
  obtain ⟨i0, ei0⟩ := isL_v g3
  obtain rfl : w0 = (.long i0) := Option.some.inj ei0
  obtain ⟨i1, ei1⟩ := is_v g5
  obtain rfl : w1 = (.int i1) := Option.some.inj ei1
  obtain ⟨i2, ei2⟩ := is_v g7
  obtain rfl : w2 = (.int i2) := Option.some.inj ei2
  obtain ⟨i3, ei3⟩ := is_v g8
  obtain rfl : w3 = (.int i3) := Option.some.inj ei3
  obtain ⟨n, o, h1, h2, h3, _, L, rfl, ⟨rfl, N⟩, hq⟩ := rm0 l s _ hw tables_1 i0 i1 i2 i3  s.heap s.heap.size (Nat.le_refl _) p e ha hc hk s m _ below hf ((Spec.applies_iff_loose hf).mp happ).1 ⟨rfl, State.Warmed39.refl s, rfl⟩ trivial
  refine ⟨n, _, h1, h2, h3, hpost _ _ _ _ _ _ ⟨Cond.after_iff.mpr rfl, Cond.after_iff.mpr (eq_i res_at (Term.int_eval (1)) rfl), trivial⟩ ⟨hq.1, hq.2.1, (hq.2.2.sift fun y hy => Or.inr (N y hy)).mono (by decide) (by decide)⟩⟩
theorem main_1_1 : Claimed_1_1 := comes_1 fun _ _ _ _ _ _ h hF => ⟨h.1, hF⟩
theorem main_1_2 : Claimed_1_2 := comes_1 fun _ _ _ _ _ _ h hF => ⟨h.2.1, hF⟩
end Jvm.Pilot.@@N@@
namespace Jvm.Pilot.@@N@@
open Jvm Jvm.ClassFile Sem Op Lib Jvm.Free Jvm.Stand Jvm.Pilot.@@N@@.Jvm.D
/-! MADE BY PROGRAM (witnessworld.py) out of the Statement's table words and the real class files: 9 classes; the members and pool entries that the words name. The judged class is class 1, her method 1. -/
namespace start1
open Jvm.ClassFile
def u (s : String) : CpInfo := .utf8 (stringToUtf16 s)
/-- a pool by its gaps: so many unusable entries, then the entry; so many at the end -/
def gap : Nat → List CpInfo → List CpInfo
  | 0, r => r
  | n + 1, r => .unusable :: gap n r
def poolList (es : List (Nat × CpInfo)) (last : Nat) : List CpInfo := es.foldr (fun e r => gap e.1 (e.2 :: r)) (gap last [])
def pool (es : List (Nat × CpInfo)) (last : Nat) : Array CpInfo := ⟨poolList es last⟩
def fileOf (pool : Array CpInfo) (this : Nat) (attrs : Array Attribute := #[]) (ms : Array MethodInfo := #[]) (fl : Nat := 33) (sup : Nat := 0) (ifs : Array Nat := #[]) (fds : Array FieldInfo := #[]) : ClassFile where
  minorVersion := 0
  majorVersion := 65
  constantPool := pool
  accessFlags := fl
  thisClass := this
  superClass := sup
  interfaces := ifs
  fields := fds
  methods := ms
  attributes := attrs
def plain (name : String) (sup : Option ClassId) : Class where
  name := name
  kind := .ordinary
  loader := none
  accessFlags := 33
  super := sup
  interfaces := #[]
  cf := none
  fields := #[]
  methods := #[]
  instanceTypes := #[]
  staticTypes := #[]
  resolved := #[]
  callSites := []
  init := .initialized
  statics := none
  mirror := none

def pool0 : Array CpInfo := pool [(5, u "<init>"), (0, u "()V"), (1, .class_ 10), (1, u "java/lang/Object")] 113

def k0m0 : Method := { name := "<init>", desc := "()V", sig := { parameters := [], returnType := none }, accessFlags := 1, code := none }
/-- java/lang/Object -/
def k0 : Class := { plain "java/lang/Object" none with
  accessFlags := 33
  interfaces := #[]
  cf := some (fileOf pool0 8 #[] #[{ accessFlags := 1, nameIndex := 5, descriptorIndex := 6, attributes := #[] }] 33 0 #[] #[])
  fields := #[]
  methods := #[k0m0]
  instanceTypes := #[]
  staticTypes := #[]
  resolved := Array.replicate 124 none
  statics := none }

def pool1 : Array CpInfo := pool [(2, .class_ 4), (1, u "java/lang/Object"), (0, u "<init>"), (0, u "()V"), (0, .methodref 8 9), (0, .class_ 10), (0, .nameAndType 11 12), (0, u "com/example/parley/parley/wire/WireWriterPutUnsignedVarintPinLaw"), (0, u "size"), (0, u "(J)I"), (0, .methodref 14 15), (0, .class_ 16), (0, .nameAndType 17 18), (0, u "com/example/parley/parley/wire/WireWriter"), (0, u "putUnsignedVarint"), (0, u "([BIJ)I"), (0, .methodref 8 20), (0, .nameAndType 21 22), (0, u "ok"), (0, u "([BIIIJB)Z"), (0, .long 127), (3, u "law"), (0, u "(JIII)Z")] 5

def k1m0 : Method := { name := "<init>", desc := "()V", sig := { parameters := [], returnType := none }, accessFlags := 1, code := none }
def k1c1 : Code := { maxStack := 7, maxLocals := 12, code := code, exceptionTable := #[], attributes := #[] }
def k1m1 : Method := { name := "law", desc := "(JIII)Z", sig := { parameters := [.long, .int, .int, .int], returnType := some .boolean }, accessFlags := 9, code := some k1c1 }
def k1c2 : Code := { maxStack := 4, maxLocals := 2, code := method_3_code, exceptionTable := #[], attributes := #[] }
def k1m2 : Method := { name := "size", desc := "(J)I", sig := { parameters := [.long], returnType := some .int }, accessFlags := 10, code := some k1c2 }
def k1c3 : Code := { maxStack := 4, maxLocals := 10, code := method_4_code, exceptionTable := #[], attributes := #[] }
def k1m3 : Method := { name := "ok", desc := "([BIIIJB)Z", sig := { parameters := [(.array .byte), .int, .int, .int, .long, .byte], returnType := some .boolean }, accessFlags := 10, code := some k1c3 }
/-- com/example/parley/parley/wire/WireWriterPutUnsignedVarintPinLaw -/
def k1 : Class := { plain "com/example/parley/parley/wire/WireWriterPutUnsignedVarintPinLaw" (some 0) with
  accessFlags := 49
  interfaces := #[]
  cf := some (fileOf pool1 8 #[] #[{ accessFlags := 1, nameIndex := 5, descriptorIndex := 6, attributes := #[] }, { accessFlags := 9, nameIndex := 27, descriptorIndex := 28, attributes := #[] }, { accessFlags := 10, nameIndex := 11, descriptorIndex := 12, attributes := #[] }, { accessFlags := 10, nameIndex := 21, descriptorIndex := 22, attributes := #[] }] 49 2 #[] #[])
  fields := #[]
  methods := #[k1m0, k1m1, k1m2, k1m3]
  instanceTypes := #[]
  staticTypes := #[]
  resolved := Array.replicate 34 none
  statics := none }

def pool2 : Array CpInfo := pool [(4, .class_ 6), (1, u "java/lang/Object"), (0, u "<init>"), (0, u "()V"), (1, .class_ 12), (1, u "com/example/parley/parley/wire/WireWriter"), (0, u "m_bytes"), (0, u "[B"), (5, u "m_shared"), (0, u "Ljava/util/List;"), (6, u "m_size"), (0, u "I"), (32, u "putUnsignedVarint"), (0, u "([BIJ)I"), (0, .long 18446744073709551488), (1, .long 127), (1, .long 128), (30, .class_ 100), (0, u "com/example/parley/parley/wire/WireWriter$Shared"), (9, u "m_sharedSize"), (132, u "MAX_STRING_BYTES"), (2, u "MAX_VARINT_BYTES"), (1, u "APPENDED_BY_REFERENCE"), (0, u "Ljava/lang/String;")] 86

def k2m0 : Method := { name := "<init>", desc := "()V", sig := { parameters := [], returnType := none }, accessFlags := 1, code := none }
def k2c1 : Code := { maxStack := 6, maxLocals := 5, code := prog_374_method_13_code, exceptionTable := #[], attributes := #[] }
def k2m1 : Method := { name := "putUnsignedVarint", desc := "([BIJ)I", sig := { parameters := [(.array .byte), .int, .long], returnType := some .int }, accessFlags := 9, code := some k2c1 }
/-- com/example/parley/parley/wire/WireWriter -/
def k2 : Class := { plain "com/example/parley/parley/wire/WireWriter" (some 0) with
  accessFlags := 49
  interfaces := #[]
  cf := some (fileOf pool2 10 #[.nestMembers #[99]] #[{ accessFlags := 1, nameIndex := 7, descriptorIndex := 8, attributes := #[] }, { accessFlags := 9, nameIndex := 62, descriptorIndex := 63, attributes := #[] }] 49 4 #[] #[{ accessFlags := 25, nameIndex := 243, descriptorIndex := 29, attributes := #[] }, { accessFlags := 26, nameIndex := 246, descriptorIndex := 29, attributes := #[] }, { accessFlags := 26, nameIndex := 248, descriptorIndex := 249, attributes := #[] }, { accessFlags := 2, nameIndex := 13, descriptorIndex := 14, attributes := #[] }, { accessFlags := 2, nameIndex := 28, descriptorIndex := 29, attributes := #[] }, { accessFlags := 18, nameIndex := 20, descriptorIndex := 21, attributes := #[] }, { accessFlags := 2, nameIndex := 110, descriptorIndex := 29, attributes := #[] }])
  fields := #[{ name := "MAX_STRING_BYTES", type := .int, accessFlags := 25, slot := 0, constantValue := 0 }, { name := "MAX_VARINT_BYTES", type := .int, accessFlags := 26, slot := 1, constantValue := 0 }, { name := "APPENDED_BY_REFERENCE", type := (.object "java/lang/String"), accessFlags := 26, slot := 2, constantValue := 0 }, { name := "m_bytes", type := (.array .byte), accessFlags := 2, slot := 0, constantValue := 0 }, { name := "m_size", type := .int, accessFlags := 2, slot := 1, constantValue := 0 }, { name := "m_shared", type := (.object "java/util/List"), accessFlags := 18, slot := 2, constantValue := 0 }, { name := "m_sharedSize", type := .int, accessFlags := 2, slot := 3, constantValue := 0 }]
  methods := #[k2m0, k2m1]
  instanceTypes := #[(.array .byte), .int, (.object "java/util/List"), .int]
  staticTypes := #[.int, .int, (.object "java/lang/String")]
  resolved := Array.replicate 336 none
  statics := none }

def pool3 : Array CpInfo := pool [(1, u "java/lang/Cloneable"), (0, .class_ 1), (0, u "java/lang/Object"), (0, .class_ 3)] 3

/-- java/lang/Cloneable -/
def k3 : Class := { plain "java/lang/Cloneable" (some 0) with
  accessFlags := 1537
  interfaces := #[]
  cf := some (fileOf pool3 2 #[] #[] 1537 4 #[] #[])
  fields := #[]
  methods := #[]
  instanceTypes := #[]
  staticTypes := #[]
  resolved := Array.replicate 8 none
  statics := none }

def pool4 : Array CpInfo := pool [(1, u "java/io/Serializable"), (0, .class_ 1), (0, u "java/lang/Object"), (0, .class_ 3)] 3

/-- java/io/Serializable -/
def k4 : Class := { plain "java/io/Serializable" (some 0) with
  accessFlags := 1537
  interfaces := #[]
  cf := some (fileOf pool4 2 #[] #[] 1537 4 #[] #[])
  fields := #[]
  methods := #[]
  instanceTypes := #[]
  staticTypes := #[]
  resolved := Array.replicate 8 none
  statics := none }

/-- the primitive byte -/
def k5 : Class := { plain "byte" none with kind := .primitive 'B', accessFlags := 0x411 }
/-- [B -/
def k6 : Class := { plain "[B" (some 0) with kind := .array 5 .byte, interfaces := #[3, 4], accessFlags := 1041 }

/-- the primitive int -/
def k7 : Class := { plain "int" none with kind := .primitive 'I', accessFlags := 0x411 }
/-- [I -/
def k8 : Class := { plain "[I" (some 0) with kind := .array 7 .int, interfaces := #[3, 4], accessFlags := 1041 }

def heap : Heap := #[]
def classes : Array Class := #[k0, k1, k2, k3, k4, k5, k6, k7, k8]
def interned : List (Array UInt16 × Addr) := []
def slotsUsed : Nat := 0
def theMethod : MethodId := ⟨1, 1⟩
def args0 : Array Value := #[.long 5, .int 5, .int 5, .int 5]
def aboutOver (below : List Frame) : State where
  vm := { classes := classes, interned := interned.toArray }
  heap := heap
  slotsUsed := slotsUsed
  threads := #[{ frames := .invoking theMethod args0 :: below }]
def below0 : List Frame := [.native { method := ⟨0, 0⟩, args := #[] }]
def about1 : State := aboutOver below0
def p0 : Program := .bare "" "" ""
def e0 : Env := launch0.env 0 0 0
theorem w_frames : about1.frames = Frame.invoking theMethod args0 :: below0 := rfl
set_option maxRecDepth 65536 in
theorem w_args : argsFit about1.vm theMethod args0 = true := by decide +kernel
set_option maxRecDepth 65536 in
theorem w_heap : heapFits about1 = true := by decide +kernel
set_option maxRecDepth 65536 in
theorem w_runnable : about1.curStatus? = some .runnable := by decide +kernel
set_option maxRecDepth 65536 in
theorem w_alone : about1.alone = true := by decide +kernel
set_option maxRecDepth 65536 in
theorem w_named : about1.methodNamed? x = some theMethod := by decide +kernel
set_option maxRecDepth 65536 in
theorem w_hears : about1.hears theMethod below0 = true := by decide +kernel
set_option maxRecDepth 65536 in
theorem w_ripe : about1.ripe theMethod args0 below0 = true := by decide +kernel
theorem w_running : about1.status = .running := rfl
set_option maxRecDepth 65536 in
theorem w_room : about1.hasRoom e0.platform room_1 = true :=
  launch0.hasRoom_least _ room_1 (by decide +kernel) (by decide +kernel) (by decide +kernel) (by decide +kernel) (by decide +kernel) (by decide +kernel)
theorem allAtoms_all (ts : List Jvm.Cond) (a : Array Jvm.Value) (st : Jvm.State) : (allAtoms ts).before a st = ts.all (fun c => c.before a st) := by
  induction ts with
  | nil => rfl
  | cons c t ih =>
    show (Jvm.Cond.and c (allAtoms t)).before a st = _
    rw [Jvm.Cond.before_and, ih, List.all_cons]
def words1 : List Jvm.Cond := Jvm.Cond.code x code maxLocals ret :: tables_1
/-- a 'code' word, met by the world's own term for the bytes: nothing is compared byte by byte -/
theorem code_word {y : MethodName} {bytes : ByteArray} {mx : Nat} {rt : Option FieldType} {a : Array Value} {s : State} {m : MethodId} {meth : Method} {c : Code} (h1 : s.methodNamed? y = some m) (h2 : s.vm.method? m = some meth) (h3 : meth.code = some c) (h4 : c.code = bytes)
    (h5 : (c.maxLocals == mx && c.exceptionTable.isEmpty && decide (c.maxStack ≤ mostOperands) && decide (meth.sig.returnType = rt) && !meth.locks && decide (parseMethodDescriptor y.desc = some meth.sig)) = true) : (Jvm.Cond.code y bytes mx rt).before a s = true := by
  simp only [Bool.and_eq_true, beq_iff_eq, Bool.not_eq_true', decide_eq_true_eq] at h5
  obtain ⟨⟨⟨⟨⟨g1, g2⟩, g3⟩, g4⟩, g5⟩, g6⟩ := h5
  simp [Cond.before, Cond.holds, Cond.value, h1, h2, h3, h4, g1, g2, g3, g4, g5, g6]
def isCode : Jvm.Cond → Bool
  | .code _ _ _ _ => true
  | _ => false
theorem all_split {L : List Jvm.Cond} {P : Jvm.Cond → Bool} (h1 : L.all (fun c => isCode c || P c) = true) (h2 : ∀ c ∈ L.filter isCode, P c = true) : L.all P = true := by
  refine List.all_eq_true.mpr fun c hc => ?_
  have h := List.all_eq_true.mp h1 c hc
  rcases Bool.eq_false_or_eq_true (isCode c) with hi | hi
  · exact h2 c (List.mem_filter.mpr ⟨hc, hi⟩)
  · simpa [hi] using h
set_option maxRecDepth 65536 in
theorem w_c0 : (Jvm.Cond.code x code maxLocals ret).before args0 about1 = true := code_word (m := ⟨1, 1⟩) (meth := k1m1) (c := k1c1) (by decide +kernel) rfl rfl rfl (by decide +kernel)
set_option maxRecDepth 65536 in
theorem w_c1 : (Jvm.Cond.code ({ cls := "com/example/parley/parley/wire/WireWriterPutUnsignedVarintPinLaw", name := "size", desc := "(J)I" } : Jvm.MethodName) method_3_code (2 : Nat) (Option.some Jvm.ClassFile.FieldType.int)).before args0 about1 = true := code_word (m := ⟨1, 2⟩) (meth := k1m2) (c := k1c2) (by decide +kernel) rfl rfl rfl (by decide +kernel)
set_option maxRecDepth 65536 in
theorem w_c2 : (Jvm.Cond.code ({ cls := "com/example/parley/parley/wire/WireWriter", name := "putUnsignedVarint", desc := "([BIJ)I" } : Jvm.MethodName) prog_374_method_13_code (5 : Nat) (Option.some Jvm.ClassFile.FieldType.int)).before args0 about1 = true := code_word (m := ⟨2, 1⟩) (meth := k2m1) (c := k2c1) (by decide +kernel) rfl rfl rfl (by decide +kernel)
set_option maxRecDepth 65536 in
theorem w_c3 : (Jvm.Cond.code ({ cls := "com/example/parley/parley/wire/WireWriterPutUnsignedVarintPinLaw", name := "ok", desc := "([BIIIJB)Z" } : Jvm.MethodName) method_4_code (10 : Nat) (Option.some Jvm.ClassFile.FieldType.boolean)).before args0 about1 = true := code_word (m := ⟨1, 3⟩) (meth := k1m3) (c := k1c3) (by decide +kernel) rfl rfl rfl (by decide +kernel)
def codes1 : List Jvm.Cond := [Jvm.Cond.code x code maxLocals ret, Jvm.Cond.code ({ cls := "com/example/parley/parley/wire/WireWriterPutUnsignedVarintPinLaw", name := "size", desc := "(J)I" } : Jvm.MethodName) method_3_code (2 : Nat) (Option.some Jvm.ClassFile.FieldType.int), Jvm.Cond.code ({ cls := "com/example/parley/parley/wire/WireWriter", name := "putUnsignedVarint", desc := "([BIJ)I" } : Jvm.MethodName) prog_374_method_13_code (5 : Nat) (Option.some Jvm.ClassFile.FieldType.int), Jvm.Cond.code ({ cls := "com/example/parley/parley/wire/WireWriterPutUnsignedVarintPinLaw", name := "ok", desc := "([BIIIJB)Z" } : Jvm.MethodName) method_4_code (10 : Nat) (Option.some Jvm.ClassFile.FieldType.boolean)]
set_option maxRecDepth 65536 in
theorem codes_eq : words1.filter isCode = codes1 := rfl
theorem w_codes : ∀ c ∈ words1.filter isCode, c.before args0 about1 = true := by
  rw [codes_eq]
  intro c hc
  simp only [codes1, List.mem_cons, List.not_mem_nil, or_false] at hc
  rcases hc with rfl | rfl | rfl | rfl
  · exact w_c0
  · exact w_c1
  · exact w_c2
  · exact w_c3
set_option maxRecDepth 65536 in
theorem w_t1 : words1.all (fun c => isCode c || c.before args0 about1) = true := by decide +kernel
theorem w_tables : (allAtoms (Jvm.Cond.code x code maxLocals ret :: tables_1)).before args0 about1 = true := by
  rw [allAtoms_all]
  show words1.all (fun c => c.before args0 about1) = true
  refine all_split ?_ w_codes
  rw [w_t1]
set_option maxRecDepth 65536 in
theorem w_case : (Jvm.Cond.and given_1 narrow_1).before args0 about1 = true := by decide +kernel
theorem w_applies : (headSpec (Jvm.Cond.code x code maxLocals ret :: tables_1) room_1).applies x e0.platform about1 = true :=
  (Spec.applies_iff w_frames).mpr ⟨w_running, w_runnable, w_alone, w_named, w_hears, w_ripe, w_room, w_tables⟩
theorem atStart : AtStart classFile x code maxLocals ret World_1 tables_1 room_1 Calls_1 rest_1 Pre_1 launch0 p0 e0 about1 theMethod args0 below0 :=
  ⟨lists_1, trivial, launch0.admits_env _ _ _, launch0.least_env, fairChoices_fair.cas, fairChoices_fair.clock, w_frames, w_args, w_heap, w_applies, trivial, trivial, w_case⟩
end start1
theorem witness_1 : WitnessClaimed_1 := ⟨start1.p0, start1.e0, start1.about1, start1.theMethod, start1.args0, start1.below0, start1.atStart⟩
end Jvm.Pilot.@@N@@
