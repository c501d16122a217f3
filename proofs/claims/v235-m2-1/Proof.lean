import JvmDerived
import JvmDerived.Pilot.@@N@@Statement
import JvmDerived.Pilot.@@N@@Code
set_option linter.unusedVariables false
set_option linter.unusedSimpArgs false
namespace Jvm.RoadKit
open Sem ClassFile Op Lib Jvm.Stand Jvm.Free Jvm.LawKit
section New
variable {p : Program} {l : Launch} {e : Env} {R : Room} {s : State} {m : MethodId} {args : Array Value} {below : List Frame} {meth : Method} {c : Code} {T : State} {locs : List Loc} {cells slots : Nat}
theorem retI (X : Stand p l e R s m args below meth c T locs cells slots) (hx : p.tables.exec = Jvm.exec) {pc : Nat} {Ls : Array Slot} {z : Int32} {rest : List Value} (hret : meth.sig.returnType = some .int) (hd : decode c.code pc = .ok (.ireturn, 1)) {fs : List Frame}
    (hl : ∀ (f : JFrame) (acts : List Action), f.method = m → f.locked = none → f.entered = [] → (doReturn e (T.setTop f) acts (some (.int z))).1 = T.setFrames fs) : Steps p.tables e below (T.setTop (mkF m pc Ls (.int z :: rest))) (T.setFrames fs) := by
  have hm' : T.vm.method? m = some meth := X.method'
  have hn : narrow .int (.int z) = .int z := rfl
  show Steps p.tables e below (T.setTop { method := m, pc := pc, locals := Ls, stack := _ :: rest, locked := none }) _
  jvm_step X.here [X.here.top, hx, hd, hm', hret, hn]
  first | (intro acts; rw [hl _ acts rfl rfl rfl]) | rw [hl _ _ rfl rfl rfl]
  exact Steps.refl _
theorem own_lrem {target : State} (X : Stand p l e R s m args below meth c T locs cells slots) (hx : p.tables.exec = Jvm.exec) {g : JFrame} (hg : g.method = m) {x y : Int64} {rest : List Value} (hd : decode c.code g.pc = .ok (.lrem, 1)) (hs : g.stack = .long y :: .long x :: rest) (hy : y ≠ 0)
    (hr : Steps p.tables e below (T.setTop { g with pc := g.pc + 1, stack := .long (x % y) :: rest }) target) : Steps p.tables e below (T.setTop g) target :=
  XS.lrem X.here hx hg hd hs hy (by rw [lrem_mod]; exact hr)
theorem own_via {tb : Tables} {s0 target : State} (s' : State) (h : Steps tb e below s' target → Steps tb e below s0 target) (k : Steps tb e below s' target) : Steps tb e below s0 target := h k
end New
end Jvm.RoadKit
namespace Jvm.Pilot.@@N@@
open Jvm Jvm.ClassFile Sem Op Lib Jvm.Free Jvm.Stand Jvm.LawKit Jvm.RoadKit Bundle Jvm.Pilot.@@N@@.Jvm.D
theorem d1_0 : decode prog_16_method_9_code 0 = .ok (.lload_n 0, 1) := by decide +kernel
theorem d1_1 : decode prog_16_method_9_code 1 = .ok (.ldc2_w 106, 3) := by decide +kernel
theorem d1_4 : decode prog_16_method_9_code 4 = .ok (.lcmp, 1) := by decide +kernel
theorem d1_5 : decode prog_16_method_9_code 5 = .ok (.ifCond .lt 18, 3) := by decide +kernel
theorem d1_8 : decode prog_16_method_9_code 8 = .ok (.lload_n 0, 1) := by decide +kernel
theorem d1_9 : decode prog_16_method_9_code 9 = .ok (.ldc2_w 108, 3) := by decide +kernel
theorem d1_12 : decode prog_16_method_9_code 12 = .ok (.lmul, 1) := by decide +kernel
theorem d1_13 : decode prog_16_method_9_code 13 = .ok (.iload_n 2, 1) := by decide +kernel
theorem d1_14 : decode prog_16_method_9_code 14 = .ok (.i2l, 1) := by decide +kernel
theorem d1_15 : decode prog_16_method_9_code 15 = .ok (.lcmp, 1) := by decide +kernel
theorem d1_16 : decode prog_16_method_9_code 16 = .ok (.ifCond .le 7, 3) := by decide +kernel
theorem d1_19 : decode prog_16_method_9_code 19 = .ok (.iconst 1, 1) := by decide +kernel
theorem d1_20 : decode prog_16_method_9_code 20 = .ok (.goto 4, 3) := by decide +kernel
theorem d1_23 : decode prog_16_method_9_code 23 = .ok (.iconst 0, 1) := by decide +kernel
theorem d1_24 : decode prog_16_method_9_code 24 = .ok (.ireturn, 1) := by decide +kernel
theorem pn_1 : plainName "com/example/nimble_needle/nimbleneedle/algorithm/CharSieve" = true := by first | (simp [plainName, overriddenIn]; done) | decide +kernel
theorem ef_rm1 (m : MethodId) (q0 : Int64) (p1 : Int32) : entryFrame m #[(.long q0), (.int p1)] 3 = mkF m 0 #[.val (.long q0), .second, .val (.int p1)] [] := by first | (simp [entryFrame, mkF, argsToLocals, Value.category]; done) | rfl
def Qrm1 (Z : State) (q0 : Int64) (p1 : Int32) (h0 : Heap) (n0 : Nat) (v : Option Value) (h : Heap) (L : List Loc) : Prop := v = some (.int (nar .boolean (if q0 < (4 : Int64) then (0 : Int32) else (if (p1.toInt64) < (q0 * (8 : Int64)) then (1 : Int32) else (0 : Int32))))) ∧ Fr n0 L ∧ h = h0
set_option maxRecDepth 65536 in
set_option maxHeartbeats 40000000 in
theorem rm1 (l : Launch) (Z : State) (A0 : Array Value) (hw : ∀ d ∈ tables_1, d.before A0 Z = true) (ws : List Jvm.Cond) (q0 : Int64) (p1 : Int32) (h0 : Heap) (n0 : Nat) (Z0 : n0 ≤ h0.size) :
    MetFree l (⟨"com/example/nimble_needle/nimbleneedle/algorithm/CharSieve", "dense", "(JI)Z"⟩ : MethodName) (head1 (Jvm.Cond.code (⟨"com/example/nimble_needle/nimbleneedle/algorithm/CharSieve", "dense", "(JI)Z"⟩ : MethodName) prog_16_method_9_code 3 (some .boolean) :: ws) ({ frames := 0, cells := 0, slots := 0, locals := 0 } : Room)) (fun a U => a = #[(.long q0), (.int p1)] ∧ Z.Warmed39 U.vm ∧ U.heap = h0) (fun _ _ _ _ _ => True) (fun _ U o U' => ∃ v L, o = .returned v ∧ Qrm1 Z q0 p1 h0 n0 v U'.heap L ∧ FrameEnd U o U' L ({ frames := 0, cells := 0, slots := 0, locals := 0 } : Room).cells ({ frames := 0, cells := 0, slots := 0, locals := 0 } : Room).slots) := by
  refine MetFree.of_bodySF (plainFor_of_name pn_1) hisR ?_
  intro p e s m args below meth c s₁ Bd hml0 hP hK
  obtain ⟨rfl, hZ, hh⟩ := hP
  have hx := Bd.exec
  have hby := Bd.bytes
  have hml : c.maxLocals = 3 := hml0
  have hown : s.vm.findClass "com/example/nimble_needle/nimbleneedle/algorithm/CharSieve" = some m.cls := findClass_of_methodNamed Bd.named
  have hnm := (name_of_methodNamed Bd.named Bd.method).1
  have X0 : Stand p l e ({ frames := 0, cells := 0, slots := 0, locals := 0 } : Room) s m #[(.long q0), (.int p1)] below meth c s₁ [] 0 0 := Stand.of_body Bd
  have e0 : s₁.heap = h0 := by rw [← hh, Bd.state]; rfl
  have N0 := Fr.nil n0
  have K0 : Keep h0 h0 [] := Keep.refl _ _
  have pre0 : ∀ t, Steps p.tables e below (s₁.setTop (mkF m 0 #[.val (.long q0), .second, .val (.int p1)] [])) t → Steps p.tables e below (s₁.setTop (entryFrame m #[(.long q0), (.int p1)] 3)) t := fun t k => castTop (ef_rm1 m q0 p1) k
  obtain ⟨fs, hr, hrun, hended, hW, hsame⟩ := X0.leave (v := some (.int (nar .boolean (if q0 < (4 : Int64) then (0 : Int32) else (if (p1.toInt64) < (q0 * (8 : Int64)) then (1 : Int32) else (0 : Int32)))))) (fun h => by rw [Bd.returns] at h; cases h)
  refine ⟨_, _, pre0 _ ?_, hrun, hended, _, _, rfl, ?_, ⟨_, rfl⟩, hW, hsame.mono (by decide) (by decide)⟩
  · show Steps p.tables e below (s₁.setTop (mkF m 0 #[.val (.long q0), .second, .val (.int p1)] [])) _
    refine XS.lloadN X0.here hx rfl (hb hby d1_0) rfl ?_
    show Steps p.tables e below (s₁.setTop (mkF m 1 #[.val (.long q0), .second, .val (.int p1)] [(.long q0)])) _
    refine X0.ldc2Long hx hown (mvT hZ (hw _ (List.mem_of_getElem? (i := 6) rfl))) (g := (mkF m 1 #[.val (.long q0), .second, .val (.int p1)] [(.long q0)])) rfl (hb hby d1_1) _ ?_
    show Steps p.tables e below (s₁.setTop (mkF m 4 #[.val (.long q0), .second, .val (.int p1)] [(.long (4 : Int64)), (.long q0)])) _
    refine XS.lcmp X0.here hx rfl (hb hby d1_4) rfl ?_
    refine own_via (s₁.setTop (mkF m 24 #[.val (.long q0), .second, .val (.int p1)] [(.int (if q0 < (4 : Int64) then (0 : Int32) else (if (p1.toInt64) < (q0 * (8 : Int64)) then (1 : Int32) else (0 : Int32))))])) (fun k => ?_) ?_
    · by_cases hc5 : q0 < (4 : Int64)
      · show Steps p.tables e below (s₁.setTop (mkF m 5 #[.val (.long q0), .second, .val (.int p1)] [(.int (lcmpW q0 (4 : Int64)))])) _
        refine XS.ifYes X0.here hx rfl (pc0 := 5) (pc' := 23) rfl (hb hby d1_5) rfl ((if0 _ _).trans (tlt ((lw_lt _ _).mpr hc5)).1) (by decide) (by decide) ?_
        show Steps p.tables e below (s₁.setTop (mkF m 23 #[.val (.long q0), .second, .val (.int p1)] [])) _
        refine XS.iconst X0.here hx rfl (hb hby d1_23) ?_
        try simp only [if_pos hc5] at k
        exact k
      · show Steps p.tables e below (s₁.setTop (mkF m 5 #[.val (.long q0), .second, .val (.int p1)] [(.int (lcmpW q0 (4 : Int64)))])) _
        refine XS.ifNo X0.here hx rfl (hb hby d1_5) rfl ((if0 _ _).trans (flt (mt (lw_lt _ _).mp hc5)).1) ?_
        show Steps p.tables e below (s₁.setTop (mkF m 8 #[.val (.long q0), .second, .val (.int p1)] [])) _
        refine XS.lloadN X0.here hx rfl (hb hby d1_8) rfl ?_
        show Steps p.tables e below (s₁.setTop (mkF m 9 #[.val (.long q0), .second, .val (.int p1)] [(.long q0)])) _
        refine X0.ldc2Long hx hown (mvT hZ (hw _ (List.mem_of_getElem? (i := 11) rfl))) (g := (mkF m 9 #[.val (.long q0), .second, .val (.int p1)] [(.long q0)])) rfl (hb hby d1_9) _ ?_
        show Steps p.tables e below (s₁.setTop (mkF m 12 #[.val (.long q0), .second, .val (.int p1)] [(.long (8 : Int64)), (.long q0)])) _
        refine XS.lmul X0.here hx rfl (hb hby d1_12) rfl ?_
        show Steps p.tables e below (s₁.setTop (mkF m 13 #[.val (.long q0), .second, .val (.int p1)] [(.long (q0 * (8 : Int64)))])) _
        refine XS.iloadN X0.here hx rfl (hb hby d1_13) rfl ?_
        show Steps p.tables e below (s₁.setTop (mkF m 14 #[.val (.long q0), .second, .val (.int p1)] [(.int p1), (.long (q0 * (8 : Int64)))])) _
        refine XS.i2l X0.here hx rfl (hb hby d1_14) rfl ?_
        show Steps p.tables e below (s₁.setTop (mkF m 15 #[.val (.long q0), .second, .val (.int p1)] [(.long (p1.toInt64)), (.long (q0 * (8 : Int64)))])) _
        refine XS.lcmp X0.here hx rfl (hb hby d1_15) rfl ?_
        by_cases hc16 : (p1.toInt64) < (q0 * (8 : Int64))
        · show Steps p.tables e below (s₁.setTop (mkF m 16 #[.val (.long q0), .second, .val (.int p1)] [(.int (lcmpW (q0 * (8 : Int64)) (p1.toInt64)))])) _
          refine XS.ifNo X0.here hx rfl (hb hby d1_16) rfl ((if0 _ _).trans (tlt ((lw_gt _ _).mpr hc16)).2.2.2) ?_
          show Steps p.tables e below (s₁.setTop (mkF m 19 #[.val (.long q0), .second, .val (.int p1)] [])) _
          refine XS.iconst X0.here hx rfl (hb hby d1_19) ?_
          show Steps p.tables e below (s₁.setTop (mkF m 20 #[.val (.long q0), .second, .val (.int p1)] [(.int (1 : Int32))])) _
          refine XS.goto X0.here hx rfl (pc0 := 20) (pc' := 24) rfl (hb hby d1_20) (by decide) (by decide) ?_
          try simp only [if_neg hc5, if_pos hc16] at k
          exact k
        · show Steps p.tables e below (s₁.setTop (mkF m 16 #[.val (.long q0), .second, .val (.int p1)] [(.int (lcmpW (q0 * (8 : Int64)) (p1.toInt64)))])) _
          refine XS.ifYes X0.here hx rfl (pc0 := 16) (pc' := 23) rfl (hb hby d1_16) rfl ((if0 _ _).trans (flt (mt (lw_gt _ _).mp hc16)).2.2.2) (by decide) (by decide) ?_
          show Steps p.tables e below (s₁.setTop (mkF m 23 #[.val (.long q0), .second, .val (.int p1)] [])) _
          refine XS.iconst X0.here hx rfl (hb hby d1_23) ?_
          try simp only [if_neg hc5, if_neg hc16] at k
          exact k
    show Steps p.tables e below (s₁.setTop (mkF m 24 #[.val (.long q0), .second, .val (.int p1)] [(.int (if q0 < (4 : Int64) then (0 : Int32) else (if (p1.toInt64) < (q0 * (8 : Int64)) then (1 : Int32) else (0 : Int32))))])) _
    exact retN X0 hx (t := .boolean) Bd.returns (by simp) (hb hby d1_24) hr
  · show Qrm1 Z q0 p1 h0 n0 _ s₁.heap _
    rw [e0]
    exact ⟨rfl, N0, rfl⟩
theorem d2_0 : decode jdk_29_method_66_code 0 = .ok (.lload_n 0, 1) := by decide +kernel
theorem d2_1 : decode jdk_29_method_66_code 1 = .ok (.lload_n 2, 1) := by decide +kernel
theorem d2_2 : decode jdk_29_method_66_code 2 = .ok (.lcmp, 1) := by decide +kernel
theorem d2_3 : decode jdk_29_method_66_code 3 = .ok (.ifCond .lt 7, 3) := by decide +kernel
theorem d2_6 : decode jdk_29_method_66_code 6 = .ok (.lload_n 0, 1) := by decide +kernel
theorem d2_7 : decode jdk_29_method_66_code 7 = .ok (.goto 4, 3) := by decide +kernel
theorem d2_10 : decode jdk_29_method_66_code 10 = .ok (.lload_n 2, 1) := by decide +kernel
theorem d2_11 : decode jdk_29_method_66_code 11 = .ok (.lreturn, 1) := by decide +kernel
theorem ef_rm2 (m : MethodId) (q0 : Int64) (q1 : Int64) : entryFrame m #[(.long q0), (.long q1)] 4 = mkF m 0 #[.val (.long q0), .second, .val (.long q1), .second] [] := by first | (simp [entryFrame, mkF, argsToLocals, Value.category]; done) | rfl
def Qrm2 (Z : State) (q0 : Int64) (q1 : Int64) (h0 : Heap) (n0 : Nat) (v : Option Value) (h : Heap) (L : List Loc) : Prop := v = some (.long (if q0 < q1 then q1 else q0)) ∧ Fr n0 L ∧ h = h0
set_option maxRecDepth 65536 in
set_option maxHeartbeats 40000000 in
theorem rm2 (l : Launch) (Z : State) (A0 : Array Value) (hw : ∀ d ∈ tables_1, d.before A0 Z = true) (ws : List Jvm.Cond) (q0 : Int64) (q1 : Int64) (h0 : Heap) (n0 : Nat) (Z0 : n0 ≤ h0.size) :
    MetFree l (⟨"java/lang/Math", "max", "(JJ)J"⟩ : MethodName) (head1 (Jvm.Cond.code (⟨"java/lang/Math", "max", "(JJ)J"⟩ : MethodName) jdk_29_method_66_code 4 (some .long) :: ws) ({ frames := 0, cells := 0, slots := 0, locals := 0 } : Room)) (fun a U => a = #[(.long q0), (.long q1)] ∧ Z.Warmed39 U.vm ∧ U.heap = h0) (fun _ _ _ _ _ => True) (fun _ U o U' => ∃ v L, o = .returned v ∧ Qrm2 Z q0 q1 h0 n0 v U'.heap L ∧ FrameEnd U o U' L ({ frames := 0, cells := 0, slots := 0, locals := 0 } : Room).cells ({ frames := 0, cells := 0, slots := 0, locals := 0 } : Room).slots) := by
  refine MetFree.of_bodySF (Jvm.Free.JP.mathPlain rfl (by decide +kernel)) hisR ?_
  intro p e s m args below meth c s₁ Bd hml0 hP hK
  obtain ⟨rfl, hZ, hh⟩ := hP
  have hx := Bd.exec
  have hby := Bd.bytes
  have hml : c.maxLocals = 4 := hml0
  have hown : s.vm.findClass "java/lang/Math" = some m.cls := findClass_of_methodNamed Bd.named
  have hnm := (name_of_methodNamed Bd.named Bd.method).1
  have X0 : Stand p l e ({ frames := 0, cells := 0, slots := 0, locals := 0 } : Room) s m #[(.long q0), (.long q1)] below meth c s₁ [] 0 0 := Stand.of_body Bd
  have e0 : s₁.heap = h0 := by rw [← hh, Bd.state]; rfl
  have N0 := Fr.nil n0
  have K0 : Keep h0 h0 [] := Keep.refl _ _
  have pre0 : ∀ t, Steps p.tables e below (s₁.setTop (mkF m 0 #[.val (.long q0), .second, .val (.long q1), .second] [])) t → Steps p.tables e below (s₁.setTop (entryFrame m #[(.long q0), (.long q1)] 4)) t := fun t k => castTop (ef_rm2 m q0 q1) k
  obtain ⟨fs, hr, hrun, hended, hW, hsame⟩ := X0.leave (v := some (.long (if q0 < q1 then q1 else q0))) (fun h => by rw [Bd.returns] at h; cases h)
  refine ⟨_, _, pre0 _ ?_, hrun, hended, _, _, rfl, ?_, ⟨_, rfl⟩, hW, hsame.mono (by decide) (by decide)⟩
  · show Steps p.tables e below (s₁.setTop (mkF m 0 #[.val (.long q0), .second, .val (.long q1), .second] [])) _
    refine XS.lloadN X0.here hx rfl (hb hby d2_0) rfl ?_
    show Steps p.tables e below (s₁.setTop (mkF m 1 #[.val (.long q0), .second, .val (.long q1), .second] [(.long q0)])) _
    refine XS.lloadN X0.here hx rfl (hb hby d2_1) rfl ?_
    show Steps p.tables e below (s₁.setTop (mkF m 2 #[.val (.long q0), .second, .val (.long q1), .second] [(.long q1), (.long q0)])) _
    refine XS.lcmp X0.here hx rfl (hb hby d2_2) rfl ?_
    refine own_via (s₁.setTop (mkF m 11 #[.val (.long q0), .second, .val (.long q1), .second] [(.long (if q0 < q1 then q1 else q0))])) (fun k => ?_) ?_
    · by_cases hc3 : q0 < q1
      · show Steps p.tables e below (s₁.setTop (mkF m 3 #[.val (.long q0), .second, .val (.long q1), .second] [(.int (lcmpW q0 q1))])) _
        refine XS.ifYes X0.here hx rfl (pc0 := 3) (pc' := 10) rfl (hb hby d2_3) rfl ((if0 _ _).trans (tlt ((lw_lt _ _).mpr hc3)).1) (by decide) (by decide) ?_
        show Steps p.tables e below (s₁.setTop (mkF m 10 #[.val (.long q0), .second, .val (.long q1), .second] [])) _
        refine XS.lloadN X0.here hx rfl (hb hby d2_10) rfl ?_
        try simp only [if_pos hc3] at k
        exact k
      · show Steps p.tables e below (s₁.setTop (mkF m 3 #[.val (.long q0), .second, .val (.long q1), .second] [(.int (lcmpW q0 q1))])) _
        refine XS.ifNo X0.here hx rfl (hb hby d2_3) rfl ((if0 _ _).trans (flt (mt (lw_lt _ _).mp hc3)).1) ?_
        show Steps p.tables e below (s₁.setTop (mkF m 6 #[.val (.long q0), .second, .val (.long q1), .second] [])) _
        refine XS.lloadN X0.here hx rfl (hb hby d2_6) rfl ?_
        show Steps p.tables e below (s₁.setTop (mkF m 7 #[.val (.long q0), .second, .val (.long q1), .second] [(.long q0)])) _
        refine XS.goto X0.here hx rfl (pc0 := 7) (pc' := 11) rfl (hb hby d2_7) (by decide) (by decide) ?_
        try simp only [if_neg hc3] at k
        exact k
    show Steps p.tables e below (s₁.setTop (mkF m 11 #[.val (.long q0), .second, .val (.long q1), .second] [(.long (if q0 < q1 then q1 else q0))])) _
    jvm_step X0.here [X0.here.top, hx, (hb hby d2_11), X0.method', Bd.returns, narrow]
    first | (intro acts; rw [hr _ acts rfl rfl rfl]) | rw [hr _ _ rfl rfl rfl]
    exact Steps.refl _
  · show Qrm2 Z q0 q1 h0 n0 _ s₁.heap _
    rw [e0]
    exact ⟨rfl, N0, rfl⟩
theorem own_fin (st : Int64) (z : Int32) (h0 : 0 ≤ st.toInt) (h1 : st.toInt < 1152921504606846976) :
    (nar .boolean (if st < (4 : Int64) then (0 : Int32) else (if (z.toInt64) < (st * (8 : Int64)) then (1 : Int32) else (0 : Int32)))) = (if st < (4 : Int64) then (0 : Int32) else (if ((z >>> ((3 : Int32) &&& 31)).toInt64) < st then (1 : Int32) else (0 : Int32))) := by
  have e1 : (z.toInt64) < (st * (8 : Int64)) ↔ ((z >>> ((3 : Int32) &&& 31)).toInt64) < st := by
    rw [Int64.lt_iff_toInt_lt, Int64.lt_iff_toInt_lt, c_i2l, c_i2l, c_ishr z 3 3 (by decide)]
    have a := c_lmul st 8
    have b := rng64 (st * 8)
    have e8 : (8 : Int64).toInt = 8 := by decide
    rw [e8] at a
    have e3 : ((2 ^ 3 : Nat) : Int) = 8 := by decide
    rw [e3]
    omega
  simp only [e1]
  by_cases h4 : st < (4 : Int64)
  · simp only [if_pos h4]; rfl
  · simp only [if_neg h4]
    split <;> rfl
theorem own_m0 (q : Int64) : 0 ≤ (q &&& (1152921504606846975 : Int64)).toInt ∧ (q &&& (1152921504606846975 : Int64)).toInt < 1152921504606846976 := by
  rw [c_maskL q 1152921504606846975 60 (by decide) (by decide)]
  have e3 : ((2 ^ 60 : Nat) : Int) = 1152921504606846976 := by decide
  rw [e3]; omega
theorem own_m1 (q : Int64) : 0 ≤ (q &&& (7 : Int64)).toInt ∧ (q &&& (7 : Int64)).toInt < 1152921504606846976 := by
  rw [c_maskL q 7 3 (by decide) (by decide)]
  have e3 : ((2 ^ 3 : Nat) : Int) = 8 := by decide
  rw [e3]; omega
theorem own_m2 (z d : Int32) : 0 ≤ (if (0 : Int64) < (((z >>> ((3 : Int32) &&& 31)).toInt64) + ((d % (3 : Int32)).toInt64)) then (((z >>> ((3 : Int32) &&& 31)).toInt64) + ((d % (3 : Int32)).toInt64)) else (0 : Int64)).toInt ∧ (if (0 : Int64) < (((z >>> ((3 : Int32) &&& 31)).toInt64) + ((d % (3 : Int32)).toInt64)) then (((z >>> ((3 : Int32) &&& 31)).toInt64) + ((d % (3 : Int32)).toInt64)) else (0 : Int64)).toInt < 1152921504606846976 := by
  have a := c_ladd ((z >>> ((3 : Int32) &&& 31)).toInt64) ((d % (3 : Int32)).toInt64)
  have b := rng64 (((z >>> ((3 : Int32) &&& 31)).toInt64) + ((d % (3 : Int32)).toInt64))
  rw [c_i2l, c_i2l] at a
  have r1 := rng32 (z >>> ((3 : Int32) &&& 31))
  have r2 := rng32 (d % (3 : Int32))
  have e0 : (0 : Int64).toInt = 0 := by decide
  split
  · rename_i h
    rw [Int64.lt_iff_toInt_lt, e0] at h
    omega
  · rw [e0]; omega

theorem pd_0 : parseMethodDescriptor "(JI)Z" = some ⟨[.long, .int], some .boolean⟩ := by decide +kernel
theorem pd_1 : parseMethodDescriptor "(JJ)J" = some ⟨[.long, .long], some .long⟩ := by decide +kernel
theorem pn_0 : plainName "com/example/nimble_needle/nimbleneedle/algorithm/CharSieveDensePinLaw" = true := by first | (simp [plainName, overriddenIn]; done) | decide +kernel
theorem ef_rm0 (m : MethodId) (q0 : Int64) (p1 : Int32) (p2 : Int32) (p3 : Int32) : entryFrame m #[(.long q0), (.int p1), (.int p2), (.int p3)] maxLocals = mkF m 0 #[.val (.long q0), .second, .val (.int p1), .val (.int p2), .val (.int p3), .unset, .unset, .unset, .unset] [] := by first | (simp [entryFrame, mkF, argsToLocals, Value.category, maxLocals]; done) | rfl
def Qrm0 (Z : State) (q0 : Int64) (p1 : Int32) (p2 : Int32) (p3 : Int32) (h0 : Heap) (n0 : Nat) (v : Option Value) (h : Heap) (L : List Loc) : Prop := v = some (.int (1 : Int32)) ∧ Fr n0 L
set_option maxRecDepth 65536 in
set_option maxHeartbeats 40000000 in
theorem rm0 (l : Launch) (Z : State) (A0 : Array Value) (hw : ∀ d ∈ tables_1, d.before A0 Z = true) (ws : List Jvm.Cond) (q0 : Int64) (p1 : Int32) (p2 : Int32) (p3 : Int32) (h0 : Heap) (n0 : Nat) (Z0 : n0 ≤ h0.size) :
    MetFree l x (head1 (Jvm.Cond.code x code maxLocals ret :: ws) room_1) (fun a U => a = #[(.long q0), (.int p1), (.int p2), (.int p3)] ∧ Z.Warmed39 U.vm ∧ U.heap = h0) (fun _ _ _ _ _ => True) (fun _ U o U' => ∃ v L, o = .returned v ∧ Qrm0 Z q0 p1 p2 p3 h0 n0 v U'.heap L ∧ FrameEnd U o U' L room_1.cells room_1.slots) := by
  refine MetFree.of_bodySF (plainFor_of_name pn_0) hisR ?_
  intro p e s m args below meth c s₁ Bd hml0 hP hK
  obtain ⟨rfl, hZ, hh⟩ := hP
  have hx := Bd.exec
  have hby := Bd.bytes
  have hml : c.maxLocals = 9 := hml0
  have hown : s.vm.findClass "com/example/nimble_needle/nimbleneedle/algorithm/CharSieveDensePinLaw" = some m.cls := findClass_of_methodNamed Bd.named
  have hnm := (name_of_methodNamed Bd.named Bd.method).1
  have X0 : Stand p l e room_1 s m #[(.long q0), (.int p1), (.int p2), (.int p3)] below meth c s₁ [] 0 0 := Stand.of_body Bd
  have e0 : s₁.heap = h0 := by rw [← hh, Bd.state]; rfl
  have N0 := Fr.nil n0
  have K0 : Keep h0 h0 [] := Keep.refl _ _
  have pre0 : ∀ t, Steps p.tables e below (s₁.setTop (mkF m 0 #[.val (.long q0), .second, .val (.int p1), .val (.int p2), .val (.int p3), .unset, .unset, .unset, .unset] [])) t → Steps p.tables e below (s₁.setTop (entryFrame m #[(.long q0), (.int p1), (.int p2), (.int p3)] maxLocals)) t := fun t k => castTop (ef_rm0 m q0 p1 p2 p3) k
  by_cases hc8 : (p3 &&& (3 : Int32)) = (0 : Int32)
  · obtain ⟨st, h_st⟩ : ∃ z : Int64, z = (q0 &&& (1152921504606846975 : Int64)) := ⟨_, rfl⟩
    obtain ⟨_, _, ⟨T1, L1, k1, n1⟩, -, X1, ⟨Lc1, hQ1, l1, y1, z1⟩, st1⟩ := Jvm.LawKit.callS X0 hx (y := (⟨"com/example/nimble_needle/nimbleneedle/algorithm/CharSieve", "dense", "(JI)Z"⟩ : MethodName)) hown (mvT hZ (hw _ (List.mem_of_getElem? (i := 2) rfl))) (mvT hZ (hw _ (List.mem_of_getElem? (i := 3) rfl))) (mvT hZ (hw _ (List.mem_of_getElem? (i := 4) rfl))) (mvT hZ (hw _ (List.mem_of_getElem? (i := 5) rfl))) (by decide) (backOf (W := 0) (rm1 l Z A0 hw [] st p1  h0 n0 Z0 ) hZ (hw _ (List.mem_of_getElem? (i := 5) rfl)) (hw _ (List.mem_of_getElem? (i := 4) rfl)) (by decide) (by decide)) (g := (mkF m 81 #[.val (.long q0), .second, .val (.int p1), .val (.int p2), .val (.int p3), .val (.int (p3 &&& (3 : Int32))), .val (.long st), .second, .val (.int (if st < (4 : Int64) then (0 : Int32) else (if ((p1 >>> ((3 : Int32) &&& 31)).toInt64) < st then (1 : Int32) else (0 : Int32))))] [(.int p1), (.long st)])) rfl (by rw [hml]; rfl) (argsL := [(.long st), (.int p1)]) (rest := []) (lenOf pd_0 rfl) rfl (by show 2 * 0 + _ ≤ _; exact Nat.le_of_eq rfl) (hb hby at_81) (fun _ _ => ⟨rfl, e0, (by decide : 0 + 0 ≤ _), (by decide : 0 + 0 ≤ _)⟩)
    dsimp only [Pt.U, Pt.locs, Pt.cells, Pt.slots] at X1 l1 y1 z1 st1 hQ1
    subst l1 y1 z1
    obtain ⟨rfl, N1q, eh1⟩ := hQ1
    have N1 := Fr.app N0 N1q
    obtain ⟨fs, hr, hrun, hended, hW, hsame⟩ := X1.leave (v := some (.int (1 : Int32))) (fun h => by rw [Bd.returns] at h; cases h)
    refine ⟨_, _, pre0 _ ?_, hrun, hended, _, _, rfl, ?_, ⟨_, rfl⟩, hW, hsame.mono (by decide) (by decide)⟩
    · show Steps p.tables e below (s₁.setTop (mkF m 0 #[.val (.long q0), .second, .val (.int p1), .val (.int p2), .val (.int p3), .unset, .unset, .unset, .unset] [])) _
      refine XS.iload X0.here hx rfl (hb hby at_0) rfl ?_
      show Steps p.tables e below (s₁.setTop (mkF m 2 #[.val (.long q0), .second, .val (.int p1), .val (.int p2), .val (.int p3), .unset, .unset, .unset, .unset] [(.int p3)])) _
      refine XS.iconst X0.here hx rfl (hb hby at_2) ?_
      show Steps p.tables e below (s₁.setTop (mkF m 3 #[.val (.long q0), .second, .val (.int p1), .val (.int p2), .val (.int p3), .unset, .unset, .unset, .unset] [(.int (3 : Int32)), (.int p3)])) _
      refine XS.iand X0.here hx rfl (hb hby at_3) rfl ?_
      show Steps p.tables e below (s₁.setTop (mkF m 4 #[.val (.long q0), .second, .val (.int p1), .val (.int p2), .val (.int p3), .unset, .unset, .unset, .unset] [(.int (p3 &&& (3 : Int32)))])) _
      refine XS.istore X0.here hx rfl (hb hby at_4) rfl (l' := #[.val (.long q0), .second, .val (.int p1), .val (.int p2), .val (.int p3), .val (.int (p3 &&& (3 : Int32))), .unset, .unset, .unset]) rfl ?_
      show Steps p.tables e below (s₁.setTop (mkF m 6 #[.val (.long q0), .second, .val (.int p1), .val (.int p2), .val (.int p3), .val (.int (p3 &&& (3 : Int32))), .unset, .unset, .unset] [])) _
      refine XS.iload X0.here hx rfl (hb hby at_6) rfl ?_
      show Steps p.tables e below (s₁.setTop (mkF m 8 #[.val (.long q0), .second, .val (.int p1), .val (.int p2), .val (.int p3), .val (.int (p3 &&& (3 : Int32))), .unset, .unset, .unset] [(.int (p3 &&& (3 : Int32)))])) _
      refine XS.ifNo X0.here hx rfl (hb hby at_8) rfl ((if0 _ _).trans (teq hc8).2) ?_
      show Steps p.tables e below (s₁.setTop (mkF m 11 #[.val (.long q0), .second, .val (.int p1), .val (.int p2), .val (.int p3), .val (.int (p3 &&& (3 : Int32))), .unset, .unset, .unset] [])) _
      refine XS.lloadN X0.here hx rfl (hb hby at_11) rfl ?_
      show Steps p.tables e below (s₁.setTop (mkF m 12 #[.val (.long q0), .second, .val (.int p1), .val (.int p2), .val (.int p3), .val (.int (p3 &&& (3 : Int32))), .unset, .unset, .unset] [(.long q0)])) _
      refine X0.ldc2Long hx hown (mvT hZ (hw _ (List.mem_of_getElem? (i := 0) rfl))) (g := (mkF m 12 #[.val (.long q0), .second, .val (.int p1), .val (.int p2), .val (.int p3), .val (.int (p3 &&& (3 : Int32))), .unset, .unset, .unset] [(.long q0)])) rfl (hb hby at_12) _ ?_
      show Steps p.tables e below (s₁.setTop (mkF m 15 #[.val (.long q0), .second, .val (.int p1), .val (.int p2), .val (.int p3), .val (.int (p3 &&& (3 : Int32))), .unset, .unset, .unset] [(.long (1152921504606846975 : Int64)), (.long q0)])) _
      refine XS.land X0.here hx rfl (hb hby at_15) rfl ?_
      show Steps p.tables e below (s₁.setTop (mkF m 16 #[.val (.long q0), .second, .val (.int p1), .val (.int p2), .val (.int p3), .val (.int (p3 &&& (3 : Int32))), .unset, .unset, .unset] [(.long (q0 &&& (1152921504606846975 : Int64)))])) _
      rw [← h_st]
      show Steps p.tables e below (s₁.setTop (mkF m 16 #[.val (.long q0), .second, .val (.int p1), .val (.int p2), .val (.int p3), .val (.int (p3 &&& (3 : Int32))), .unset, .unset, .unset] [(.long st)])) _
      refine XS.lstore X0.here hx rfl (hb hby at_16) rfl (l' := #[.val (.long q0), .second, .val (.int p1), .val (.int p2), .val (.int p3), .val (.int (p3 &&& (3 : Int32))), .val (.long st), .second, .unset]) rfl ?_
      show Steps p.tables e below (s₁.setTop (mkF m 18 #[.val (.long q0), .second, .val (.int p1), .val (.int p2), .val (.int p3), .val (.int (p3 &&& (3 : Int32))), .val (.long st), .second, .unset] [])) _
      refine XS.goto X0.here hx rfl (pc0 := 18) (pc' := 52) rfl (hb hby at_18) (by decide) (by decide) ?_
      show Steps p.tables e below (s₁.setTop (mkF m 52 #[.val (.long q0), .second, .val (.int p1), .val (.int p2), .val (.int p3), .val (.int (p3 &&& (3 : Int32))), .val (.long st), .second, .unset] [])) _
      refine XS.lload X0.here hx rfl (hb hby at_52) rfl ?_
      show Steps p.tables e below (s₁.setTop (mkF m 54 #[.val (.long q0), .second, .val (.int p1), .val (.int p2), .val (.int p3), .val (.int (p3 &&& (3 : Int32))), .val (.long st), .second, .unset] [(.long st)])) _
      refine X0.ldc2Long hx hown (mvT hZ (hw _ (List.mem_of_getElem? (i := 1) rfl))) (g := (mkF m 54 #[.val (.long q0), .second, .val (.int p1), .val (.int p2), .val (.int p3), .val (.int (p3 &&& (3 : Int32))), .val (.long st), .second, .unset] [(.long st)])) rfl (hb hby at_54) _ ?_
      show Steps p.tables e below (s₁.setTop (mkF m 57 #[.val (.long q0), .second, .val (.int p1), .val (.int p2), .val (.int p3), .val (.int (p3 &&& (3 : Int32))), .val (.long st), .second, .unset] [(.long (4 : Int64)), (.long st)])) _
      refine XS.lcmp X0.here hx rfl (hb hby at_57) rfl ?_
      refine own_via (s₁.setTop (mkF m 76 #[.val (.long q0), .second, .val (.int p1), .val (.int p2), .val (.int p3), .val (.int (p3 &&& (3 : Int32))), .val (.long st), .second, .unset] [(.int (if st < (4 : Int64) then (0 : Int32) else (if ((p1 >>> ((3 : Int32) &&& 31)).toInt64) < st then (1 : Int32) else (0 : Int32))))])) (fun k => ?_) ?_
      · by_cases hc58 : st < (4 : Int64)
        · show Steps p.tables e below (s₁.setTop (mkF m 58 #[.val (.long q0), .second, .val (.int p1), .val (.int p2), .val (.int p3), .val (.int (p3 &&& (3 : Int32))), .val (.long st), .second, .unset] [(.int (lcmpW st (4 : Int64)))])) _
          refine XS.ifYes X0.here hx rfl (pc0 := 58) (pc' := 75) rfl (hb hby at_58) rfl ((if0 _ _).trans (tlt ((lw_lt _ _).mpr hc58)).1) (by decide) (by decide) ?_
          show Steps p.tables e below (s₁.setTop (mkF m 75 #[.val (.long q0), .second, .val (.int p1), .val (.int p2), .val (.int p3), .val (.int (p3 &&& (3 : Int32))), .val (.long st), .second, .unset] [])) _
          refine XS.iconst X0.here hx rfl (hb hby at_75) ?_
          try simp only [if_pos hc58] at k
          exact k
        · show Steps p.tables e below (s₁.setTop (mkF m 58 #[.val (.long q0), .second, .val (.int p1), .val (.int p2), .val (.int p3), .val (.int (p3 &&& (3 : Int32))), .val (.long st), .second, .unset] [(.int (lcmpW st (4 : Int64)))])) _
          refine XS.ifNo X0.here hx rfl (hb hby at_58) rfl ((if0 _ _).trans (flt (mt (lw_lt _ _).mp hc58)).1) ?_
          show Steps p.tables e below (s₁.setTop (mkF m 61 #[.val (.long q0), .second, .val (.int p1), .val (.int p2), .val (.int p3), .val (.int (p3 &&& (3 : Int32))), .val (.long st), .second, .unset] [])) _
          refine XS.iloadN X0.here hx rfl (hb hby at_61) rfl ?_
          show Steps p.tables e below (s₁.setTop (mkF m 62 #[.val (.long q0), .second, .val (.int p1), .val (.int p2), .val (.int p3), .val (.int (p3 &&& (3 : Int32))), .val (.long st), .second, .unset] [(.int p1)])) _
          refine XS.iconst X0.here hx rfl (hb hby at_62) ?_
          show Steps p.tables e below (s₁.setTop (mkF m 63 #[.val (.long q0), .second, .val (.int p1), .val (.int p2), .val (.int p3), .val (.int (p3 &&& (3 : Int32))), .val (.long st), .second, .unset] [(.int (3 : Int32)), (.int p1)])) _
          refine XS.ishr X0.here hx rfl (hb hby at_63) rfl ?_
          show Steps p.tables e below (s₁.setTop (mkF m 64 #[.val (.long q0), .second, .val (.int p1), .val (.int p2), .val (.int p3), .val (.int (p3 &&& (3 : Int32))), .val (.long st), .second, .unset] [(.int (p1 >>> ((3 : Int32) &&& 31)))])) _
          refine XS.i2l X0.here hx rfl (hb hby at_64) rfl ?_
          show Steps p.tables e below (s₁.setTop (mkF m 65 #[.val (.long q0), .second, .val (.int p1), .val (.int p2), .val (.int p3), .val (.int (p3 &&& (3 : Int32))), .val (.long st), .second, .unset] [(.long ((p1 >>> ((3 : Int32) &&& 31)).toInt64))])) _
          refine XS.lload X0.here hx rfl (hb hby at_65) rfl ?_
          show Steps p.tables e below (s₁.setTop (mkF m 67 #[.val (.long q0), .second, .val (.int p1), .val (.int p2), .val (.int p3), .val (.int (p3 &&& (3 : Int32))), .val (.long st), .second, .unset] [(.long st), (.long ((p1 >>> ((3 : Int32) &&& 31)).toInt64))])) _
          refine XS.lcmp X0.here hx rfl (hb hby at_67) rfl ?_
          by_cases hc68 : ((p1 >>> ((3 : Int32) &&& 31)).toInt64) < st
          · show Steps p.tables e below (s₁.setTop (mkF m 68 #[.val (.long q0), .second, .val (.int p1), .val (.int p2), .val (.int p3), .val (.int (p3 &&& (3 : Int32))), .val (.long st), .second, .unset] [(.int (lcmpW ((p1 >>> ((3 : Int32) &&& 31)).toInt64) st))])) _
            refine XS.ifNo X0.here hx rfl (hb hby at_68) rfl ((if0 _ _).trans (tlt ((lw_lt _ _).mpr hc68)).2.1) ?_
            show Steps p.tables e below (s₁.setTop (mkF m 71 #[.val (.long q0), .second, .val (.int p1), .val (.int p2), .val (.int p3), .val (.int (p3 &&& (3 : Int32))), .val (.long st), .second, .unset] [])) _
            refine XS.iconst X0.here hx rfl (hb hby at_71) ?_
            show Steps p.tables e below (s₁.setTop (mkF m 72 #[.val (.long q0), .second, .val (.int p1), .val (.int p2), .val (.int p3), .val (.int (p3 &&& (3 : Int32))), .val (.long st), .second, .unset] [(.int (1 : Int32))])) _
            refine XS.goto X0.here hx rfl (pc0 := 72) (pc' := 76) rfl (hb hby at_72) (by decide) (by decide) ?_
            try simp only [if_neg hc58, if_pos hc68] at k
            exact k
          · show Steps p.tables e below (s₁.setTop (mkF m 68 #[.val (.long q0), .second, .val (.int p1), .val (.int p2), .val (.int p3), .val (.int (p3 &&& (3 : Int32))), .val (.long st), .second, .unset] [(.int (lcmpW ((p1 >>> ((3 : Int32) &&& 31)).toInt64) st))])) _
            refine XS.ifYes X0.here hx rfl (pc0 := 68) (pc' := 75) rfl (hb hby at_68) rfl ((if0 _ _).trans (flt (mt (lw_lt _ _).mp hc68)).2.1) (by decide) (by decide) ?_
            show Steps p.tables e below (s₁.setTop (mkF m 75 #[.val (.long q0), .second, .val (.int p1), .val (.int p2), .val (.int p3), .val (.int (p3 &&& (3 : Int32))), .val (.long st), .second, .unset] [])) _
            refine XS.iconst X0.here hx rfl (hb hby at_75) ?_
            try simp only [if_neg hc58, if_neg hc68] at k
            exact k
      show Steps p.tables e below (s₁.setTop (mkF m 76 #[.val (.long q0), .second, .val (.int p1), .val (.int p2), .val (.int p3), .val (.int (p3 &&& (3 : Int32))), .val (.long st), .second, .unset] [(.int (if st < (4 : Int64) then (0 : Int32) else (if ((p1 >>> ((3 : Int32) &&& 31)).toInt64) < st then (1 : Int32) else (0 : Int32))))])) _
      refine XS.istore X0.here hx rfl (hb hby at_76) rfl (l' := #[.val (.long q0), .second, .val (.int p1), .val (.int p2), .val (.int p3), .val (.int (p3 &&& (3 : Int32))), .val (.long st), .second, .val (.int (if st < (4 : Int64) then (0 : Int32) else (if ((p1 >>> ((3 : Int32) &&& 31)).toInt64) < st then (1 : Int32) else (0 : Int32))))]) rfl ?_
      show Steps p.tables e below (s₁.setTop (mkF m 78 #[.val (.long q0), .second, .val (.int p1), .val (.int p2), .val (.int p3), .val (.int (p3 &&& (3 : Int32))), .val (.long st), .second, .val (.int (if st < (4 : Int64) then (0 : Int32) else (if ((p1 >>> ((3 : Int32) &&& 31)).toInt64) < st then (1 : Int32) else (0 : Int32))))] [])) _
      refine XS.lload X0.here hx rfl (hb hby at_78) rfl ?_
      show Steps p.tables e below (s₁.setTop (mkF m 80 #[.val (.long q0), .second, .val (.int p1), .val (.int p2), .val (.int p3), .val (.int (p3 &&& (3 : Int32))), .val (.long st), .second, .val (.int (if st < (4 : Int64) then (0 : Int32) else (if ((p1 >>> ((3 : Int32) &&& 31)).toInt64) < st then (1 : Int32) else (0 : Int32))))] [(.long st)])) _
      refine XS.iloadN X0.here hx rfl (hb hby at_80) rfl ?_
      show Steps p.tables e below (s₁.setTop (mkF m 81 #[.val (.long q0), .second, .val (.int p1), .val (.int p2), .val (.int p3), .val (.int (p3 &&& (3 : Int32))), .val (.long st), .second, .val (.int (if st < (4 : Int64) then (0 : Int32) else (if ((p1 >>> ((3 : Int32) &&& 31)).toInt64) < st then (1 : Int32) else (0 : Int32))))] [(.int p1), (.long st)])) _
      refine st1 _ ?_
      show Steps p.tables e below (T1.setTop (mkF m 84 #[.val (.long q0), .second, .val (.int p1), .val (.int p2), .val (.int p3), .val (.int (p3 &&& (3 : Int32))), .val (.long st), .second, .val (.int (if st < (4 : Int64) then (0 : Int32) else (if ((p1 >>> ((3 : Int32) &&& 31)).toInt64) < st then (1 : Int32) else (0 : Int32))))] [(.int (nar .boolean (if st < (4 : Int64) then (0 : Int32) else (if (p1.toInt64) < (st * (8 : Int64)) then (1 : Int32) else (0 : Int32)))))])) _
      refine XS.iload X1.here hx rfl (hb hby at_84) rfl ?_
      show Steps p.tables e below (T1.setTop (mkF m 86 #[.val (.long q0), .second, .val (.int p1), .val (.int p2), .val (.int p3), .val (.int (p3 &&& (3 : Int32))), .val (.long st), .second, .val (.int (if st < (4 : Int64) then (0 : Int32) else (if ((p1 >>> ((3 : Int32) &&& 31)).toInt64) < st then (1 : Int32) else (0 : Int32))))] [(.int (if st < (4 : Int64) then (0 : Int32) else (if ((p1 >>> ((3 : Int32) &&& 31)).toInt64) < st then (1 : Int32) else (0 : Int32)))), (.int (nar .boolean (if st < (4 : Int64) then (0 : Int32) else (if (p1.toInt64) < (st * (8 : Int64)) then (1 : Int32) else (0 : Int32)))))])) _
      refine XS.icmpNo X1.here hx rfl (hb hby at_86) rfl (teq (own_fin st p1 (h_st ▸ own_m0 q0).1 (h_st ▸ own_m0 q0).2 : (nar .boolean (if st < (4 : Int64) then (0 : Int32) else (if (p1.toInt64) < (st * (8 : Int64)) then (1 : Int32) else (0 : Int32)))) = (if st < (4 : Int64) then (0 : Int32) else (if ((p1 >>> ((3 : Int32) &&& 31)).toInt64) < st then (1 : Int32) else (0 : Int32))))).2 ?_
      show Steps p.tables e below (T1.setTop (mkF m 89 #[.val (.long q0), .second, .val (.int p1), .val (.int p2), .val (.int p3), .val (.int (p3 &&& (3 : Int32))), .val (.long st), .second, .val (.int (if st < (4 : Int64) then (0 : Int32) else (if ((p1 >>> ((3 : Int32) &&& 31)).toInt64) < st then (1 : Int32) else (0 : Int32))))] [])) _
      refine XS.iconst X1.here hx rfl (hb hby at_89) ?_
      show Steps p.tables e below (T1.setTop (mkF m 90 #[.val (.long q0), .second, .val (.int p1), .val (.int p2), .val (.int p3), .val (.int (p3 &&& (3 : Int32))), .val (.long st), .second, .val (.int (if st < (4 : Int64) then (0 : Int32) else (if ((p1 >>> ((3 : Int32) &&& 31)).toInt64) < st then (1 : Int32) else (0 : Int32))))] [(.int (1 : Int32))])) _
      refine XS.goto X1.here hx rfl (pc0 := 90) (pc' := 94) rfl (hb hby at_90) (by decide) (by decide) ?_
      show Steps p.tables e below (T1.setTop (mkF m 94 #[.val (.long q0), .second, .val (.int p1), .val (.int p2), .val (.int p3), .val (.int (p3 &&& (3 : Int32))), .val (.long st), .second, .val (.int (if st < (4 : Int64) then (0 : Int32) else (if ((p1 >>> ((3 : Int32) &&& 31)).toInt64) < st then (1 : Int32) else (0 : Int32))))] [(.int (1 : Int32))])) _
      exact retN X1 hx (t := .boolean) Bd.returns (by simp) (hb hby at_94) hr
    · show Qrm0 Z q0 p1 p2 p3 h0 n0 _ T1.heap _
      rw [eh1]
      exact ⟨rfl, N1⟩
  · by_cases hc24 : (p3 &&& (3 : Int32)) = (1 : Int32)
    · obtain ⟨st, h_st⟩ : ∃ z : Int64, z = (q0 &&& (7 : Int64)) := ⟨_, rfl⟩
      obtain ⟨_, _, ⟨T2, L2, k2, n2⟩, -, X2, ⟨Lc2, hQ2, l2, y2, z2⟩, st2⟩ := Jvm.LawKit.callS X0 hx (y := (⟨"com/example/nimble_needle/nimbleneedle/algorithm/CharSieve", "dense", "(JI)Z"⟩ : MethodName)) hown (mvT hZ (hw _ (List.mem_of_getElem? (i := 2) rfl))) (mvT hZ (hw _ (List.mem_of_getElem? (i := 3) rfl))) (mvT hZ (hw _ (List.mem_of_getElem? (i := 4) rfl))) (mvT hZ (hw _ (List.mem_of_getElem? (i := 5) rfl))) (by decide) (backOf (W := 0) (rm1 l Z A0 hw [] st p1  h0 n0 Z0 ) hZ (hw _ (List.mem_of_getElem? (i := 5) rfl)) (hw _ (List.mem_of_getElem? (i := 4) rfl)) (by decide) (by decide)) (g := (mkF m 81 #[.val (.long q0), .second, .val (.int p1), .val (.int p2), .val (.int p3), .val (.int (p3 &&& (3 : Int32))), .val (.long st), .second, .val (.int (if st < (4 : Int64) then (0 : Int32) else (if ((p1 >>> ((3 : Int32) &&& 31)).toInt64) < st then (1 : Int32) else (0 : Int32))))] [(.int p1), (.long st)])) rfl (by rw [hml]; rfl) (argsL := [(.long st), (.int p1)]) (rest := []) (lenOf pd_0 rfl) rfl (by show 2 * 0 + _ ≤ _; exact Nat.le_of_eq rfl) (hb hby at_81) (fun _ _ => ⟨rfl, e0, (by decide : 0 + 0 ≤ _), (by decide : 0 + 0 ≤ _)⟩)
      dsimp only [Pt.U, Pt.locs, Pt.cells, Pt.slots] at X2 l2 y2 z2 st2 hQ2
      subst l2 y2 z2
      obtain ⟨rfl, N2q, eh2⟩ := hQ2
      have N2 := Fr.app N0 N2q
      obtain ⟨fs, hr, hrun, hended, hW, hsame⟩ := X2.leave (v := some (.int (1 : Int32))) (fun h => by rw [Bd.returns] at h; cases h)
      refine ⟨_, _, pre0 _ ?_, hrun, hended, _, _, rfl, ?_, ⟨_, rfl⟩, hW, hsame.mono (by decide) (by decide)⟩
      · show Steps p.tables e below (s₁.setTop (mkF m 0 #[.val (.long q0), .second, .val (.int p1), .val (.int p2), .val (.int p3), .unset, .unset, .unset, .unset] [])) _
        refine XS.iload X0.here hx rfl (hb hby at_0) rfl ?_
        show Steps p.tables e below (s₁.setTop (mkF m 2 #[.val (.long q0), .second, .val (.int p1), .val (.int p2), .val (.int p3), .unset, .unset, .unset, .unset] [(.int p3)])) _
        refine XS.iconst X0.here hx rfl (hb hby at_2) ?_
        show Steps p.tables e below (s₁.setTop (mkF m 3 #[.val (.long q0), .second, .val (.int p1), .val (.int p2), .val (.int p3), .unset, .unset, .unset, .unset] [(.int (3 : Int32)), (.int p3)])) _
        refine XS.iand X0.here hx rfl (hb hby at_3) rfl ?_
        show Steps p.tables e below (s₁.setTop (mkF m 4 #[.val (.long q0), .second, .val (.int p1), .val (.int p2), .val (.int p3), .unset, .unset, .unset, .unset] [(.int (p3 &&& (3 : Int32)))])) _
        refine XS.istore X0.here hx rfl (hb hby at_4) rfl (l' := #[.val (.long q0), .second, .val (.int p1), .val (.int p2), .val (.int p3), .val (.int (p3 &&& (3 : Int32))), .unset, .unset, .unset]) rfl ?_
        show Steps p.tables e below (s₁.setTop (mkF m 6 #[.val (.long q0), .second, .val (.int p1), .val (.int p2), .val (.int p3), .val (.int (p3 &&& (3 : Int32))), .unset, .unset, .unset] [])) _
        refine XS.iload X0.here hx rfl (hb hby at_6) rfl ?_
        show Steps p.tables e below (s₁.setTop (mkF m 8 #[.val (.long q0), .second, .val (.int p1), .val (.int p2), .val (.int p3), .val (.int (p3 &&& (3 : Int32))), .unset, .unset, .unset] [(.int (p3 &&& (3 : Int32)))])) _
        refine XS.ifYes X0.here hx rfl (pc0 := 8) (pc' := 21) rfl (hb hby at_8) rfl ((if0 _ _).trans (feq hc8).2) (by decide) (by decide) ?_
        show Steps p.tables e below (s₁.setTop (mkF m 21 #[.val (.long q0), .second, .val (.int p1), .val (.int p2), .val (.int p3), .val (.int (p3 &&& (3 : Int32))), .unset, .unset, .unset] [])) _
        refine XS.iload X0.here hx rfl (hb hby at_21) rfl ?_
        show Steps p.tables e below (s₁.setTop (mkF m 23 #[.val (.long q0), .second, .val (.int p1), .val (.int p2), .val (.int p3), .val (.int (p3 &&& (3 : Int32))), .unset, .unset, .unset] [(.int (p3 &&& (3 : Int32)))])) _
        refine XS.iconst X0.here hx rfl (hb hby at_23) ?_
        show Steps p.tables e below (s₁.setTop (mkF m 24 #[.val (.long q0), .second, .val (.int p1), .val (.int p2), .val (.int p3), .val (.int (p3 &&& (3 : Int32))), .unset, .unset, .unset] [(.int (1 : Int32)), (.int (p3 &&& (3 : Int32)))])) _
        refine XS.icmpNo X0.here hx rfl (hb hby at_24) rfl (teq hc24).2 ?_
        show Steps p.tables e below (s₁.setTop (mkF m 27 #[.val (.long q0), .second, .val (.int p1), .val (.int p2), .val (.int p3), .val (.int (p3 &&& (3 : Int32))), .unset, .unset, .unset] [])) _
        refine XS.lloadN X0.here hx rfl (hb hby at_27) rfl ?_
        show Steps p.tables e below (s₁.setTop (mkF m 28 #[.val (.long q0), .second, .val (.int p1), .val (.int p2), .val (.int p3), .val (.int (p3 &&& (3 : Int32))), .unset, .unset, .unset] [(.long q0)])) _
        refine X0.ldc2Long hx hown (mvT hZ (hw _ (List.mem_of_getElem? (i := 12) rfl))) (g := (mkF m 28 #[.val (.long q0), .second, .val (.int p1), .val (.int p2), .val (.int p3), .val (.int (p3 &&& (3 : Int32))), .unset, .unset, .unset] [(.long q0)])) rfl (hb hby at_28) _ ?_
        show Steps p.tables e below (s₁.setTop (mkF m 31 #[.val (.long q0), .second, .val (.int p1), .val (.int p2), .val (.int p3), .val (.int (p3 &&& (3 : Int32))), .unset, .unset, .unset] [(.long (7 : Int64)), (.long q0)])) _
        refine XS.land X0.here hx rfl (hb hby at_31) rfl ?_
        show Steps p.tables e below (s₁.setTop (mkF m 32 #[.val (.long q0), .second, .val (.int p1), .val (.int p2), .val (.int p3), .val (.int (p3 &&& (3 : Int32))), .unset, .unset, .unset] [(.long (q0 &&& (7 : Int64)))])) _
        rw [← h_st]
        show Steps p.tables e below (s₁.setTop (mkF m 32 #[.val (.long q0), .second, .val (.int p1), .val (.int p2), .val (.int p3), .val (.int (p3 &&& (3 : Int32))), .unset, .unset, .unset] [(.long st)])) _
        refine XS.lstore X0.here hx rfl (hb hby at_32) rfl (l' := #[.val (.long q0), .second, .val (.int p1), .val (.int p2), .val (.int p3), .val (.int (p3 &&& (3 : Int32))), .val (.long st), .second, .unset]) rfl ?_
        show Steps p.tables e below (s₁.setTop (mkF m 34 #[.val (.long q0), .second, .val (.int p1), .val (.int p2), .val (.int p3), .val (.int (p3 &&& (3 : Int32))), .val (.long st), .second, .unset] [])) _
        refine XS.goto X0.here hx rfl (pc0 := 34) (pc' := 52) rfl (hb hby at_34) (by decide) (by decide) ?_
        show Steps p.tables e below (s₁.setTop (mkF m 52 #[.val (.long q0), .second, .val (.int p1), .val (.int p2), .val (.int p3), .val (.int (p3 &&& (3 : Int32))), .val (.long st), .second, .unset] [])) _
        refine XS.lload X0.here hx rfl (hb hby at_52) rfl ?_
        show Steps p.tables e below (s₁.setTop (mkF m 54 #[.val (.long q0), .second, .val (.int p1), .val (.int p2), .val (.int p3), .val (.int (p3 &&& (3 : Int32))), .val (.long st), .second, .unset] [(.long st)])) _
        refine X0.ldc2Long hx hown (mvT hZ (hw _ (List.mem_of_getElem? (i := 1) rfl))) (g := (mkF m 54 #[.val (.long q0), .second, .val (.int p1), .val (.int p2), .val (.int p3), .val (.int (p3 &&& (3 : Int32))), .val (.long st), .second, .unset] [(.long st)])) rfl (hb hby at_54) _ ?_
        show Steps p.tables e below (s₁.setTop (mkF m 57 #[.val (.long q0), .second, .val (.int p1), .val (.int p2), .val (.int p3), .val (.int (p3 &&& (3 : Int32))), .val (.long st), .second, .unset] [(.long (4 : Int64)), (.long st)])) _
        refine XS.lcmp X0.here hx rfl (hb hby at_57) rfl ?_
        refine own_via (s₁.setTop (mkF m 76 #[.val (.long q0), .second, .val (.int p1), .val (.int p2), .val (.int p3), .val (.int (p3 &&& (3 : Int32))), .val (.long st), .second, .unset] [(.int (if st < (4 : Int64) then (0 : Int32) else (if ((p1 >>> ((3 : Int32) &&& 31)).toInt64) < st then (1 : Int32) else (0 : Int32))))])) (fun k => ?_) ?_
        · by_cases hc58 : st < (4 : Int64)
          · show Steps p.tables e below (s₁.setTop (mkF m 58 #[.val (.long q0), .second, .val (.int p1), .val (.int p2), .val (.int p3), .val (.int (p3 &&& (3 : Int32))), .val (.long st), .second, .unset] [(.int (lcmpW st (4 : Int64)))])) _
            refine XS.ifYes X0.here hx rfl (pc0 := 58) (pc' := 75) rfl (hb hby at_58) rfl ((if0 _ _).trans (tlt ((lw_lt _ _).mpr hc58)).1) (by decide) (by decide) ?_
            show Steps p.tables e below (s₁.setTop (mkF m 75 #[.val (.long q0), .second, .val (.int p1), .val (.int p2), .val (.int p3), .val (.int (p3 &&& (3 : Int32))), .val (.long st), .second, .unset] [])) _
            refine XS.iconst X0.here hx rfl (hb hby at_75) ?_
            try simp only [if_pos hc58] at k
            exact k
          · show Steps p.tables e below (s₁.setTop (mkF m 58 #[.val (.long q0), .second, .val (.int p1), .val (.int p2), .val (.int p3), .val (.int (p3 &&& (3 : Int32))), .val (.long st), .second, .unset] [(.int (lcmpW st (4 : Int64)))])) _
            refine XS.ifNo X0.here hx rfl (hb hby at_58) rfl ((if0 _ _).trans (flt (mt (lw_lt _ _).mp hc58)).1) ?_
            show Steps p.tables e below (s₁.setTop (mkF m 61 #[.val (.long q0), .second, .val (.int p1), .val (.int p2), .val (.int p3), .val (.int (p3 &&& (3 : Int32))), .val (.long st), .second, .unset] [])) _
            refine XS.iloadN X0.here hx rfl (hb hby at_61) rfl ?_
            show Steps p.tables e below (s₁.setTop (mkF m 62 #[.val (.long q0), .second, .val (.int p1), .val (.int p2), .val (.int p3), .val (.int (p3 &&& (3 : Int32))), .val (.long st), .second, .unset] [(.int p1)])) _
            refine XS.iconst X0.here hx rfl (hb hby at_62) ?_
            show Steps p.tables e below (s₁.setTop (mkF m 63 #[.val (.long q0), .second, .val (.int p1), .val (.int p2), .val (.int p3), .val (.int (p3 &&& (3 : Int32))), .val (.long st), .second, .unset] [(.int (3 : Int32)), (.int p1)])) _
            refine XS.ishr X0.here hx rfl (hb hby at_63) rfl ?_
            show Steps p.tables e below (s₁.setTop (mkF m 64 #[.val (.long q0), .second, .val (.int p1), .val (.int p2), .val (.int p3), .val (.int (p3 &&& (3 : Int32))), .val (.long st), .second, .unset] [(.int (p1 >>> ((3 : Int32) &&& 31)))])) _
            refine XS.i2l X0.here hx rfl (hb hby at_64) rfl ?_
            show Steps p.tables e below (s₁.setTop (mkF m 65 #[.val (.long q0), .second, .val (.int p1), .val (.int p2), .val (.int p3), .val (.int (p3 &&& (3 : Int32))), .val (.long st), .second, .unset] [(.long ((p1 >>> ((3 : Int32) &&& 31)).toInt64))])) _
            refine XS.lload X0.here hx rfl (hb hby at_65) rfl ?_
            show Steps p.tables e below (s₁.setTop (mkF m 67 #[.val (.long q0), .second, .val (.int p1), .val (.int p2), .val (.int p3), .val (.int (p3 &&& (3 : Int32))), .val (.long st), .second, .unset] [(.long st), (.long ((p1 >>> ((3 : Int32) &&& 31)).toInt64))])) _
            refine XS.lcmp X0.here hx rfl (hb hby at_67) rfl ?_
            by_cases hc68 : ((p1 >>> ((3 : Int32) &&& 31)).toInt64) < st
            · show Steps p.tables e below (s₁.setTop (mkF m 68 #[.val (.long q0), .second, .val (.int p1), .val (.int p2), .val (.int p3), .val (.int (p3 &&& (3 : Int32))), .val (.long st), .second, .unset] [(.int (lcmpW ((p1 >>> ((3 : Int32) &&& 31)).toInt64) st))])) _
              refine XS.ifNo X0.here hx rfl (hb hby at_68) rfl ((if0 _ _).trans (tlt ((lw_lt _ _).mpr hc68)).2.1) ?_
              show Steps p.tables e below (s₁.setTop (mkF m 71 #[.val (.long q0), .second, .val (.int p1), .val (.int p2), .val (.int p3), .val (.int (p3 &&& (3 : Int32))), .val (.long st), .second, .unset] [])) _
              refine XS.iconst X0.here hx rfl (hb hby at_71) ?_
              show Steps p.tables e below (s₁.setTop (mkF m 72 #[.val (.long q0), .second, .val (.int p1), .val (.int p2), .val (.int p3), .val (.int (p3 &&& (3 : Int32))), .val (.long st), .second, .unset] [(.int (1 : Int32))])) _
              refine XS.goto X0.here hx rfl (pc0 := 72) (pc' := 76) rfl (hb hby at_72) (by decide) (by decide) ?_
              try simp only [if_neg hc58, if_pos hc68] at k
              exact k
            · show Steps p.tables e below (s₁.setTop (mkF m 68 #[.val (.long q0), .second, .val (.int p1), .val (.int p2), .val (.int p3), .val (.int (p3 &&& (3 : Int32))), .val (.long st), .second, .unset] [(.int (lcmpW ((p1 >>> ((3 : Int32) &&& 31)).toInt64) st))])) _
              refine XS.ifYes X0.here hx rfl (pc0 := 68) (pc' := 75) rfl (hb hby at_68) rfl ((if0 _ _).trans (flt (mt (lw_lt _ _).mp hc68)).2.1) (by decide) (by decide) ?_
              show Steps p.tables e below (s₁.setTop (mkF m 75 #[.val (.long q0), .second, .val (.int p1), .val (.int p2), .val (.int p3), .val (.int (p3 &&& (3 : Int32))), .val (.long st), .second, .unset] [])) _
              refine XS.iconst X0.here hx rfl (hb hby at_75) ?_
              try simp only [if_neg hc58, if_neg hc68] at k
              exact k
        show Steps p.tables e below (s₁.setTop (mkF m 76 #[.val (.long q0), .second, .val (.int p1), .val (.int p2), .val (.int p3), .val (.int (p3 &&& (3 : Int32))), .val (.long st), .second, .unset] [(.int (if st < (4 : Int64) then (0 : Int32) else (if ((p1 >>> ((3 : Int32) &&& 31)).toInt64) < st then (1 : Int32) else (0 : Int32))))])) _
        refine XS.istore X0.here hx rfl (hb hby at_76) rfl (l' := #[.val (.long q0), .second, .val (.int p1), .val (.int p2), .val (.int p3), .val (.int (p3 &&& (3 : Int32))), .val (.long st), .second, .val (.int (if st < (4 : Int64) then (0 : Int32) else (if ((p1 >>> ((3 : Int32) &&& 31)).toInt64) < st then (1 : Int32) else (0 : Int32))))]) rfl ?_
        show Steps p.tables e below (s₁.setTop (mkF m 78 #[.val (.long q0), .second, .val (.int p1), .val (.int p2), .val (.int p3), .val (.int (p3 &&& (3 : Int32))), .val (.long st), .second, .val (.int (if st < (4 : Int64) then (0 : Int32) else (if ((p1 >>> ((3 : Int32) &&& 31)).toInt64) < st then (1 : Int32) else (0 : Int32))))] [])) _
        refine XS.lload X0.here hx rfl (hb hby at_78) rfl ?_
        show Steps p.tables e below (s₁.setTop (mkF m 80 #[.val (.long q0), .second, .val (.int p1), .val (.int p2), .val (.int p3), .val (.int (p3 &&& (3 : Int32))), .val (.long st), .second, .val (.int (if st < (4 : Int64) then (0 : Int32) else (if ((p1 >>> ((3 : Int32) &&& 31)).toInt64) < st then (1 : Int32) else (0 : Int32))))] [(.long st)])) _
        refine XS.iloadN X0.here hx rfl (hb hby at_80) rfl ?_
        show Steps p.tables e below (s₁.setTop (mkF m 81 #[.val (.long q0), .second, .val (.int p1), .val (.int p2), .val (.int p3), .val (.int (p3 &&& (3 : Int32))), .val (.long st), .second, .val (.int (if st < (4 : Int64) then (0 : Int32) else (if ((p1 >>> ((3 : Int32) &&& 31)).toInt64) < st then (1 : Int32) else (0 : Int32))))] [(.int p1), (.long st)])) _
        refine st2 _ ?_
        show Steps p.tables e below (T2.setTop (mkF m 84 #[.val (.long q0), .second, .val (.int p1), .val (.int p2), .val (.int p3), .val (.int (p3 &&& (3 : Int32))), .val (.long st), .second, .val (.int (if st < (4 : Int64) then (0 : Int32) else (if ((p1 >>> ((3 : Int32) &&& 31)).toInt64) < st then (1 : Int32) else (0 : Int32))))] [(.int (nar .boolean (if st < (4 : Int64) then (0 : Int32) else (if (p1.toInt64) < (st * (8 : Int64)) then (1 : Int32) else (0 : Int32)))))])) _
        refine XS.iload X2.here hx rfl (hb hby at_84) rfl ?_
        show Steps p.tables e below (T2.setTop (mkF m 86 #[.val (.long q0), .second, .val (.int p1), .val (.int p2), .val (.int p3), .val (.int (p3 &&& (3 : Int32))), .val (.long st), .second, .val (.int (if st < (4 : Int64) then (0 : Int32) else (if ((p1 >>> ((3 : Int32) &&& 31)).toInt64) < st then (1 : Int32) else (0 : Int32))))] [(.int (if st < (4 : Int64) then (0 : Int32) else (if ((p1 >>> ((3 : Int32) &&& 31)).toInt64) < st then (1 : Int32) else (0 : Int32)))), (.int (nar .boolean (if st < (4 : Int64) then (0 : Int32) else (if (p1.toInt64) < (st * (8 : Int64)) then (1 : Int32) else (0 : Int32)))))])) _
        refine XS.icmpNo X2.here hx rfl (hb hby at_86) rfl (teq (own_fin st p1 (h_st ▸ own_m1 q0).1 (h_st ▸ own_m1 q0).2 : (nar .boolean (if st < (4 : Int64) then (0 : Int32) else (if (p1.toInt64) < (st * (8 : Int64)) then (1 : Int32) else (0 : Int32)))) = (if st < (4 : Int64) then (0 : Int32) else (if ((p1 >>> ((3 : Int32) &&& 31)).toInt64) < st then (1 : Int32) else (0 : Int32))))).2 ?_
        show Steps p.tables e below (T2.setTop (mkF m 89 #[.val (.long q0), .second, .val (.int p1), .val (.int p2), .val (.int p3), .val (.int (p3 &&& (3 : Int32))), .val (.long st), .second, .val (.int (if st < (4 : Int64) then (0 : Int32) else (if ((p1 >>> ((3 : Int32) &&& 31)).toInt64) < st then (1 : Int32) else (0 : Int32))))] [])) _
        refine XS.iconst X2.here hx rfl (hb hby at_89) ?_
        show Steps p.tables e below (T2.setTop (mkF m 90 #[.val (.long q0), .second, .val (.int p1), .val (.int p2), .val (.int p3), .val (.int (p3 &&& (3 : Int32))), .val (.long st), .second, .val (.int (if st < (4 : Int64) then (0 : Int32) else (if ((p1 >>> ((3 : Int32) &&& 31)).toInt64) < st then (1 : Int32) else (0 : Int32))))] [(.int (1 : Int32))])) _
        refine XS.goto X2.here hx rfl (pc0 := 90) (pc' := 94) rfl (hb hby at_90) (by decide) (by decide) ?_
        show Steps p.tables e below (T2.setTop (mkF m 94 #[.val (.long q0), .second, .val (.int p1), .val (.int p2), .val (.int p3), .val (.int (p3 &&& (3 : Int32))), .val (.long st), .second, .val (.int (if st < (4 : Int64) then (0 : Int32) else (if ((p1 >>> ((3 : Int32) &&& 31)).toInt64) < st then (1 : Int32) else (0 : Int32))))] [(.int (1 : Int32))])) _
        exact retN X2 hx (t := .boolean) Bd.returns (by simp) (hb hby at_94) hr
      · show Qrm0 Z q0 p1 p2 p3 h0 n0 _ T2.heap _
        rw [eh2]
        exact ⟨rfl, N2⟩
    · obtain ⟨_, _, ⟨T3, L3, k3, n3⟩, -, X3, ⟨Lc3, hQ3, l3, y3, z3⟩, st3⟩ := Jvm.LawKit.callS X0 hx (y := (⟨"java/lang/Math", "max", "(JJ)J"⟩ : MethodName)) hown (mvT hZ (hw _ (List.mem_of_getElem? (i := 7) rfl))) (mvT hZ (hw _ (List.mem_of_getElem? (i := 8) rfl))) (mvT hZ (hw _ (List.mem_of_getElem? (i := 9) rfl))) (mvT hZ (hw _ (List.mem_of_getElem? (i := 10) rfl))) (by decide) (backOf (W := 0) (rm2 l Z A0 hw [] (0 : Int64) (((p1 >>> ((3 : Int32) &&& 31)).toInt64) + ((p2 % (3 : Int32)).toInt64))  h0 n0 Z0 ) hZ (hw _ (List.mem_of_getElem? (i := 10) rfl)) (hw _ (List.mem_of_getElem? (i := 9) rfl)) (by decide) (by decide)) (g := (mkF m 47 #[.val (.long q0), .second, .val (.int p1), .val (.int p2), .val (.int p3), .val (.int (p3 &&& (3 : Int32))), .unset, .unset, .unset] [(.long (((p1 >>> ((3 : Int32) &&& 31)).toInt64) + ((p2 % (3 : Int32)).toInt64))), (.long (0 : Int64))])) rfl (by rw [hml]; rfl) (argsL := [(.long (0 : Int64)), (.long (((p1 >>> ((3 : Int32) &&& 31)).toInt64) + ((p2 % (3 : Int32)).toInt64)))]) (rest := []) (lenOf pd_1 rfl) rfl (by show 2 * 0 + _ ≤ _; exact Nat.le_of_eq rfl) (hb hby at_47) (fun _ _ => ⟨rfl, e0, (by decide : 0 + 0 ≤ _), (by decide : 0 + 0 ≤ _)⟩)
      dsimp only [Pt.U, Pt.locs, Pt.cells, Pt.slots] at X3 l3 y3 z3 st3 hQ3
      subst l3 y3 z3
      obtain ⟨rfl, N3q, eh3⟩ := hQ3
      have N3 := Fr.app N0 N3q
      obtain ⟨st, h_st⟩ : ∃ z : Int64, z = (if (0 : Int64) < (((p1 >>> ((3 : Int32) &&& 31)).toInt64) + ((p2 % (3 : Int32)).toInt64)) then (((p1 >>> ((3 : Int32) &&& 31)).toInt64) + ((p2 % (3 : Int32)).toInt64)) else (0 : Int64)) := ⟨_, rfl⟩
      obtain ⟨_, _, ⟨T4, L4, k4, n4⟩, -, X4, ⟨Lc4, hQ4, l4, y4, z4⟩, st4⟩ := Jvm.LawKit.callS X3 hx (y := (⟨"com/example/nimble_needle/nimbleneedle/algorithm/CharSieve", "dense", "(JI)Z"⟩ : MethodName)) hown (mvT hZ (hw _ (List.mem_of_getElem? (i := 2) rfl))) (mvT hZ (hw _ (List.mem_of_getElem? (i := 3) rfl))) (mvT hZ (hw _ (List.mem_of_getElem? (i := 4) rfl))) (mvT hZ (hw _ (List.mem_of_getElem? (i := 5) rfl))) (by decide) (backOf (W := 0) (rm1 l Z A0 hw [] st p1  h0 n0 Z0 ) hZ (hw _ (List.mem_of_getElem? (i := 5) rfl)) (hw _ (List.mem_of_getElem? (i := 4) rfl)) (by decide) (by decide)) (g := (mkF m 81 #[.val (.long q0), .second, .val (.int p1), .val (.int p2), .val (.int p3), .val (.int (p3 &&& (3 : Int32))), .val (.long st), .second, .val (.int (if st < (4 : Int64) then (0 : Int32) else (if ((p1 >>> ((3 : Int32) &&& 31)).toInt64) < st then (1 : Int32) else (0 : Int32))))] [(.int p1), (.long st)])) rfl (by rw [hml]; rfl) (argsL := [(.long st), (.int p1)]) (rest := []) (lenOf pd_0 rfl) rfl (by show 2 * 0 + _ ≤ _; exact Nat.le_of_eq rfl) (hb hby at_81) (fun _ _ => ⟨rfl, eh3, (by decide : 0 + 0 ≤ _), (by decide : 0 + 0 ≤ _)⟩)
      dsimp only [Pt.U, Pt.locs, Pt.cells, Pt.slots] at X4 l4 y4 z4 st4 hQ4
      subst l4 y4 z4
      obtain ⟨rfl, N4q, eh4⟩ := hQ4
      have N4 := Fr.app N3 N4q
      obtain ⟨fs, hr, hrun, hended, hW, hsame⟩ := X4.leave (v := some (.int (1 : Int32))) (fun h => by rw [Bd.returns] at h; cases h)
      refine ⟨_, _, pre0 _ ?_, hrun, hended, _, _, rfl, ?_, ⟨_, rfl⟩, hW, hsame.mono (by decide) (by decide)⟩
      · show Steps p.tables e below (s₁.setTop (mkF m 0 #[.val (.long q0), .second, .val (.int p1), .val (.int p2), .val (.int p3), .unset, .unset, .unset, .unset] [])) _
        refine XS.iload X0.here hx rfl (hb hby at_0) rfl ?_
        show Steps p.tables e below (s₁.setTop (mkF m 2 #[.val (.long q0), .second, .val (.int p1), .val (.int p2), .val (.int p3), .unset, .unset, .unset, .unset] [(.int p3)])) _
        refine XS.iconst X0.here hx rfl (hb hby at_2) ?_
        show Steps p.tables e below (s₁.setTop (mkF m 3 #[.val (.long q0), .second, .val (.int p1), .val (.int p2), .val (.int p3), .unset, .unset, .unset, .unset] [(.int (3 : Int32)), (.int p3)])) _
        refine XS.iand X0.here hx rfl (hb hby at_3) rfl ?_
        show Steps p.tables e below (s₁.setTop (mkF m 4 #[.val (.long q0), .second, .val (.int p1), .val (.int p2), .val (.int p3), .unset, .unset, .unset, .unset] [(.int (p3 &&& (3 : Int32)))])) _
        refine XS.istore X0.here hx rfl (hb hby at_4) rfl (l' := #[.val (.long q0), .second, .val (.int p1), .val (.int p2), .val (.int p3), .val (.int (p3 &&& (3 : Int32))), .unset, .unset, .unset]) rfl ?_
        show Steps p.tables e below (s₁.setTop (mkF m 6 #[.val (.long q0), .second, .val (.int p1), .val (.int p2), .val (.int p3), .val (.int (p3 &&& (3 : Int32))), .unset, .unset, .unset] [])) _
        refine XS.iload X0.here hx rfl (hb hby at_6) rfl ?_
        show Steps p.tables e below (s₁.setTop (mkF m 8 #[.val (.long q0), .second, .val (.int p1), .val (.int p2), .val (.int p3), .val (.int (p3 &&& (3 : Int32))), .unset, .unset, .unset] [(.int (p3 &&& (3 : Int32)))])) _
        refine XS.ifYes X0.here hx rfl (pc0 := 8) (pc' := 21) rfl (hb hby at_8) rfl ((if0 _ _).trans (feq hc8).2) (by decide) (by decide) ?_
        show Steps p.tables e below (s₁.setTop (mkF m 21 #[.val (.long q0), .second, .val (.int p1), .val (.int p2), .val (.int p3), .val (.int (p3 &&& (3 : Int32))), .unset, .unset, .unset] [])) _
        refine XS.iload X0.here hx rfl (hb hby at_21) rfl ?_
        show Steps p.tables e below (s₁.setTop (mkF m 23 #[.val (.long q0), .second, .val (.int p1), .val (.int p2), .val (.int p3), .val (.int (p3 &&& (3 : Int32))), .unset, .unset, .unset] [(.int (p3 &&& (3 : Int32)))])) _
        refine XS.iconst X0.here hx rfl (hb hby at_23) ?_
        show Steps p.tables e below (s₁.setTop (mkF m 24 #[.val (.long q0), .second, .val (.int p1), .val (.int p2), .val (.int p3), .val (.int (p3 &&& (3 : Int32))), .unset, .unset, .unset] [(.int (1 : Int32)), (.int (p3 &&& (3 : Int32)))])) _
        refine XS.icmpYes X0.here hx rfl (pc0 := 24) (pc' := 37) rfl (hb hby at_24) rfl (feq hc24).2 (by decide) (by decide) ?_
        show Steps p.tables e below (s₁.setTop (mkF m 37 #[.val (.long q0), .second, .val (.int p1), .val (.int p2), .val (.int p3), .val (.int (p3 &&& (3 : Int32))), .unset, .unset, .unset] [])) _
        refine XS.lconst X0.here hx rfl (hb hby at_37) ?_
        show Steps p.tables e below (s₁.setTop (mkF m 38 #[.val (.long q0), .second, .val (.int p1), .val (.int p2), .val (.int p3), .val (.int (p3 &&& (3 : Int32))), .unset, .unset, .unset] [(.long (0 : Int64))])) _
        refine XS.iloadN X0.here hx rfl (hb hby at_38) rfl ?_
        show Steps p.tables e below (s₁.setTop (mkF m 39 #[.val (.long q0), .second, .val (.int p1), .val (.int p2), .val (.int p3), .val (.int (p3 &&& (3 : Int32))), .unset, .unset, .unset] [(.int p1), (.long (0 : Int64))])) _
        refine XS.iconst X0.here hx rfl (hb hby at_39) ?_
        show Steps p.tables e below (s₁.setTop (mkF m 40 #[.val (.long q0), .second, .val (.int p1), .val (.int p2), .val (.int p3), .val (.int (p3 &&& (3 : Int32))), .unset, .unset, .unset] [(.int (3 : Int32)), (.int p1), (.long (0 : Int64))])) _
        refine XS.ishr X0.here hx rfl (hb hby at_40) rfl ?_
        show Steps p.tables e below (s₁.setTop (mkF m 41 #[.val (.long q0), .second, .val (.int p1), .val (.int p2), .val (.int p3), .val (.int (p3 &&& (3 : Int32))), .unset, .unset, .unset] [(.int (p1 >>> ((3 : Int32) &&& 31))), (.long (0 : Int64))])) _
        refine XS.i2l X0.here hx rfl (hb hby at_41) rfl ?_
        show Steps p.tables e below (s₁.setTop (mkF m 42 #[.val (.long q0), .second, .val (.int p1), .val (.int p2), .val (.int p3), .val (.int (p3 &&& (3 : Int32))), .unset, .unset, .unset] [(.long ((p1 >>> ((3 : Int32) &&& 31)).toInt64)), (.long (0 : Int64))])) _
        refine XS.iloadN X0.here hx rfl (hb hby at_42) rfl ?_
        show Steps p.tables e below (s₁.setTop (mkF m 43 #[.val (.long q0), .second, .val (.int p1), .val (.int p2), .val (.int p3), .val (.int (p3 &&& (3 : Int32))), .unset, .unset, .unset] [(.int p2), (.long ((p1 >>> ((3 : Int32) &&& 31)).toInt64)), (.long (0 : Int64))])) _
        refine XS.iconst X0.here hx rfl (hb hby at_43) ?_
        show Steps p.tables e below (s₁.setTop (mkF m 44 #[.val (.long q0), .second, .val (.int p1), .val (.int p2), .val (.int p3), .val (.int (p3 &&& (3 : Int32))), .unset, .unset, .unset] [(.int (3 : Int32)), (.int p2), (.long ((p1 >>> ((3 : Int32) &&& 31)).toInt64)), (.long (0 : Int64))])) _
        refine iremM X0 hx rfl (hb hby at_44) rfl (by decide) ?_
        show Steps p.tables e below (s₁.setTop (mkF m 45 #[.val (.long q0), .second, .val (.int p1), .val (.int p2), .val (.int p3), .val (.int (p3 &&& (3 : Int32))), .unset, .unset, .unset] [(.int (p2 % (3 : Int32))), (.long ((p1 >>> ((3 : Int32) &&& 31)).toInt64)), (.long (0 : Int64))])) _
        refine XS.i2l X0.here hx rfl (hb hby at_45) rfl ?_
        show Steps p.tables e below (s₁.setTop (mkF m 46 #[.val (.long q0), .second, .val (.int p1), .val (.int p2), .val (.int p3), .val (.int (p3 &&& (3 : Int32))), .unset, .unset, .unset] [(.long ((p2 % (3 : Int32)).toInt64)), (.long ((p1 >>> ((3 : Int32) &&& 31)).toInt64)), (.long (0 : Int64))])) _
        refine XS.ladd X0.here hx rfl (hb hby at_46) rfl ?_
        show Steps p.tables e below (s₁.setTop (mkF m 47 #[.val (.long q0), .second, .val (.int p1), .val (.int p2), .val (.int p3), .val (.int (p3 &&& (3 : Int32))), .unset, .unset, .unset] [(.long (((p1 >>> ((3 : Int32) &&& 31)).toInt64) + ((p2 % (3 : Int32)).toInt64))), (.long (0 : Int64))])) _
        refine st3 _ ?_
        show Steps p.tables e below (T3.setTop (mkF m 50 #[.val (.long q0), .second, .val (.int p1), .val (.int p2), .val (.int p3), .val (.int (p3 &&& (3 : Int32))), .unset, .unset, .unset] [(.long (if (0 : Int64) < (((p1 >>> ((3 : Int32) &&& 31)).toInt64) + ((p2 % (3 : Int32)).toInt64)) then (((p1 >>> ((3 : Int32) &&& 31)).toInt64) + ((p2 % (3 : Int32)).toInt64)) else (0 : Int64)))])) _
        rw [← h_st]
        show Steps p.tables e below (T3.setTop (mkF m 50 #[.val (.long q0), .second, .val (.int p1), .val (.int p2), .val (.int p3), .val (.int (p3 &&& (3 : Int32))), .unset, .unset, .unset] [(.long st)])) _
        refine XS.lstore X3.here hx rfl (hb hby at_50) rfl (l' := #[.val (.long q0), .second, .val (.int p1), .val (.int p2), .val (.int p3), .val (.int (p3 &&& (3 : Int32))), .val (.long st), .second, .unset]) rfl ?_
        show Steps p.tables e below (T3.setTop (mkF m 52 #[.val (.long q0), .second, .val (.int p1), .val (.int p2), .val (.int p3), .val (.int (p3 &&& (3 : Int32))), .val (.long st), .second, .unset] [])) _
        refine XS.lload X3.here hx rfl (hb hby at_52) rfl ?_
        show Steps p.tables e below (T3.setTop (mkF m 54 #[.val (.long q0), .second, .val (.int p1), .val (.int p2), .val (.int p3), .val (.int (p3 &&& (3 : Int32))), .val (.long st), .second, .unset] [(.long st)])) _
        refine X3.ldc2Long hx hown (mvT hZ (hw _ (List.mem_of_getElem? (i := 1) rfl))) (g := (mkF m 54 #[.val (.long q0), .second, .val (.int p1), .val (.int p2), .val (.int p3), .val (.int (p3 &&& (3 : Int32))), .val (.long st), .second, .unset] [(.long st)])) rfl (hb hby at_54) _ ?_
        show Steps p.tables e below (T3.setTop (mkF m 57 #[.val (.long q0), .second, .val (.int p1), .val (.int p2), .val (.int p3), .val (.int (p3 &&& (3 : Int32))), .val (.long st), .second, .unset] [(.long (4 : Int64)), (.long st)])) _
        refine XS.lcmp X3.here hx rfl (hb hby at_57) rfl ?_
        refine own_via (T3.setTop (mkF m 76 #[.val (.long q0), .second, .val (.int p1), .val (.int p2), .val (.int p3), .val (.int (p3 &&& (3 : Int32))), .val (.long st), .second, .unset] [(.int (if st < (4 : Int64) then (0 : Int32) else (if ((p1 >>> ((3 : Int32) &&& 31)).toInt64) < st then (1 : Int32) else (0 : Int32))))])) (fun k => ?_) ?_
        · by_cases hc58 : st < (4 : Int64)
          · show Steps p.tables e below (T3.setTop (mkF m 58 #[.val (.long q0), .second, .val (.int p1), .val (.int p2), .val (.int p3), .val (.int (p3 &&& (3 : Int32))), .val (.long st), .second, .unset] [(.int (lcmpW st (4 : Int64)))])) _
            refine XS.ifYes X3.here hx rfl (pc0 := 58) (pc' := 75) rfl (hb hby at_58) rfl ((if0 _ _).trans (tlt ((lw_lt _ _).mpr hc58)).1) (by decide) (by decide) ?_
            show Steps p.tables e below (T3.setTop (mkF m 75 #[.val (.long q0), .second, .val (.int p1), .val (.int p2), .val (.int p3), .val (.int (p3 &&& (3 : Int32))), .val (.long st), .second, .unset] [])) _
            refine XS.iconst X3.here hx rfl (hb hby at_75) ?_
            try simp only [if_pos hc58] at k
            exact k
          · show Steps p.tables e below (T3.setTop (mkF m 58 #[.val (.long q0), .second, .val (.int p1), .val (.int p2), .val (.int p3), .val (.int (p3 &&& (3 : Int32))), .val (.long st), .second, .unset] [(.int (lcmpW st (4 : Int64)))])) _
            refine XS.ifNo X3.here hx rfl (hb hby at_58) rfl ((if0 _ _).trans (flt (mt (lw_lt _ _).mp hc58)).1) ?_
            show Steps p.tables e below (T3.setTop (mkF m 61 #[.val (.long q0), .second, .val (.int p1), .val (.int p2), .val (.int p3), .val (.int (p3 &&& (3 : Int32))), .val (.long st), .second, .unset] [])) _
            refine XS.iloadN X3.here hx rfl (hb hby at_61) rfl ?_
            show Steps p.tables e below (T3.setTop (mkF m 62 #[.val (.long q0), .second, .val (.int p1), .val (.int p2), .val (.int p3), .val (.int (p3 &&& (3 : Int32))), .val (.long st), .second, .unset] [(.int p1)])) _
            refine XS.iconst X3.here hx rfl (hb hby at_62) ?_
            show Steps p.tables e below (T3.setTop (mkF m 63 #[.val (.long q0), .second, .val (.int p1), .val (.int p2), .val (.int p3), .val (.int (p3 &&& (3 : Int32))), .val (.long st), .second, .unset] [(.int (3 : Int32)), (.int p1)])) _
            refine XS.ishr X3.here hx rfl (hb hby at_63) rfl ?_
            show Steps p.tables e below (T3.setTop (mkF m 64 #[.val (.long q0), .second, .val (.int p1), .val (.int p2), .val (.int p3), .val (.int (p3 &&& (3 : Int32))), .val (.long st), .second, .unset] [(.int (p1 >>> ((3 : Int32) &&& 31)))])) _
            refine XS.i2l X3.here hx rfl (hb hby at_64) rfl ?_
            show Steps p.tables e below (T3.setTop (mkF m 65 #[.val (.long q0), .second, .val (.int p1), .val (.int p2), .val (.int p3), .val (.int (p3 &&& (3 : Int32))), .val (.long st), .second, .unset] [(.long ((p1 >>> ((3 : Int32) &&& 31)).toInt64))])) _
            refine XS.lload X3.here hx rfl (hb hby at_65) rfl ?_
            show Steps p.tables e below (T3.setTop (mkF m 67 #[.val (.long q0), .second, .val (.int p1), .val (.int p2), .val (.int p3), .val (.int (p3 &&& (3 : Int32))), .val (.long st), .second, .unset] [(.long st), (.long ((p1 >>> ((3 : Int32) &&& 31)).toInt64))])) _
            refine XS.lcmp X3.here hx rfl (hb hby at_67) rfl ?_
            by_cases hc68 : ((p1 >>> ((3 : Int32) &&& 31)).toInt64) < st
            · show Steps p.tables e below (T3.setTop (mkF m 68 #[.val (.long q0), .second, .val (.int p1), .val (.int p2), .val (.int p3), .val (.int (p3 &&& (3 : Int32))), .val (.long st), .second, .unset] [(.int (lcmpW ((p1 >>> ((3 : Int32) &&& 31)).toInt64) st))])) _
              refine XS.ifNo X3.here hx rfl (hb hby at_68) rfl ((if0 _ _).trans (tlt ((lw_lt _ _).mpr hc68)).2.1) ?_
              show Steps p.tables e below (T3.setTop (mkF m 71 #[.val (.long q0), .second, .val (.int p1), .val (.int p2), .val (.int p3), .val (.int (p3 &&& (3 : Int32))), .val (.long st), .second, .unset] [])) _
              refine XS.iconst X3.here hx rfl (hb hby at_71) ?_
              show Steps p.tables e below (T3.setTop (mkF m 72 #[.val (.long q0), .second, .val (.int p1), .val (.int p2), .val (.int p3), .val (.int (p3 &&& (3 : Int32))), .val (.long st), .second, .unset] [(.int (1 : Int32))])) _
              refine XS.goto X3.here hx rfl (pc0 := 72) (pc' := 76) rfl (hb hby at_72) (by decide) (by decide) ?_
              try simp only [if_neg hc58, if_pos hc68] at k
              exact k
            · show Steps p.tables e below (T3.setTop (mkF m 68 #[.val (.long q0), .second, .val (.int p1), .val (.int p2), .val (.int p3), .val (.int (p3 &&& (3 : Int32))), .val (.long st), .second, .unset] [(.int (lcmpW ((p1 >>> ((3 : Int32) &&& 31)).toInt64) st))])) _
              refine XS.ifYes X3.here hx rfl (pc0 := 68) (pc' := 75) rfl (hb hby at_68) rfl ((if0 _ _).trans (flt (mt (lw_lt _ _).mp hc68)).2.1) (by decide) (by decide) ?_
              show Steps p.tables e below (T3.setTop (mkF m 75 #[.val (.long q0), .second, .val (.int p1), .val (.int p2), .val (.int p3), .val (.int (p3 &&& (3 : Int32))), .val (.long st), .second, .unset] [])) _
              refine XS.iconst X3.here hx rfl (hb hby at_75) ?_
              try simp only [if_neg hc58, if_neg hc68] at k
              exact k
        show Steps p.tables e below (T3.setTop (mkF m 76 #[.val (.long q0), .second, .val (.int p1), .val (.int p2), .val (.int p3), .val (.int (p3 &&& (3 : Int32))), .val (.long st), .second, .unset] [(.int (if st < (4 : Int64) then (0 : Int32) else (if ((p1 >>> ((3 : Int32) &&& 31)).toInt64) < st then (1 : Int32) else (0 : Int32))))])) _
        refine XS.istore X3.here hx rfl (hb hby at_76) rfl (l' := #[.val (.long q0), .second, .val (.int p1), .val (.int p2), .val (.int p3), .val (.int (p3 &&& (3 : Int32))), .val (.long st), .second, .val (.int (if st < (4 : Int64) then (0 : Int32) else (if ((p1 >>> ((3 : Int32) &&& 31)).toInt64) < st then (1 : Int32) else (0 : Int32))))]) rfl ?_
        show Steps p.tables e below (T3.setTop (mkF m 78 #[.val (.long q0), .second, .val (.int p1), .val (.int p2), .val (.int p3), .val (.int (p3 &&& (3 : Int32))), .val (.long st), .second, .val (.int (if st < (4 : Int64) then (0 : Int32) else (if ((p1 >>> ((3 : Int32) &&& 31)).toInt64) < st then (1 : Int32) else (0 : Int32))))] [])) _
        refine XS.lload X3.here hx rfl (hb hby at_78) rfl ?_
        show Steps p.tables e below (T3.setTop (mkF m 80 #[.val (.long q0), .second, .val (.int p1), .val (.int p2), .val (.int p3), .val (.int (p3 &&& (3 : Int32))), .val (.long st), .second, .val (.int (if st < (4 : Int64) then (0 : Int32) else (if ((p1 >>> ((3 : Int32) &&& 31)).toInt64) < st then (1 : Int32) else (0 : Int32))))] [(.long st)])) _
        refine XS.iloadN X3.here hx rfl (hb hby at_80) rfl ?_
        show Steps p.tables e below (T3.setTop (mkF m 81 #[.val (.long q0), .second, .val (.int p1), .val (.int p2), .val (.int p3), .val (.int (p3 &&& (3 : Int32))), .val (.long st), .second, .val (.int (if st < (4 : Int64) then (0 : Int32) else (if ((p1 >>> ((3 : Int32) &&& 31)).toInt64) < st then (1 : Int32) else (0 : Int32))))] [(.int p1), (.long st)])) _
        refine st4 _ ?_
        show Steps p.tables e below (T4.setTop (mkF m 84 #[.val (.long q0), .second, .val (.int p1), .val (.int p2), .val (.int p3), .val (.int (p3 &&& (3 : Int32))), .val (.long st), .second, .val (.int (if st < (4 : Int64) then (0 : Int32) else (if ((p1 >>> ((3 : Int32) &&& 31)).toInt64) < st then (1 : Int32) else (0 : Int32))))] [(.int (nar .boolean (if st < (4 : Int64) then (0 : Int32) else (if (p1.toInt64) < (st * (8 : Int64)) then (1 : Int32) else (0 : Int32)))))])) _
        refine XS.iload X4.here hx rfl (hb hby at_84) rfl ?_
        show Steps p.tables e below (T4.setTop (mkF m 86 #[.val (.long q0), .second, .val (.int p1), .val (.int p2), .val (.int p3), .val (.int (p3 &&& (3 : Int32))), .val (.long st), .second, .val (.int (if st < (4 : Int64) then (0 : Int32) else (if ((p1 >>> ((3 : Int32) &&& 31)).toInt64) < st then (1 : Int32) else (0 : Int32))))] [(.int (if st < (4 : Int64) then (0 : Int32) else (if ((p1 >>> ((3 : Int32) &&& 31)).toInt64) < st then (1 : Int32) else (0 : Int32)))), (.int (nar .boolean (if st < (4 : Int64) then (0 : Int32) else (if (p1.toInt64) < (st * (8 : Int64)) then (1 : Int32) else (0 : Int32)))))])) _
        refine XS.icmpNo X4.here hx rfl (hb hby at_86) rfl (teq (own_fin st p1 (h_st ▸ own_m2 p1 p2).1 (h_st ▸ own_m2 p1 p2).2 : (nar .boolean (if st < (4 : Int64) then (0 : Int32) else (if (p1.toInt64) < (st * (8 : Int64)) then (1 : Int32) else (0 : Int32)))) = (if st < (4 : Int64) then (0 : Int32) else (if ((p1 >>> ((3 : Int32) &&& 31)).toInt64) < st then (1 : Int32) else (0 : Int32))))).2 ?_
        show Steps p.tables e below (T4.setTop (mkF m 89 #[.val (.long q0), .second, .val (.int p1), .val (.int p2), .val (.int p3), .val (.int (p3 &&& (3 : Int32))), .val (.long st), .second, .val (.int (if st < (4 : Int64) then (0 : Int32) else (if ((p1 >>> ((3 : Int32) &&& 31)).toInt64) < st then (1 : Int32) else (0 : Int32))))] [])) _
        refine XS.iconst X4.here hx rfl (hb hby at_89) ?_
        show Steps p.tables e below (T4.setTop (mkF m 90 #[.val (.long q0), .second, .val (.int p1), .val (.int p2), .val (.int p3), .val (.int (p3 &&& (3 : Int32))), .val (.long st), .second, .val (.int (if st < (4 : Int64) then (0 : Int32) else (if ((p1 >>> ((3 : Int32) &&& 31)).toInt64) < st then (1 : Int32) else (0 : Int32))))] [(.int (1 : Int32))])) _
        refine XS.goto X4.here hx rfl (pc0 := 90) (pc' := 94) rfl (hb hby at_90) (by decide) (by decide) ?_
        show Steps p.tables e below (T4.setTop (mkF m 94 #[.val (.long q0), .second, .val (.int p1), .val (.int p2), .val (.int p3), .val (.int (p3 &&& (3 : Int32))), .val (.long st), .second, .val (.int (if st < (4 : Int64) then (0 : Int32) else (if ((p1 >>> ((3 : Int32) &&& 31)).toInt64) < st then (1 : Int32) else (0 : Int32))))] [(.int (1 : Int32))])) _
        exact retN X4 hx (t := .boolean) Bd.returns (by simp) (hb hby at_94) hr
      · show Qrm0 Z q0 p1 p2 p3 h0 n0 _ T4.heap _
        rw [eh4]
        exact ⟨rfl, N4⟩
set_option maxRecDepth 65536 in
set_option maxHeartbeats 40000000 in
theorem comes_1 {Post : Tables → Env → Array Value → State → Outcome → State → Prop} (hpost : ∀ tb e args s v u, (limb_1_1.after args s (.returned v) u = true ∧ limb_1_2.after args s (.returned v) u = true ∧ True) → FrameEnd s (.returned v) u (Jvm.fieldLocs frame_1_writes args s ++ Jvm.arrayLocs frame_1_arrays args s ++ Jvm.staticLocs frame_1_statics s) 0 0 → Post tb e args s (.returned v) u) :
    ArmFor flags0 classFile x code maxLocals ret World_1 tables_1 room_1 Calls_1 rest_1 Pre_1 Post := by
  intro l hfl _ _ p e ha hc hk s m args below hf hA hF happ hP
  obtain ⟨hcalls, hrest, hpre⟩ := hP
  obtain ⟨-, -, -, hnamed, -, -, -, hat⟩ := (Spec.applies_iff hf).mp happ
  obtain ⟨hg, hn⟩ := and_e (Cond.before_iff.mp (show (Jvm.Cond.and given_1 narrow_1).before args s = true from hpre))
  obtain ⟨g1, g2⟩ := and_e hg
  obtain ⟨g3, g4⟩ := and_e g2
  obtain ⟨g5, g6⟩ := and_e g4
  obtain ⟨g7, g8⟩ := and_e g6
  obtain ⟨w0, w1, w2, w3, rfl⟩ : ∃ w0 w1 w2 w3 : Value, args = #[w0, w1, w2, w3] := by
    have hs : args.size = 4 := by simpa [Cond.value, given_1] using g1
    obtain ⟨L⟩ := args
    match L, hs with
    | [w0, w1, w2, w3], _ => exact ⟨w0, w1, w2, w3, rfl⟩
  have hw := fun d (hd : d ∈ tables_1) => atoms_spec (ws := Jvm.Cond.code x code maxLocals ret :: tables_1) hat d (List.mem_cons_of_mem _ hd)
  obtain ⟨i0, ei0⟩ := isL_v g3
  obtain rfl : w0 = (.long i0) := Option.some.inj ei0
  obtain ⟨i1, ei1⟩ := is_v g5
  obtain rfl : w1 = (.int i1) := Option.some.inj ei1
  obtain ⟨i2, ei2⟩ := is_v g7
  obtain rfl : w2 = (.int i2) := Option.some.inj ei2
  obtain ⟨i3, ei3⟩ := is_v g8
  obtain rfl : w3 = (.int i3) := Option.some.inj ei3
  obtain ⟨n, o, h1, h2, h3, _, L, rfl, ⟨rfl, N⟩, hq⟩ := rm0 l s _ hw tables_1 i0 i1 i2 i3  s.heap s.heap.size (Nat.le_refl _) p e ha hc hk s m _ below hf ((Spec.applies_iff_loose hf).mp happ).1 ⟨rfl, State.Warmed39.refl s, rfl⟩ trivial
  refine ⟨n, _, h1, h2, h3, hpost _ _ _ _ _ _ ⟨Cond.after_iff.mpr rfl, Cond.after_iff.mpr (eq_i res_at (Term.int_eval (1)) rfl), trivial⟩ ⟨hq.1, hq.2.1, (hq.2.2.sift fun y hy => Or.inr (N y hy)).mono (by decide) (by decide)⟩⟩
theorem main_1_1 : Claimed_1_1 := comes_1 fun _ _ _ _ _ _ h hF => ⟨h.1, hF⟩
theorem main_1_2 : Claimed_1_2 := comes_1 fun _ _ _ _ _ _ h hF => ⟨h.2.1, hF⟩
end Jvm.Pilot.@@N@@
namespace Jvm.Pilot.@@N@@
open Jvm Jvm.ClassFile Sem Op Lib Jvm.Free Jvm.Stand Jvm.Pilot.@@N@@.Jvm.D
/-! MADE BY PROGRAM (witnessworld.py) out of the Statement's table words and the real class files: 10 classes; the members and pool entries that the words name. The judged class is class 1, her method 1. -/
namespace start1
open Jvm.ClassFile
def u (s : String) : CpInfo := .utf8 (stringToUtf16 s)
/-- a pool by its gaps: so many unusable entries, then the entry; so many at the end -/
def gap : Nat → List CpInfo → List CpInfo
  | 0, r => r
  | n + 1, r => .unusable :: gap n r
def poolList (es : List (Nat × CpInfo)) (last : Nat) : List CpInfo := es.foldr (fun e r => gap e.1 (e.2 :: r)) (gap last [])
def pool (es : List (Nat × CpInfo)) (last : Nat) : Array CpInfo := ⟨poolList es last⟩
def fileOf (pool : Array CpInfo) (this : Nat) (attrs : Array Attribute := #[]) (ms : Array MethodInfo := #[]) (fl : Nat := 33) (sup : Nat := 0) (ifs : Array Nat := #[]) (fds : Array FieldInfo := #[]) : ClassFile where
  minorVersion := 0
  majorVersion := 65
  constantPool := pool
  accessFlags := fl
  thisClass := this
  superClass := sup
  interfaces := ifs
  fields := fds
  methods := ms
  attributes := attrs
def plain (name : String) (sup : Option ClassId) : Class where
  name := name
  kind := .ordinary
  loader := none
  accessFlags := 33
  super := sup
  interfaces := #[]
  cf := none
  fields := #[]
  methods := #[]
  instanceTypes := #[]
  staticTypes := #[]
  resolved := #[]
  callSites := []
  init := .initialized
  statics := none
  mirror := none

def pool0 : Array CpInfo := pool [(5, u "<init>"), (0, u "()V"), (1, .class_ 10), (1, u "java/lang/Object")] 113

def k0m0 : Method := { name := "<init>", desc := "()V", sig := { parameters := [], returnType := none }, accessFlags := 1, code := none }
/-- java/lang/Object -/
def k0 : Class := { plain "java/lang/Object" none with
  accessFlags := 33
  interfaces := #[]
  cf := some (fileOf pool0 8 #[] #[{ accessFlags := 1, nameIndex := 5, descriptorIndex := 6, attributes := #[] }] 33 0 #[] #[])
  fields := #[]
  methods := #[k0m0]
  instanceTypes := #[]
  staticTypes := #[]
  resolved := Array.replicate 124 none
  statics := none }

def pool1 : Array CpInfo := pool [(2, .class_ 4), (1, u "java/lang/Object"), (0, u "<init>"), (0, u "()V"), (0, .long 1152921504606846975), (1, .long 7), (1, .methodref 12 13), (0, .class_ 14), (0, .nameAndType 15 16), (0, u "java/lang/Math"), (0, u "max"), (0, u "(JJ)J"), (0, .long 4), (1, .methodref 20 21), (0, .class_ 22), (0, .nameAndType 23 24), (0, u "com/example/nimble_needle/nimbleneedle/algorithm/CharSieve"), (0, u "dense"), (0, u "(JI)Z"), (0, .class_ 26), (0, u "com/example/nimble_needle/nimbleneedle/algorithm/CharSieveDensePinLaw"), (2, u "law"), (0, u "(JIII)Z")] 3

def k1m0 : Method := { name := "<init>", desc := "()V", sig := { parameters := [], returnType := none }, accessFlags := 1, code := none }
def k1c1 : Code := { maxStack := 6, maxLocals := 9, code := code, exceptionTable := #[], attributes := #[] }
def k1m1 : Method := { name := "law", desc := "(JIII)Z", sig := { parameters := [.long, .int, .int, .int], returnType := some .boolean }, accessFlags := 9, code := some k1c1 }
/-- com/example/nimble_needle/nimbleneedle/algorithm/CharSieveDensePinLaw -/
def k1 : Class := { plain "com/example/nimble_needle/nimbleneedle/algorithm/CharSieveDensePinLaw" (some 0) with
  accessFlags := 49
  interfaces := #[]
  cf := some (fileOf pool1 25 #[] #[{ accessFlags := 1, nameIndex := 5, descriptorIndex := 6, attributes := #[] }, { accessFlags := 9, nameIndex := 29, descriptorIndex := 30, attributes := #[] }] 49 2 #[] #[])
  fields := #[]
  methods := #[k1m0, k1m1]
  instanceTypes := #[]
  staticTypes := #[]
  resolved := Array.replicate 34 none
  statics := none }

def pool2 : Array CpInfo := pool [(2, .class_ 4), (1, u "java/lang/Object"), (3, .class_ 10), (1, u "com/example/nimble_needle/nimbleneedle/algorithm/CharSieve"), (0, u "first"), (0, u "C"), (2, u "soughtPlace"), (0, u "I"), (2, u "sought"), (8, u "secondPlace"), (2, u "second"), (2, u "thirdPlace"), (2, u "third"), (8, u "rare"), (0, u "Z"), (9, u "compared"), (0, u "Ljava/lang/String;"), (2, u "whole"), (30, u "dense"), (0, u "(JI)Z"), (12, .long 4), (1, .long 8), (1, u "ALIGNED"), (2, u "EVIDENCE"), (1, u "DENSE"), (1, u "CROWDED")] 15

def k2c0 : Code := { maxStack := 4, maxLocals := 3, code := prog_16_method_9_code, exceptionTable := #[], attributes := #[] }
def k2m0 : Method := { name := "dense", desc := "(JI)Z", sig := { parameters := [.long, .int], returnType := some .boolean }, accessFlags := 8, code := some k2c0 }
/-- com/example/nimble_needle/nimbleneedle/algorithm/CharSieve -/
def k2 : Class := { plain "com/example/nimble_needle/nimbleneedle/algorithm/CharSieve" (some 0) with
  accessFlags := 48
  interfaces := #[]
  cf := some (fileOf pool2 8 #[] #[{ accessFlags := 8, nameIndex := 92, descriptorIndex := 93, attributes := #[] }] 48 2 #[] #[{ accessFlags := 26, nameIndex := 110, descriptorIndex := 16, attributes := #[] }, { accessFlags := 26, nameIndex := 113, descriptorIndex := 16, attributes := #[] }, { accessFlags := 26, nameIndex := 115, descriptorIndex := 16, attributes := #[] }, { accessFlags := 26, nameIndex := 117, descriptorIndex := 16, attributes := #[] }, { accessFlags := 18, nameIndex := 11, descriptorIndex := 12, attributes := #[] }, { accessFlags := 18, nameIndex := 15, descriptorIndex := 16, attributes := #[] }, { accessFlags := 18, nameIndex := 19, descriptorIndex := 12, attributes := #[] }, { accessFlags := 18, nameIndex := 28, descriptorIndex := 16, attributes := #[] }, { accessFlags := 18, nameIndex := 31, descriptorIndex := 12, attributes := #[] }, { accessFlags := 18, nameIndex := 34, descriptorIndex := 16, attributes := #[] }, { accessFlags := 18, nameIndex := 37, descriptorIndex := 12, attributes := #[] }, { accessFlags := 18, nameIndex := 46, descriptorIndex := 47, attributes := #[] }, { accessFlags := 18, nameIndex := 57, descriptorIndex := 58, attributes := #[] }, { accessFlags := 18, nameIndex := 61, descriptorIndex := 47, attributes := #[] }])
  fields := #[{ name := "ALIGNED", type := .int, accessFlags := 26, slot := 0, constantValue := 0 }, { name := "EVIDENCE", type := .int, accessFlags := 26, slot := 1, constantValue := 0 }, { name := "DENSE", type := .int, accessFlags := 26, slot := 2, constantValue := 0 }, { name := "CROWDED", type := .int, accessFlags := 26, slot := 3, constantValue := 0 }, { name := "first", type := .char, accessFlags := 18, slot := 0, constantValue := 0 }, { name := "soughtPlace", type := .int, accessFlags := 18, slot := 1, constantValue := 0 }, { name := "sought", type := .char, accessFlags := 18, slot := 2, constantValue := 0 }, { name := "secondPlace", type := .int, accessFlags := 18, slot := 3, constantValue := 0 }, { name := "second", type := .char, accessFlags := 18, slot := 4, constantValue := 0 }, { name := "thirdPlace", type := .int, accessFlags := 18, slot := 5, constantValue := 0 }, { name := "third", type := .char, accessFlags := 18, slot := 6, constantValue := 0 }, { name := "rare", type := .boolean, accessFlags := 18, slot := 7, constantValue := 0 }, { name := "compared", type := (.object "java/lang/String"), accessFlags := 18, slot := 8, constantValue := 0 }, { name := "whole", type := .boolean, accessFlags := 18, slot := 9, constantValue := 0 }]
  methods := #[k2m0]
  instanceTypes := #[.char, .int, .char, .int, .char, .int, .char, .boolean, (.object "java/lang/String"), .boolean]
  staticTypes := #[.int, .int, .int, .int]
  resolved := Array.replicate 133 none
  statics := none }

def pool3 : Array CpInfo := pool [(1, .class_ 2), (0, u "java/lang/Math"), (1, .class_ 6), (1, u "java/lang/Object"), (0, u "<init>"), (0, u "()V"), (89, .class_ 100), (1, u "java/lang/Math$RandomNumberGeneratorHolder"), (20, u "(JJ)J"), (50, u "negativeZeroFloatBits"), (0, u "J"), (2, u "negativeZeroDoubleBits"), (21, u "max"), (46, u "$assertionsDisabled"), (0, u "Z"), (91, u "twoToTheDoubleScaleDown"), (0, u "D"), (4, u "twoToTheDoubleScaleUp"), (9, u "E"), (3, u "PI"), (2, u "TAU"), (2, u "DEGREES_TO_RADIANS"), (0, u "RADIANS_TO_DEGREES")] 94

def k3m0 : Method := { name := "<init>", desc := "()V", sig := { parameters := [], returnType := none }, accessFlags := 2, code := none }
def k3c1 : Code := { maxStack := 4, maxLocals := 4, code := jdk_29_method_66_code, exceptionTable := #[], attributes := #[] }
def k3m1 : Method := { name := "max", desc := "(JJ)J", sig := { parameters := [.long, .long], returnType := some .long }, accessFlags := 9, code := some k3c1 }
/-- java/lang/Math -/
def k3 : Class := { plain "java/lang/Math" (some 0) with
  accessFlags := 49
  interfaces := #[]
  cf := some (fileOf pool3 1 #[.nestMembers #[98]] #[{ accessFlags := 2, nameIndex := 7, descriptorIndex := 8, attributes := #[] }, { accessFlags := 9, nameIndex := 198, descriptorIndex := 121, attributes := #[] }] 49 4 #[] #[{ accessFlags := 25, nameIndex := 354, descriptorIndex := 339, attributes := #[] }, { accessFlags := 25, nameIndex := 358, descriptorIndex := 339, attributes := #[] }, { accessFlags := 25, nameIndex := 361, descriptorIndex := 339, attributes := #[] }, { accessFlags := 26, nameIndex := 364, descriptorIndex := 339, attributes := #[] }, { accessFlags := 26, nameIndex := 365, descriptorIndex := 339, attributes := #[] }, { accessFlags := 26, nameIndex := 172, descriptorIndex := 173, attributes := #[] }, { accessFlags := 26, nameIndex := 176, descriptorIndex := 173, attributes := #[] }, { accessFlags := 8, nameIndex := 344, descriptorIndex := 339, attributes := #[] }, { accessFlags := 8, nameIndex := 338, descriptorIndex := 339, attributes := #[] }, { accessFlags := 4120, nameIndex := 245, descriptorIndex := 246, attributes := #[] }])
  fields := #[{ name := "E", type := .double, accessFlags := 25, slot := 0, constantValue := 0 }, { name := "PI", type := .double, accessFlags := 25, slot := 1, constantValue := 0 }, { name := "TAU", type := .double, accessFlags := 25, slot := 2, constantValue := 0 }, { name := "DEGREES_TO_RADIANS", type := .double, accessFlags := 26, slot := 3, constantValue := 0 }, { name := "RADIANS_TO_DEGREES", type := .double, accessFlags := 26, slot := 4, constantValue := 0 }, { name := "negativeZeroFloatBits", type := .long, accessFlags := 26, slot := 5, constantValue := 0 }, { name := "negativeZeroDoubleBits", type := .long, accessFlags := 26, slot := 6, constantValue := 0 }, { name := "twoToTheDoubleScaleUp", type := .double, accessFlags := 8, slot := 7, constantValue := 0 }, { name := "twoToTheDoubleScaleDown", type := .double, accessFlags := 8, slot := 8, constantValue := 0 }, { name := "$assertionsDisabled", type := .boolean, accessFlags := 4120, slot := 9, constantValue := 0 }]
  methods := #[k3m0, k3m1]
  instanceTypes := #[]
  staticTypes := #[.double, .double, .double, .double, .double, .long, .long, .double, .double, .boolean]
  resolved := Array.replicate 460 none
  statics := none }

def pool4 : Array CpInfo := pool [(1, u "java/lang/Cloneable"), (0, .class_ 1), (0, u "java/lang/Object"), (0, .class_ 3)] 3

/-- java/lang/Cloneable -/
def k4 : Class := { plain "java/lang/Cloneable" (some 0) with
  accessFlags := 1537
  interfaces := #[]
  cf := some (fileOf pool4 2 #[] #[] 1537 4 #[] #[])
  fields := #[]
  methods := #[]
  instanceTypes := #[]
  staticTypes := #[]
  resolved := Array.replicate 8 none
  statics := none }

def pool5 : Array CpInfo := pool [(1, u "java/io/Serializable"), (0, .class_ 1), (0, u "java/lang/Object"), (0, .class_ 3)] 3

/-- java/io/Serializable -/
def k5 : Class := { plain "java/io/Serializable" (some 0) with
  accessFlags := 1537
  interfaces := #[]
  cf := some (fileOf pool5 2 #[] #[] 1537 4 #[] #[])
  fields := #[]
  methods := #[]
  instanceTypes := #[]
  staticTypes := #[]
  resolved := Array.replicate 8 none
  statics := none }

/-- the primitive byte -/
def k6 : Class := { plain "byte" none with kind := .primitive 'B', accessFlags := 0x411 }
/-- [B -/
def k7 : Class := { plain "[B" (some 0) with kind := .array 6 .byte, interfaces := #[4, 5], accessFlags := 1041 }

/-- the primitive int -/
def k8 : Class := { plain "int" none with kind := .primitive 'I', accessFlags := 0x411 }
/-- [I -/
def k9 : Class := { plain "[I" (some 0) with kind := .array 8 .int, interfaces := #[4, 5], accessFlags := 1041 }

def heap : Heap := #[]
def classes : Array Class := #[k0, k1, k2, k3, k4, k5, k6, k7, k8, k9]
def interned : List (Array UInt16 × Addr) := []
def slotsUsed : Nat := 0
def theMethod : MethodId := ⟨1, 1⟩
def args0 : Array Value := #[.long 5, .int 5, .int 5, .int 5]
def aboutOver (below : List Frame) : State where
  vm := { classes := classes, interned := interned.toArray }
  heap := heap
  slotsUsed := slotsUsed
  threads := #[{ frames := .invoking theMethod args0 :: below }]
def below0 : List Frame := [.native { method := ⟨0, 0⟩, args := #[] }]
def about1 : State := aboutOver below0
def p0 : Program := .bare "" "" ""
def e0 : Env := launch0.env 0 0 0
theorem w_frames : about1.frames = Frame.invoking theMethod args0 :: below0 := rfl
set_option maxRecDepth 65536 in
theorem w_args : argsFit about1.vm theMethod args0 = true := by decide +kernel
set_option maxRecDepth 65536 in
theorem w_heap : heapFits about1 = true := by decide +kernel
set_option maxRecDepth 65536 in
theorem w_runnable : about1.curStatus? = some .runnable := by decide +kernel
set_option maxRecDepth 65536 in
theorem w_alone : about1.alone = true := by decide +kernel
set_option maxRecDepth 65536 in
theorem w_named : about1.methodNamed? x = some theMethod := by decide +kernel
set_option maxRecDepth 65536 in
theorem w_hears : about1.hears theMethod below0 = true := by decide +kernel
set_option maxRecDepth 65536 in
theorem w_ripe : about1.ripe theMethod args0 below0 = true := by decide +kernel
theorem w_running : about1.status = .running := rfl
set_option maxRecDepth 65536 in
theorem w_room : about1.hasRoom e0.platform room_1 = true :=
  launch0.hasRoom_least _ room_1 (by decide +kernel) (by decide +kernel) (by decide +kernel) (by decide +kernel) (by decide +kernel) (by decide +kernel)
theorem allAtoms_all (ts : List Jvm.Cond) (a : Array Jvm.Value) (st : Jvm.State) : (allAtoms ts).before a st = ts.all (fun c => c.before a st) := by
  induction ts with
  | nil => rfl
  | cons c t ih =>
    show (Jvm.Cond.and c (allAtoms t)).before a st = _
    rw [Jvm.Cond.before_and, ih, List.all_cons]
def words1 : List Jvm.Cond := Jvm.Cond.code x code maxLocals ret :: tables_1
/-- a 'code' word, met by the world's own term for the bytes: nothing is compared byte by byte -/
theorem code_word {y : MethodName} {bytes : ByteArray} {mx : Nat} {rt : Option FieldType} {a : Array Value} {s : State} {m : MethodId} {meth : Method} {c : Code} (h1 : s.methodNamed? y = some m) (h2 : s.vm.method? m = some meth) (h3 : meth.code = some c) (h4 : c.code = bytes)
    (h5 : (c.maxLocals == mx && c.exceptionTable.isEmpty && decide (c.maxStack ≤ mostOperands) && decide (meth.sig.returnType = rt) && !meth.locks && decide (parseMethodDescriptor y.desc = some meth.sig)) = true) : (Jvm.Cond.code y bytes mx rt).before a s = true := by
  simp only [Bool.and_eq_true, beq_iff_eq, Bool.not_eq_true', decide_eq_true_eq] at h5
  obtain ⟨⟨⟨⟨⟨g1, g2⟩, g3⟩, g4⟩, g5⟩, g6⟩ := h5
  simp [Cond.before, Cond.holds, Cond.value, h1, h2, h3, h4, g1, g2, g3, g4, g5, g6]
def isCode : Jvm.Cond → Bool
  | .code _ _ _ _ => true
  | _ => false
theorem all_split {L : List Jvm.Cond} {P : Jvm.Cond → Bool} (h1 : L.all (fun c => isCode c || P c) = true) (h2 : ∀ c ∈ L.filter isCode, P c = true) : L.all P = true := by
  refine List.all_eq_true.mpr fun c hc => ?_
  have h := List.all_eq_true.mp h1 c hc
  rcases Bool.eq_false_or_eq_true (isCode c) with hi | hi
  · exact h2 c (List.mem_filter.mpr ⟨hc, hi⟩)
  · simpa [hi] using h
set_option maxRecDepth 65536 in
theorem w_c0 : (Jvm.Cond.code x code maxLocals ret).before args0 about1 = true := code_word (m := ⟨1, 1⟩) (meth := k1m1) (c := k1c1) (by decide +kernel) rfl rfl rfl (by decide +kernel)
set_option maxRecDepth 65536 in
theorem w_c1 : (Jvm.Cond.code ({ cls := "com/example/nimble_needle/nimbleneedle/algorithm/CharSieve", name := "dense", desc := "(JI)Z" } : Jvm.MethodName) prog_16_method_9_code (3 : Nat) (Option.some Jvm.ClassFile.FieldType.boolean)).before args0 about1 = true := code_word (m := ⟨2, 0⟩) (meth := k2m0) (c := k2c0) (by decide +kernel) rfl rfl rfl (by decide +kernel)
set_option maxRecDepth 65536 in
theorem w_c2 : (Jvm.Cond.code ({ cls := "java/lang/Math", name := "max", desc := "(JJ)J" } : Jvm.MethodName) jdk_29_method_66_code (4 : Nat) (Option.some Jvm.ClassFile.FieldType.long)).before args0 about1 = true := code_word (m := ⟨3, 1⟩) (meth := k3m1) (c := k3c1) (by decide +kernel) rfl rfl rfl (by decide +kernel)
def codes1 : List Jvm.Cond := [Jvm.Cond.code x code maxLocals ret, Jvm.Cond.code ({ cls := "com/example/nimble_needle/nimbleneedle/algorithm/CharSieve", name := "dense", desc := "(JI)Z" } : Jvm.MethodName) prog_16_method_9_code (3 : Nat) (Option.some Jvm.ClassFile.FieldType.boolean), Jvm.Cond.code ({ cls := "java/lang/Math", name := "max", desc := "(JJ)J" } : Jvm.MethodName) jdk_29_method_66_code (4 : Nat) (Option.some Jvm.ClassFile.FieldType.long)]
set_option maxRecDepth 65536 in
theorem codes_eq : words1.filter isCode = codes1 := rfl
theorem w_codes : ∀ c ∈ words1.filter isCode, c.before args0 about1 = true := by
  rw [codes_eq]
  intro c hc
  simp only [codes1, List.mem_cons, List.not_mem_nil, or_false] at hc
  rcases hc with rfl | rfl | rfl
  · exact w_c0
  · exact w_c1
  · exact w_c2
set_option maxRecDepth 65536 in
theorem w_t1 : words1.all (fun c => isCode c || c.before args0 about1) = true := by decide +kernel
theorem w_tables : (allAtoms (Jvm.Cond.code x code maxLocals ret :: tables_1)).before args0 about1 = true := by
  rw [allAtoms_all]
  show words1.all (fun c => c.before args0 about1) = true
  refine all_split ?_ w_codes
  rw [w_t1]
set_option maxRecDepth 65536 in
theorem w_case : (Jvm.Cond.and given_1 narrow_1).before args0 about1 = true := by decide +kernel
theorem w_applies : (headSpec (Jvm.Cond.code x code maxLocals ret :: tables_1) room_1).applies x e0.platform about1 = true :=
  (Spec.applies_iff w_frames).mpr ⟨w_running, w_runnable, w_alone, w_named, w_hears, w_ripe, w_room, w_tables⟩
theorem atStart : AtStart classFile x code maxLocals ret World_1 tables_1 room_1 Calls_1 rest_1 Pre_1 launch0 p0 e0 about1 theMethod args0 below0 :=
  ⟨lists_1, trivial, launch0.admits_env _ _ _, launch0.least_env, fairChoices_fair.cas, fairChoices_fair.clock, w_frames, w_args, w_heap, w_applies, trivial, trivial, w_case⟩
end start1
theorem witness_1 : WitnessClaimed_1 := ⟨start1.p0, start1.e0, start1.about1, start1.theMethod, start1.args0, start1.below0, start1.atStart⟩
end Jvm.Pilot.@@N@@
