import JvmDerived
import JvmDerived.Pilot.@@N@@Statement
import JvmDerived.Pilot.@@N@@Code
set_option linter.unusedVariables false
set_option linter.unusedSimpArgs false
namespace Jvm.RoadKit
open Sem ClassFile Op Lib Jvm.Stand Jvm.Free Jvm.LawKit
section New
variable {p : Program} {l : Launch} {e : Env} {R : Room} {s : State} {m : MethodId} {args : Array Value} {below : List Frame} {meth : Method} {c : Code} {T : State} {locs : List Loc} {cells slots : Nat}
theorem retI (X : Stand p l e R s m args below meth c T locs cells slots) (hx : p.tables.exec = Jvm.exec) {pc : Nat} {Ls : Array Slot} {z : Int32} {rest : List Value} (hret : meth.sig.returnType = some .int) (hd : decode c.code pc = .ok (.ireturn, 1)) {fs : List Frame}
    (hl : ∀ (f : JFrame) (acts : List Action), f.method = m → f.locked = none → f.entered = [] → (doReturn e (T.setTop f) acts (some (.int z))).1 = T.setFrames fs) : Steps p.tables e below (T.setTop (mkF m pc Ls (.int z :: rest))) (T.setFrames fs) := by
  have hm' : T.vm.method? m = some meth := X.method'
  have hn : narrow .int (.int z) = .int z := rfl
  show Steps p.tables e below (T.setTop { method := m, pc := pc, locals := Ls, stack := _ :: rest, locked := none }) _
  jvm_step X.here [X.here.top, hx, hd, hm', hret, hn]
  first | (intro acts; rw [hl _ acts rfl rfl rfl]) | rw [hl _ _ rfl rfl rfl]
  exact Steps.refl _
end New
end Jvm.RoadKit
namespace Jvm.Pilot.@@N@@
open Jvm Jvm.ClassFile Sem Op Lib Jvm.Free Jvm.Stand Jvm.LawKit Jvm.RoadKit Bundle Jvm.Pilot.@@N@@.Jvm.D
theorem own_pn0 : plainName "com/example/wirefold/wirefold/message/InformationalResponse" = true := by first | (simp [plainName, overriddenIn]; done) | decide +kernel
theorem own_pn13 : plainName "com/example/wirefold/wirefold/message/InformationalResponseIsInformationalPinLaw" = true := by first | (simp [plainName, overriddenIn]; done) | decide +kernel
theorem own_pd24 : parseMethodDescriptor "(J)Z" = some ⟨[.long], some .boolean⟩ := by decide +kernel
-- body 1
theorem own_d1_0 : decode prog_40_method_2_code 0 = .ok (.lload_n 0, 1) := by decide +kernel
theorem own_d1_1 : decode prog_40_method_2_code 1 = .ok (.ldc2_w 32, 3) := by decide +kernel
theorem own_d1_4 : decode prog_40_method_2_code 4 = .ok (.lcmp, 1) := by decide +kernel
theorem own_d1_5 : decode prog_40_method_2_code 5 = .ok (.ifCond .lt 15, 3) := by decide +kernel
theorem own_d1_8 : decode prog_40_method_2_code 8 = .ok (.lload_n 0, 1) := by decide +kernel
theorem own_d1_9 : decode prog_40_method_2_code 9 = .ok (.ldc2_w 34, 3) := by decide +kernel
theorem own_d1_12 : decode prog_40_method_2_code 12 = .ok (.lcmp, 1) := by decide +kernel
theorem own_d1_13 : decode prog_40_method_2_code 13 = .ok (.ifCond .gt 7, 3) := by decide +kernel
theorem own_d1_16 : decode prog_40_method_2_code 16 = .ok (.iconst 1, 1) := by decide +kernel
theorem own_d1_17 : decode prog_40_method_2_code 17 = .ok (.goto 4, 3) := by decide +kernel
theorem own_d1_20 : decode prog_40_method_2_code 20 = .ok (.iconst 0, 1) := by decide +kernel
theorem own_d1_21 : decode prog_40_method_2_code 21 = .ok (.ireturn, 1) := by decide +kernel
theorem own_ef1 (m : MethodId) (x0 : Int64) : entryFrame m #[(.long x0)] 2 = mkF m 0 #[.val (.long x0), .second] [] := by first | (simp [entryFrame, mkF, argsToLocals, Value.category]; done) | rfl
def own_f1 (q1 : Int64) : Int32 := if (lcmpW q1 (100 : Int64)) < (0 : Int32) then (0 : Int32)
    else if (0 : Int32) < (lcmpW q1 (199 : Int64)) then (0 : Int32)
      else (1 : Int32)
def own_Q1 (Z : State) (q1 : Int64) (h0 : Heap) (n0 : Nat) (v : Option Value) (h : Heap) (L : List Loc) : Prop := v = some (.int (own_f1 q1)) ∧ Fr n0 L ∧ h = h0
set_option maxRecDepth 65536 in
set_option maxHeartbeats 40000000 in
theorem own_rm1 (l : Launch) (Z : State) (a0 : Array Value) (hw : ∀ d ∈ tables_1, d.before a0 Z = true) (ws : List Jvm.Cond) (q1 : Int64) (h0 : Heap) (n0 : Nat) (Z0 : n0 ≤ h0.size) :
    MetFree l (⟨"com/example/wirefold/wirefold/message/InformationalResponse", "isInformational", "(J)Z"⟩ : MethodName) (head1 (Jvm.Cond.code (⟨"com/example/wirefold/wirefold/message/InformationalResponse", "isInformational", "(J)Z"⟩ : MethodName) prog_40_method_2_code 2 (some .boolean) :: ws) ({ frames := 0, cells := 0, slots := 0, locals := 0 } : Room)) (fun a U => a = #[(.long q1)] ∧ Z.Warmed39 U.vm ∧ U.heap = h0) (fun _ _ _ _ _ => True) (fun _ U o U' => ∃ v L, o = .returned v ∧ own_Q1 Z q1 h0 n0 v U'.heap L ∧ FrameEnd U o U' L ({ frames := 0, cells := 0, slots := 0, locals := 0 } : Room).cells ({ frames := 0, cells := 0, slots := 0, locals := 0 } : Room).slots) := by
  refine MetFree.of_bodySF (plainFor_of_name own_pn0) hisR ?_
  intro p e s m args below meth c s₁ Bd hml0 hP hK
  obtain ⟨rfl, hZ, hh⟩ := hP
  have hx := Bd.exec
  have hby := Bd.bytes
  have hml : c.maxLocals = 2 := hml0
  have hown : s.vm.findClass "com/example/wirefold/wirefold/message/InformationalResponse" = some m.cls := findClass_of_methodNamed Bd.named
  have hnm := (name_of_methodNamed Bd.named Bd.method).1
  have X0 : Stand p l e ({ frames := 0, cells := 0, slots := 0, locals := 0 } : Room) s m #[(.long q1)] below meth c s₁ [] 0 0 := Stand.of_body Bd
  have e0 : s₁.heap = h0 := by rw [← hh, Bd.state]; rfl
  have N0 := Fr.nil n0
  have pre0 : ∀ t, Steps p.tables e below (s₁.setTop (mkF m 0 #[.val (.long q1), .second] [])) t → Steps p.tables e below (s₁.setTop (entryFrame m #[(.long q1)] 2)) t := fun t k => castTop (own_ef1 m q1) k
  have k1 : ∀ t, Steps p.tables e below (s₁.setTop (mkF m 5 #[.val (.long q1), .second] [(.int (lcmpW q1 (100 : Int64)))])) t → Steps p.tables e below (s₁.setTop (entryFrame m #[(.long q1)] 2)) t := by
    intro t kt
    refine pre0 t ?_
    show Steps p.tables e below (s₁.setTop (mkF m 0 #[.val (.long q1), .second] [])) _
    refine XS.lloadN X0.here hx rfl (hb hby own_d1_0) rfl ?_
    show Steps p.tables e below (s₁.setTop (mkF m 1 #[.val (.long q1), .second] [(.long q1)])) _
    refine X0.ldc2Long hx hown (mvT hZ (hw _ (List.mem_of_getElem? (i := 5) rfl))) (g := (mkF m 1 #[.val (.long q1), .second] [(.long q1)])) rfl (hb hby own_d1_1) _ ?_
    show Steps p.tables e below (s₁.setTop (mkF m 4 #[.val (.long q1), .second] [(.long (100 : Int64)), (.long q1)])) _
    refine XS.lcmp X0.here hx rfl (hb hby own_d1_4) rfl ?_
    exact kt
  by_cases hc1 : (lcmpW q1 (100 : Int64)) < (0 : Int32)
  ·
    obtain ⟨fs, hr, hrun, hended, hW, hsame⟩ := X0.leave (v := some (.int (0 : Int32))) (fun h => by rw [Bd.returns] at h; cases h)
    refine ⟨_, _, k1 _ ?_, hrun, hended, _, _, rfl, ?_, ⟨_, rfl⟩, hW, hsame.mono (by decide) (by decide)⟩
    · show Steps p.tables e below (s₁.setTop (mkF m 5 #[.val (.long q1), .second] [(.int (lcmpW q1 (100 : Int64)))])) _
      refine XS.ifYes X0.here hx rfl (pc0 := 5) (pc' := 20) rfl (hb hby own_d1_5) rfl ((if0 _ _).trans (tlt hc1).1) (by decide) (by decide) ?_
      show Steps p.tables e below (s₁.setTop (mkF m 20 #[.val (.long q1), .second] [])) _
      refine XS.iconst X0.here hx rfl (hb hby own_d1_20) ?_
      show Steps p.tables e below (s₁.setTop (mkF m 21 #[.val (.long q1), .second] [(.int (0 : Int32))])) _
      exact retN X0 hx (t := .boolean) Bd.returns (by simp) (hb hby own_d1_21) hr
    · show own_Q1 Z q1 h0 n0 _ s₁.heap _
      rw [e0]
      exact ⟨(by rw [own_f1, if_pos hc1]), N0, rfl⟩
  ·
    have k2 : ∀ t, Steps p.tables e below (s₁.setTop (mkF m 13 #[.val (.long q1), .second] [(.int (lcmpW q1 (199 : Int64)))])) t → Steps p.tables e below (s₁.setTop (entryFrame m #[(.long q1)] 2)) t := by
      intro t kt
      refine k1 t ?_
      show Steps p.tables e below (s₁.setTop (mkF m 5 #[.val (.long q1), .second] [(.int (lcmpW q1 (100 : Int64)))])) _
      refine XS.ifNo X0.here hx rfl (hb hby own_d1_5) rfl ((if0 _ _).trans (flt hc1).1) ?_
      show Steps p.tables e below (s₁.setTop (mkF m 8 #[.val (.long q1), .second] [])) _
      refine XS.lloadN X0.here hx rfl (hb hby own_d1_8) rfl ?_
      show Steps p.tables e below (s₁.setTop (mkF m 9 #[.val (.long q1), .second] [(.long q1)])) _
      refine X0.ldc2Long hx hown (mvT hZ (hw _ (List.mem_of_getElem? (i := 11) rfl))) (g := (mkF m 9 #[.val (.long q1), .second] [(.long q1)])) rfl (hb hby own_d1_9) _ ?_
      show Steps p.tables e below (s₁.setTop (mkF m 12 #[.val (.long q1), .second] [(.long (199 : Int64)), (.long q1)])) _
      refine XS.lcmp X0.here hx rfl (hb hby own_d1_12) rfl ?_
      exact kt
    by_cases hc2 : (0 : Int32) < (lcmpW q1 (199 : Int64))
    ·
      obtain ⟨fs, hr, hrun, hended, hW, hsame⟩ := X0.leave (v := some (.int (0 : Int32))) (fun h => by rw [Bd.returns] at h; cases h)
      refine ⟨_, _, k2 _ ?_, hrun, hended, _, _, rfl, ?_, ⟨_, rfl⟩, hW, hsame.mono (by decide) (by decide)⟩
      · show Steps p.tables e below (s₁.setTop (mkF m 13 #[.val (.long q1), .second] [(.int (lcmpW q1 (199 : Int64)))])) _
        refine XS.ifYes X0.here hx rfl (pc0 := 13) (pc' := 20) rfl (hb hby own_d1_13) rfl ((if0 _ _).trans (tlt hc2).2.2.1) (by decide) (by decide) ?_
        show Steps p.tables e below (s₁.setTop (mkF m 20 #[.val (.long q1), .second] [])) _
        refine XS.iconst X0.here hx rfl (hb hby own_d1_20) ?_
        show Steps p.tables e below (s₁.setTop (mkF m 21 #[.val (.long q1), .second] [(.int (0 : Int32))])) _
        exact retN X0 hx (t := .boolean) Bd.returns (by simp) (hb hby own_d1_21) hr
      · show own_Q1 Z q1 h0 n0 _ s₁.heap _
        rw [e0]
        exact ⟨(by rw [own_f1, if_neg hc1, if_pos hc2]), N0, rfl⟩
    ·
      obtain ⟨fs, hr, hrun, hended, hW, hsame⟩ := X0.leave (v := some (.int (1 : Int32))) (fun h => by rw [Bd.returns] at h; cases h)
      refine ⟨_, _, k2 _ ?_, hrun, hended, _, _, rfl, ?_, ⟨_, rfl⟩, hW, hsame.mono (by decide) (by decide)⟩
      · show Steps p.tables e below (s₁.setTop (mkF m 13 #[.val (.long q1), .second] [(.int (lcmpW q1 (199 : Int64)))])) _
        refine XS.ifNo X0.here hx rfl (hb hby own_d1_13) rfl ((if0 _ _).trans (flt hc2).2.2.1) ?_
        show Steps p.tables e below (s₁.setTop (mkF m 16 #[.val (.long q1), .second] [])) _
        refine XS.iconst X0.here hx rfl (hb hby own_d1_16) ?_
        show Steps p.tables e below (s₁.setTop (mkF m 17 #[.val (.long q1), .second] [(.int (1 : Int32))])) _
        refine XS.goto X0.here hx rfl (pc0 := 17) (pc' := 21) rfl (hb hby own_d1_17) (by decide) (by decide) ?_
        show Steps p.tables e below (s₁.setTop (mkF m 21 #[.val (.long q1), .second] [(.int (1 : Int32))])) _
        exact retN X0 hx (t := .boolean) Bd.returns (by simp) (hb hby own_d1_21) hr
      · show own_Q1 Z q1 h0 n0 _ s₁.heap _
        rw [e0]
        exact ⟨(by rw [own_f1, if_neg hc1, if_neg hc2]), N0, rfl⟩
-- body 2
theorem own_d2_0 : decode method_2_code 0 = .ok (.lload_n 0, 1) := by decide +kernel
theorem own_d2_1 : decode method_2_code 1 = .ok (.ldc2_w 7, 3) := by decide +kernel
theorem own_d2_4 : decode method_2_code 4 = .ok (.ldiv, 1) := by decide +kernel
theorem own_d2_5 : decode method_2_code 5 = .ok (.lconst 1, 1) := by decide +kernel
theorem own_d2_6 : decode method_2_code 6 = .ok (.lcmp, 1) := by decide +kernel
theorem own_d2_7 : decode method_2_code 7 = .ok (.ifCond .ne 7, 3) := by decide +kernel
theorem own_d2_10 : decode method_2_code 10 = .ok (.iconst 1, 1) := by decide +kernel
theorem own_d2_11 : decode method_2_code 11 = .ok (.goto 4, 3) := by decide +kernel
theorem own_d2_14 : decode method_2_code 14 = .ok (.iconst 0, 1) := by decide +kernel
theorem own_d2_15 : decode method_2_code 15 = .ok (.ireturn, 1) := by decide +kernel
theorem own_ef2 (m : MethodId) (x0 : Int64) : entryFrame m #[(.long x0)] 2 = mkF m 0 #[.val (.long x0), .second] [] := by first | (simp [entryFrame, mkF, argsToLocals, Value.category]; done) | rfl
def own_f2 (q1 : Int64) : Int32 := if (lcmpW (q1 / (100 : Int64)) (1 : Int64)) = (0 : Int32) then (1 : Int32)
    else (0 : Int32)
def own_Q2 (Z : State) (q1 : Int64) (h0 : Heap) (n0 : Nat) (v : Option Value) (h : Heap) (L : List Loc) : Prop := v = some (.int (own_f2 q1)) ∧ Fr n0 L ∧ h = h0
set_option maxRecDepth 65536 in
set_option maxHeartbeats 40000000 in
theorem own_rm2 (l : Launch) (Z : State) (a0 : Array Value) (hw : ∀ d ∈ tables_1, d.before a0 Z = true) (ws : List Jvm.Cond) (q1 : Int64) (h0 : Heap) (n0 : Nat) (Z0 : n0 ≤ h0.size) :
    MetFree l (⟨"com/example/wirefold/wirefold/message/InformationalResponseIsInformationalPinLaw", "oneHundredClass", "(J)Z"⟩ : MethodName) (head1 (Jvm.Cond.code (⟨"com/example/wirefold/wirefold/message/InformationalResponseIsInformationalPinLaw", "oneHundredClass", "(J)Z"⟩ : MethodName) method_2_code 2 (some .boolean) :: ws) ({ frames := 0, cells := 0, slots := 0, locals := 0 } : Room)) (fun a U => a = #[(.long q1)] ∧ Z.Warmed39 U.vm ∧ U.heap = h0) (fun _ _ _ _ _ => True) (fun _ U o U' => ∃ v L, o = .returned v ∧ own_Q2 Z q1 h0 n0 v U'.heap L ∧ FrameEnd U o U' L ({ frames := 0, cells := 0, slots := 0, locals := 0 } : Room).cells ({ frames := 0, cells := 0, slots := 0, locals := 0 } : Room).slots) := by
  refine MetFree.of_bodySF (plainFor_of_name own_pn13) hisR ?_
  intro p e s m args below meth c s₁ Bd hml0 hP hK
  obtain ⟨rfl, hZ, hh⟩ := hP
  have hx := Bd.exec
  have hby := Bd.bytes
  have hml : c.maxLocals = 2 := hml0
  have hown : s.vm.findClass "com/example/wirefold/wirefold/message/InformationalResponseIsInformationalPinLaw" = some m.cls := findClass_of_methodNamed Bd.named
  have hnm := (name_of_methodNamed Bd.named Bd.method).1
  have X0 : Stand p l e ({ frames := 0, cells := 0, slots := 0, locals := 0 } : Room) s m #[(.long q1)] below meth c s₁ [] 0 0 := Stand.of_body Bd
  have e0 : s₁.heap = h0 := by rw [← hh, Bd.state]; rfl
  have N0 := Fr.nil n0
  have pre0 : ∀ t, Steps p.tables e below (s₁.setTop (mkF m 0 #[.val (.long q1), .second] [])) t → Steps p.tables e below (s₁.setTop (entryFrame m #[(.long q1)] 2)) t := fun t k => castTop (own_ef2 m q1) k
  have k1 : ∀ t, Steps p.tables e below (s₁.setTop (mkF m 7 #[.val (.long q1), .second] [(.int (lcmpW (q1 / (100 : Int64)) (1 : Int64)))])) t → Steps p.tables e below (s₁.setTop (entryFrame m #[(.long q1)] 2)) t := by
    intro t kt
    refine pre0 t ?_
    show Steps p.tables e below (s₁.setTop (mkF m 0 #[.val (.long q1), .second] [])) _
    refine XS.lloadN X0.here hx rfl (hb hby own_d2_0) rfl ?_
    show Steps p.tables e below (s₁.setTop (mkF m 1 #[.val (.long q1), .second] [(.long q1)])) _
    refine X0.ldc2Long hx hown (mvT hZ (hw _ (List.mem_of_getElem? (i := 10) rfl))) (g := (mkF m 1 #[.val (.long q1), .second] [(.long q1)])) rfl (hb hby own_d2_1) _ ?_
    show Steps p.tables e below (s₁.setTop (mkF m 4 #[.val (.long q1), .second] [(.long (100 : Int64)), (.long q1)])) _
    refine XS.ldiv X0.here hx rfl (hb hby own_d2_4) rfl (by decide) ?_
    show Steps p.tables e below (s₁.setTop (mkF m 5 #[.val (.long q1), .second] [(.long (q1 / (100 : Int64)))])) _
    refine XS.lconst X0.here hx rfl (hb hby own_d2_5) ?_
    show Steps p.tables e below (s₁.setTop (mkF m 6 #[.val (.long q1), .second] [(.long (1 : Int64)), (.long (q1 / (100 : Int64)))])) _
    refine XS.lcmp X0.here hx rfl (hb hby own_d2_6) rfl ?_
    exact kt
  by_cases hc1 : (lcmpW (q1 / (100 : Int64)) (1 : Int64)) = (0 : Int32)
  ·
    obtain ⟨fs, hr, hrun, hended, hW, hsame⟩ := X0.leave (v := some (.int (1 : Int32))) (fun h => by rw [Bd.returns] at h; cases h)
    refine ⟨_, _, k1 _ ?_, hrun, hended, _, _, rfl, ?_, ⟨_, rfl⟩, hW, hsame.mono (by decide) (by decide)⟩
    · show Steps p.tables e below (s₁.setTop (mkF m 7 #[.val (.long q1), .second] [(.int (lcmpW (q1 / (100 : Int64)) (1 : Int64)))])) _
      refine XS.ifNo X0.here hx rfl (hb hby own_d2_7) rfl ((if0 _ _).trans (teq hc1).2) ?_
      show Steps p.tables e below (s₁.setTop (mkF m 10 #[.val (.long q1), .second] [])) _
      refine XS.iconst X0.here hx rfl (hb hby own_d2_10) ?_
      show Steps p.tables e below (s₁.setTop (mkF m 11 #[.val (.long q1), .second] [(.int (1 : Int32))])) _
      refine XS.goto X0.here hx rfl (pc0 := 11) (pc' := 15) rfl (hb hby own_d2_11) (by decide) (by decide) ?_
      show Steps p.tables e below (s₁.setTop (mkF m 15 #[.val (.long q1), .second] [(.int (1 : Int32))])) _
      exact retN X0 hx (t := .boolean) Bd.returns (by simp) (hb hby own_d2_15) hr
    · show own_Q2 Z q1 h0 n0 _ s₁.heap _
      rw [e0]
      exact ⟨(by rw [own_f2, if_pos hc1]), N0, rfl⟩
  ·
    obtain ⟨fs, hr, hrun, hended, hW, hsame⟩ := X0.leave (v := some (.int (0 : Int32))) (fun h => by rw [Bd.returns] at h; cases h)
    refine ⟨_, _, k1 _ ?_, hrun, hended, _, _, rfl, ?_, ⟨_, rfl⟩, hW, hsame.mono (by decide) (by decide)⟩
    · show Steps p.tables e below (s₁.setTop (mkF m 7 #[.val (.long q1), .second] [(.int (lcmpW (q1 / (100 : Int64)) (1 : Int64)))])) _
      refine XS.ifYes X0.here hx rfl (pc0 := 7) (pc' := 14) rfl (hb hby own_d2_7) rfl ((if0 _ _).trans (feq hc1).2) (by decide) (by decide) ?_
      show Steps p.tables e below (s₁.setTop (mkF m 14 #[.val (.long q1), .second] [])) _
      refine XS.iconst X0.here hx rfl (hb hby own_d2_14) ?_
      show Steps p.tables e below (s₁.setTop (mkF m 15 #[.val (.long q1), .second] [(.int (0 : Int32))])) _
      exact retN X0 hx (t := .boolean) Bd.returns (by simp) (hb hby own_d2_15) hr
    · show own_Q2 Z q1 h0 n0 _ s₁.heap _
      rw [e0]
      exact ⟨(by rw [own_f2, if_neg hc1]), N0, rfl⟩
-- body 0
theorem own_ef0 (m : MethodId) (x0 : Int64) (x1 : Int32) : entryFrame m #[(.long x0), (.int x1)] maxLocals = mkF m 0 #[.val (.long x0), .second, .val (.int x1), .unset, .unset, .unset, .unset] [] := by first | (simp [entryFrame, mkF, argsToLocals, Value.category, maxLocals]; done) | rfl
def own_f0 (q1 : Int64) (p2 : Int32) : Int32 := if (own_f1 q1) = (own_f2 q1) then (if (own_f1 ((90 : Int64) + ((p2 &&& (127 : Int32)).toInt64))) = (own_f2 ((90 : Int64) + ((p2 &&& (127 : Int32)).toInt64))) then (1 : Int32)
      else (0 : Int32))
    else if (own_f1 ((90 : Int64) + ((p2 &&& (127 : Int32)).toInt64))) = (own_f2 ((90 : Int64) + ((p2 &&& (127 : Int32)).toInt64))) then (0 : Int32)
      else (0 : Int32)
def own_Q0 (Z : State) (q1 : Int64) (p2 : Int32) (h0 : Heap) (n0 : Nat) (v : Option Value) (h : Heap) (L : List Loc) : Prop := v = some (.int (own_f0 q1 p2)) ∧ Fr n0 L
set_option maxRecDepth 65536 in
set_option maxHeartbeats 40000000 in
theorem own_rm0 (l : Launch) (Z : State) (a0 : Array Value) (hw : ∀ d ∈ tables_1, d.before a0 Z = true) (ws : List Jvm.Cond) (q1 : Int64) (p2 : Int32) (h0 : Heap) (n0 : Nat) (Z0 : n0 ≤ h0.size) :
    MetFree l x (head1 (Jvm.Cond.code x code maxLocals ret :: ws) room_1) (fun a U => a = #[(.long q1), (.int p2)] ∧ Z.Warmed39 U.vm ∧ U.heap = h0) (fun _ _ _ _ _ => True) (fun _ U o U' => ∃ v L, o = .returned v ∧ own_Q0 Z q1 p2 h0 n0 v U'.heap L ∧ FrameEnd U o U' L room_1.cells room_1.slots) := by
  refine MetFree.of_bodySF (plainFor_of_name own_pn13) hisR ?_
  intro p e s m args below meth c s₁ Bd hml0 hP hK
  obtain ⟨rfl, hZ, hh⟩ := hP
  have hx := Bd.exec
  have hby := Bd.bytes
  have hml : c.maxLocals = 7 := hml0
  have hown : s.vm.findClass "com/example/wirefold/wirefold/message/InformationalResponseIsInformationalPinLaw" = some m.cls := findClass_of_methodNamed Bd.named
  have hnm := (name_of_methodNamed Bd.named Bd.method).1
  have X0 : Stand p l e room_1 s m #[(.long q1), (.int p2)] below meth c s₁ [] 0 0 := Stand.of_body Bd
  have e0 : s₁.heap = h0 := by rw [← hh, Bd.state]; rfl
  have N0 := Fr.nil n0
  have pre0 : ∀ t, Steps p.tables e below (s₁.setTop (mkF m 0 #[.val (.long q1), .second, .val (.int p2), .unset, .unset, .unset, .unset] [])) t → Steps p.tables e below (s₁.setTop (entryFrame m #[(.long q1), (.int p2)] maxLocals)) t := fun t k => castTop (own_ef0 m q1 p2) k
  obtain ⟨v1, _, ⟨T1, L1, k1, n1⟩, -, X1, ⟨Lc1, hQ1, l1, y1, z1⟩, st1⟩ := Jvm.LawKit.callS X0 hx (y := (⟨"com/example/wirefold/wirefold/message/InformationalResponse", "isInformational", "(J)Z"⟩ : MethodName)) hown (mvT hZ (hw _ (List.mem_of_getElem? (i := 1) rfl))) (mvT hZ (hw _ (List.mem_of_getElem? (i := 2) rfl))) (mvT hZ (hw _ (List.mem_of_getElem? (i := 3) rfl))) (mvT hZ (hw _ (List.mem_of_getElem? (i := 4) rfl))) (by decide) (backOf (W := 0) (own_rm1 l Z a0 hw [] q1 h0 n0 Z0) hZ (hw _ (List.mem_of_getElem? (i := 4) rfl)) (hw _ (List.mem_of_getElem? (i := 3) rfl)) (by decide) (by decide)) (g := (mkF m 11 #[.val (.long q1), .second, .val (.int p2), .val (.long ((90 : Int64) + ((p2 &&& (127 : Int32)).toInt64))), .second, .unset, .unset] [(.long q1)])) rfl (by rw [hml]; rfl) (argsL := [(.long q1)]) (rest := []) (lenOf own_pd24 rfl) rfl (by show 2 * 0 + _ ≤ _; exact Nat.le_of_eq rfl) (hb hby at_11) (fun _ _ => ⟨rfl, e0, (by decide : 0 + 0 ≤ _), (by decide : 0 + 0 ≤ _)⟩)
  dsimp only [Pt.U, Pt.locs, Pt.cells, Pt.slots] at X1 l1 y1 z1 st1 hQ1
  subst l1 y1 z1
  obtain ⟨rfl, N1q, e1⟩ := hQ1
  have N2 := Fr.app N0 N1q
  obtain ⟨v3, _, ⟨T3, L3, k3, n3⟩, -, X3, ⟨Lc3, hQ3, l3, y3, z3⟩, st3⟩ := Jvm.LawKit.callS X1 hx (y := (⟨"com/example/wirefold/wirefold/message/InformationalResponseIsInformationalPinLaw", "oneHundredClass", "(J)Z"⟩ : MethodName)) hown (mvT hZ (hw _ (List.mem_of_getElem? (i := 6) rfl))) (mvT hZ (hw _ (List.mem_of_getElem? (i := 7) rfl))) (mvT hZ (hw _ (List.mem_of_getElem? (i := 8) rfl))) (mvT hZ (hw _ (List.mem_of_getElem? (i := 9) rfl))) (by decide) (backOf (W := 1) (own_rm2 l Z a0 hw [] q1 h0 n0 Z0) hZ (hw _ (List.mem_of_getElem? (i := 9) rfl)) (hw _ (List.mem_of_getElem? (i := 8) rfl)) (by decide) (by decide)) (g := (mkF m 15 #[.val (.long q1), .second, .val (.int p2), .val (.long ((90 : Int64) + ((p2 &&& (127 : Int32)).toInt64))), .second, .unset, .unset] [(.long q1), (.int (own_f1 q1))])) rfl (by rw [hml]; rfl) (argsL := [(.long q1)]) (rest := [(.int (own_f1 q1))]) (lenOf own_pd24 rfl) rfl (by show 2 * 0 + _ ≤ _; exact Nat.le_of_eq rfl) (hb hby at_15) (fun _ _ => ⟨rfl, e1, (by decide : 0 + 0 ≤ _), (by decide : 0 + 0 ≤ _)⟩)
  dsimp only [Pt.U, Pt.locs, Pt.cells, Pt.slots] at X3 l3 y3 z3 st3 hQ3
  subst l3 y3 z3
  obtain ⟨rfl, N3q, e3⟩ := hQ3
  have N4 := Fr.app N2 N3q
  have k5 : ∀ t, Steps p.tables e below (T3.setTop (mkF m 18 #[.val (.long q1), .second, .val (.int p2), .val (.long ((90 : Int64) + ((p2 &&& (127 : Int32)).toInt64))), .second, .unset, .unset] [(.int (own_f2 q1)), (.int (own_f1 q1))])) t → Steps p.tables e below (s₁.setTop (entryFrame m #[(.long q1), (.int p2)] maxLocals)) t := by
    intro t kt
    refine pre0 t ?_
    show Steps p.tables e below (s₁.setTop (mkF m 0 #[.val (.long q1), .second, .val (.int p2), .unset, .unset, .unset, .unset] [])) _
    refine X0.ldc2Long hx hown (mvT hZ (hw _ (List.mem_of_getElem? (i := 0) rfl))) (g := (mkF m 0 #[.val (.long q1), .second, .val (.int p2), .unset, .unset, .unset, .unset] [])) rfl (hb hby at_0) _ ?_
    show Steps p.tables e below (s₁.setTop (mkF m 3 #[.val (.long q1), .second, .val (.int p2), .unset, .unset, .unset, .unset] [(.long (90 : Int64))])) _
    refine XS.iloadN X0.here hx rfl (hb hby at_3) rfl ?_
    show Steps p.tables e below (s₁.setTop (mkF m 4 #[.val (.long q1), .second, .val (.int p2), .unset, .unset, .unset, .unset] [(.int p2), (.long (90 : Int64))])) _
    refine XS.bipush X0.here hx rfl (hb hby at_4) ?_
    show Steps p.tables e below (s₁.setTop (mkF m 6 #[.val (.long q1), .second, .val (.int p2), .unset, .unset, .unset, .unset] [(.int (127 : Int32)), (.int p2), (.long (90 : Int64))])) _
    refine XS.iand X0.here hx rfl (hb hby at_6) rfl ?_
    show Steps p.tables e below (s₁.setTop (mkF m 7 #[.val (.long q1), .second, .val (.int p2), .unset, .unset, .unset, .unset] [(.int (p2 &&& (127 : Int32))), (.long (90 : Int64))])) _
    refine XS.i2l X0.here hx rfl (hb hby at_7) rfl ?_
    show Steps p.tables e below (s₁.setTop (mkF m 8 #[.val (.long q1), .second, .val (.int p2), .unset, .unset, .unset, .unset] [(.long ((p2 &&& (127 : Int32)).toInt64)), (.long (90 : Int64))])) _
    refine XS.ladd X0.here hx rfl (hb hby at_8) rfl ?_
    show Steps p.tables e below (s₁.setTop (mkF m 9 #[.val (.long q1), .second, .val (.int p2), .unset, .unset, .unset, .unset] [(.long ((90 : Int64) + ((p2 &&& (127 : Int32)).toInt64)))])) _
    refine XS.lstoreN X0.here hx rfl (hb hby at_9) rfl (l' := #[.val (.long q1), .second, .val (.int p2), .val (.long ((90 : Int64) + ((p2 &&& (127 : Int32)).toInt64))), .second, .unset, .unset]) rfl ?_
    show Steps p.tables e below (s₁.setTop (mkF m 10 #[.val (.long q1), .second, .val (.int p2), .val (.long ((90 : Int64) + ((p2 &&& (127 : Int32)).toInt64))), .second, .unset, .unset] [])) _
    refine XS.lloadN X0.here hx rfl (hb hby at_10) rfl ?_
    show Steps p.tables e below (s₁.setTop (mkF m 11 #[.val (.long q1), .second, .val (.int p2), .val (.long ((90 : Int64) + ((p2 &&& (127 : Int32)).toInt64))), .second, .unset, .unset] [(.long q1)])) _
    refine st1 _ ?_
    show Steps p.tables e below (T1.setTop (mkF m 14 #[.val (.long q1), .second, .val (.int p2), .val (.long ((90 : Int64) + ((p2 &&& (127 : Int32)).toInt64))), .second, .unset, .unset] [(.int (own_f1 q1))])) _
    refine XS.lloadN X1.here hx rfl (hb hby at_14) rfl ?_
    show Steps p.tables e below (T1.setTop (mkF m 15 #[.val (.long q1), .second, .val (.int p2), .val (.long ((90 : Int64) + ((p2 &&& (127 : Int32)).toInt64))), .second, .unset, .unset] [(.long q1), (.int (own_f1 q1))])) _
    refine st3 _ ?_
    exact kt
  by_cases hc1 : (own_f1 q1) = (own_f2 q1)
  ·
    obtain ⟨v6, _, ⟨T6, L6, k6, n6⟩, -, X6, ⟨Lc6, hQ6, l6, y6, z6⟩, st6⟩ := Jvm.LawKit.callS X3 hx (y := (⟨"com/example/wirefold/wirefold/message/InformationalResponse", "isInformational", "(J)Z"⟩ : MethodName)) hown (mvT hZ (hw _ (List.mem_of_getElem? (i := 1) rfl))) (mvT hZ (hw _ (List.mem_of_getElem? (i := 2) rfl))) (mvT hZ (hw _ (List.mem_of_getElem? (i := 3) rfl))) (mvT hZ (hw _ (List.mem_of_getElem? (i := 4) rfl))) (by decide) (backOf (W := 0) (own_rm1 l Z a0 hw [] ((90 : Int64) + ((p2 &&& (127 : Int32)).toInt64)) h0 n0 Z0) hZ (hw _ (List.mem_of_getElem? (i := 4) rfl)) (hw _ (List.mem_of_getElem? (i := 3) rfl)) (by decide) (by decide)) (g := (mkF m 29 #[.val (.long q1), .second, .val (.int p2), .val (.long ((90 : Int64) + ((p2 &&& (127 : Int32)).toInt64))), .second, .val (.int (1 : Int32)), .unset] [(.long ((90 : Int64) + ((p2 &&& (127 : Int32)).toInt64)))])) rfl (by rw [hml]; rfl) (argsL := [(.long ((90 : Int64) + ((p2 &&& (127 : Int32)).toInt64)))]) (rest := []) (lenOf own_pd24 rfl) rfl (by show 2 * 0 + _ ≤ _; exact Nat.le_of_eq rfl) (hb hby at_29) (fun _ _ => ⟨rfl, e3, (by decide : 0 + 0 ≤ _), (by decide : 0 + 0 ≤ _)⟩)
    dsimp only [Pt.U, Pt.locs, Pt.cells, Pt.slots] at X6 l6 y6 z6 st6 hQ6
    subst l6 y6 z6
    obtain ⟨rfl, N6q, e6⟩ := hQ6
    have N7 := Fr.app N4 N6q
    obtain ⟨v8, _, ⟨T8, L8, k8, n8⟩, -, X8, ⟨Lc8, hQ8, l8, y8, z8⟩, st8⟩ := Jvm.LawKit.callS X6 hx (y := (⟨"com/example/wirefold/wirefold/message/InformationalResponseIsInformationalPinLaw", "oneHundredClass", "(J)Z"⟩ : MethodName)) hown (mvT hZ (hw _ (List.mem_of_getElem? (i := 6) rfl))) (mvT hZ (hw _ (List.mem_of_getElem? (i := 7) rfl))) (mvT hZ (hw _ (List.mem_of_getElem? (i := 8) rfl))) (mvT hZ (hw _ (List.mem_of_getElem? (i := 9) rfl))) (by decide) (backOf (W := 1) (own_rm2 l Z a0 hw [] ((90 : Int64) + ((p2 &&& (127 : Int32)).toInt64)) h0 n0 Z0) hZ (hw _ (List.mem_of_getElem? (i := 9) rfl)) (hw _ (List.mem_of_getElem? (i := 8) rfl)) (by decide) (by decide)) (g := (mkF m 33 #[.val (.long q1), .second, .val (.int p2), .val (.long ((90 : Int64) + ((p2 &&& (127 : Int32)).toInt64))), .second, .val (.int (1 : Int32)), .unset] [(.long ((90 : Int64) + ((p2 &&& (127 : Int32)).toInt64))), (.int (own_f1 ((90 : Int64) + ((p2 &&& (127 : Int32)).toInt64))))])) rfl (by rw [hml]; rfl) (argsL := [(.long ((90 : Int64) + ((p2 &&& (127 : Int32)).toInt64)))]) (rest := [(.int (own_f1 ((90 : Int64) + ((p2 &&& (127 : Int32)).toInt64))))]) (lenOf own_pd24 rfl) rfl (by show 2 * 0 + _ ≤ _; exact Nat.le_of_eq rfl) (hb hby at_33) (fun _ _ => ⟨rfl, e6, (by decide : 0 + 0 ≤ _), (by decide : 0 + 0 ≤ _)⟩)
    dsimp only [Pt.U, Pt.locs, Pt.cells, Pt.slots] at X8 l8 y8 z8 st8 hQ8
    subst l8 y8 z8
    obtain ⟨rfl, N8q, e8⟩ := hQ8
    have N9 := Fr.app N7 N8q
    have k10 : ∀ t, Steps p.tables e below (T8.setTop (mkF m 36 #[.val (.long q1), .second, .val (.int p2), .val (.long ((90 : Int64) + ((p2 &&& (127 : Int32)).toInt64))), .second, .val (.int (1 : Int32)), .unset] [(.int (own_f2 ((90 : Int64) + ((p2 &&& (127 : Int32)).toInt64)))), (.int (own_f1 ((90 : Int64) + ((p2 &&& (127 : Int32)).toInt64))))])) t → Steps p.tables e below (s₁.setTop (entryFrame m #[(.long q1), (.int p2)] maxLocals)) t := by
      intro t kt
      refine k5 t ?_
      show Steps p.tables e below (T3.setTop (mkF m 18 #[.val (.long q1), .second, .val (.int p2), .val (.long ((90 : Int64) + ((p2 &&& (127 : Int32)).toInt64))), .second, .unset, .unset] [(.int (own_f2 q1)), (.int (own_f1 q1))])) _
      refine XS.icmpNo X3.here hx rfl (hb hby at_18) rfl (teq hc1).2 ?_
      show Steps p.tables e below (T3.setTop (mkF m 21 #[.val (.long q1), .second, .val (.int p2), .val (.long ((90 : Int64) + ((p2 &&& (127 : Int32)).toInt64))), .second, .unset, .unset] [])) _
      refine XS.iconst X3.here hx rfl (hb hby at_21) ?_
      show Steps p.tables e below (T3.setTop (mkF m 22 #[.val (.long q1), .second, .val (.int p2), .val (.long ((90 : Int64) + ((p2 &&& (127 : Int32)).toInt64))), .second, .unset, .unset] [(.int (1 : Int32))])) _
      refine XS.goto X3.here hx rfl (pc0 := 22) (pc' := 26) rfl (hb hby at_22) (by decide) (by decide) ?_
      show Steps p.tables e below (T3.setTop (mkF m 26 #[.val (.long q1), .second, .val (.int p2), .val (.long ((90 : Int64) + ((p2 &&& (127 : Int32)).toInt64))), .second, .unset, .unset] [(.int (1 : Int32))])) _
      refine XS.istore X3.here hx rfl (hb hby at_26) rfl (l' := #[.val (.long q1), .second, .val (.int p2), .val (.long ((90 : Int64) + ((p2 &&& (127 : Int32)).toInt64))), .second, .val (.int (1 : Int32)), .unset]) rfl ?_
      show Steps p.tables e below (T3.setTop (mkF m 28 #[.val (.long q1), .second, .val (.int p2), .val (.long ((90 : Int64) + ((p2 &&& (127 : Int32)).toInt64))), .second, .val (.int (1 : Int32)), .unset] [])) _
      refine XS.lloadN X3.here hx rfl (hb hby at_28) rfl ?_
      show Steps p.tables e below (T3.setTop (mkF m 29 #[.val (.long q1), .second, .val (.int p2), .val (.long ((90 : Int64) + ((p2 &&& (127 : Int32)).toInt64))), .second, .val (.int (1 : Int32)), .unset] [(.long ((90 : Int64) + ((p2 &&& (127 : Int32)).toInt64)))])) _
      refine st6 _ ?_
      show Steps p.tables e below (T6.setTop (mkF m 32 #[.val (.long q1), .second, .val (.int p2), .val (.long ((90 : Int64) + ((p2 &&& (127 : Int32)).toInt64))), .second, .val (.int (1 : Int32)), .unset] [(.int (own_f1 ((90 : Int64) + ((p2 &&& (127 : Int32)).toInt64))))])) _
      refine XS.lloadN X6.here hx rfl (hb hby at_32) rfl ?_
      show Steps p.tables e below (T6.setTop (mkF m 33 #[.val (.long q1), .second, .val (.int p2), .val (.long ((90 : Int64) + ((p2 &&& (127 : Int32)).toInt64))), .second, .val (.int (1 : Int32)), .unset] [(.long ((90 : Int64) + ((p2 &&& (127 : Int32)).toInt64))), (.int (own_f1 ((90 : Int64) + ((p2 &&& (127 : Int32)).toInt64))))])) _
      refine st8 _ ?_
      exact kt
    by_cases hc2 : (own_f1 ((90 : Int64) + ((p2 &&& (127 : Int32)).toInt64))) = (own_f2 ((90 : Int64) + ((p2 &&& (127 : Int32)).toInt64)))
    ·
      obtain ⟨fs, hr, hrun, hended, hW, hsame⟩ := X8.leave (v := some (.int (1 : Int32))) (fun h => by rw [Bd.returns] at h; cases h)
      refine ⟨_, _, k10 _ ?_, hrun, hended, _, _, rfl, ?_, ⟨_, rfl⟩, hW, hsame.mono (by decide) (by decide)⟩
      · show Steps p.tables e below (T8.setTop (mkF m 36 #[.val (.long q1), .second, .val (.int p2), .val (.long ((90 : Int64) + ((p2 &&& (127 : Int32)).toInt64))), .second, .val (.int (1 : Int32)), .unset] [(.int (own_f2 ((90 : Int64) + ((p2 &&& (127 : Int32)).toInt64)))), (.int (own_f1 ((90 : Int64) + ((p2 &&& (127 : Int32)).toInt64))))])) _
        refine XS.icmpNo X8.here hx rfl (hb hby at_36) rfl (teq hc2).2 ?_
        show Steps p.tables e below (T8.setTop (mkF m 39 #[.val (.long q1), .second, .val (.int p2), .val (.long ((90 : Int64) + ((p2 &&& (127 : Int32)).toInt64))), .second, .val (.int (1 : Int32)), .unset] [])) _
        refine XS.iconst X8.here hx rfl (hb hby at_39) ?_
        show Steps p.tables e below (T8.setTop (mkF m 40 #[.val (.long q1), .second, .val (.int p2), .val (.long ((90 : Int64) + ((p2 &&& (127 : Int32)).toInt64))), .second, .val (.int (1 : Int32)), .unset] [(.int (1 : Int32))])) _
        refine XS.goto X8.here hx rfl (pc0 := 40) (pc' := 44) rfl (hb hby at_40) (by decide) (by decide) ?_
        show Steps p.tables e below (T8.setTop (mkF m 44 #[.val (.long q1), .second, .val (.int p2), .val (.long ((90 : Int64) + ((p2 &&& (127 : Int32)).toInt64))), .second, .val (.int (1 : Int32)), .unset] [(.int (1 : Int32))])) _
        refine XS.istore X8.here hx rfl (hb hby at_44) rfl (l' := #[.val (.long q1), .second, .val (.int p2), .val (.long ((90 : Int64) + ((p2 &&& (127 : Int32)).toInt64))), .second, .val (.int (1 : Int32)), .val (.int (1 : Int32))]) rfl ?_
        show Steps p.tables e below (T8.setTop (mkF m 46 #[.val (.long q1), .second, .val (.int p2), .val (.long ((90 : Int64) + ((p2 &&& (127 : Int32)).toInt64))), .second, .val (.int (1 : Int32)), .val (.int (1 : Int32))] [])) _
        refine XS.iload X8.here hx rfl (hb hby at_46) rfl ?_
        show Steps p.tables e below (T8.setTop (mkF m 48 #[.val (.long q1), .second, .val (.int p2), .val (.long ((90 : Int64) + ((p2 &&& (127 : Int32)).toInt64))), .second, .val (.int (1 : Int32)), .val (.int (1 : Int32))] [(.int (1 : Int32))])) _
        refine XS.ifNo X8.here hx rfl (hb hby at_48) rfl ((if0 _ _).trans (feq (by decide : ¬ ((1 : Int32) = (0 : Int32)))).1) ?_
        show Steps p.tables e below (T8.setTop (mkF m 51 #[.val (.long q1), .second, .val (.int p2), .val (.long ((90 : Int64) + ((p2 &&& (127 : Int32)).toInt64))), .second, .val (.int (1 : Int32)), .val (.int (1 : Int32))] [])) _
        refine XS.iload X8.here hx rfl (hb hby at_51) rfl ?_
        show Steps p.tables e below (T8.setTop (mkF m 53 #[.val (.long q1), .second, .val (.int p2), .val (.long ((90 : Int64) + ((p2 &&& (127 : Int32)).toInt64))), .second, .val (.int (1 : Int32)), .val (.int (1 : Int32))] [(.int (1 : Int32))])) _
        refine XS.ifNo X8.here hx rfl (hb hby at_53) rfl ((if0 _ _).trans (feq (by decide : ¬ ((1 : Int32) = (0 : Int32)))).1) ?_
        show Steps p.tables e below (T8.setTop (mkF m 56 #[.val (.long q1), .second, .val (.int p2), .val (.long ((90 : Int64) + ((p2 &&& (127 : Int32)).toInt64))), .second, .val (.int (1 : Int32)), .val (.int (1 : Int32))] [])) _
        refine XS.iconst X8.here hx rfl (hb hby at_56) ?_
        show Steps p.tables e below (T8.setTop (mkF m 57 #[.val (.long q1), .second, .val (.int p2), .val (.long ((90 : Int64) + ((p2 &&& (127 : Int32)).toInt64))), .second, .val (.int (1 : Int32)), .val (.int (1 : Int32))] [(.int (1 : Int32))])) _
        refine XS.goto X8.here hx rfl (pc0 := 57) (pc' := 61) rfl (hb hby at_57) (by decide) (by decide) ?_
        show Steps p.tables e below (T8.setTop (mkF m 61 #[.val (.long q1), .second, .val (.int p2), .val (.long ((90 : Int64) + ((p2 &&& (127 : Int32)).toInt64))), .second, .val (.int (1 : Int32)), .val (.int (1 : Int32))] [(.int (1 : Int32))])) _
        exact retN X8 hx (t := .boolean) Bd.returns (by simp) (hb hby at_61) hr
      · show own_Q0 Z q1 p2 h0 n0 _ T8.heap _
        rw [e8]
        exact ⟨(by rw [own_f0, if_pos hc1, if_pos hc2]), N9⟩
    ·
      obtain ⟨fs, hr, hrun, hended, hW, hsame⟩ := X8.leave (v := some (.int (0 : Int32))) (fun h => by rw [Bd.returns] at h; cases h)
      refine ⟨_, _, k10 _ ?_, hrun, hended, _, _, rfl, ?_, ⟨_, rfl⟩, hW, hsame.mono (by decide) (by decide)⟩
      · show Steps p.tables e below (T8.setTop (mkF m 36 #[.val (.long q1), .second, .val (.int p2), .val (.long ((90 : Int64) + ((p2 &&& (127 : Int32)).toInt64))), .second, .val (.int (1 : Int32)), .unset] [(.int (own_f2 ((90 : Int64) + ((p2 &&& (127 : Int32)).toInt64)))), (.int (own_f1 ((90 : Int64) + ((p2 &&& (127 : Int32)).toInt64))))])) _
        refine XS.icmpYes X8.here hx rfl (pc0 := 36) (pc' := 43) rfl (hb hby at_36) rfl (feq hc2).2 (by decide) (by decide) ?_
        show Steps p.tables e below (T8.setTop (mkF m 43 #[.val (.long q1), .second, .val (.int p2), .val (.long ((90 : Int64) + ((p2 &&& (127 : Int32)).toInt64))), .second, .val (.int (1 : Int32)), .unset] [])) _
        refine XS.iconst X8.here hx rfl (hb hby at_43) ?_
        show Steps p.tables e below (T8.setTop (mkF m 44 #[.val (.long q1), .second, .val (.int p2), .val (.long ((90 : Int64) + ((p2 &&& (127 : Int32)).toInt64))), .second, .val (.int (1 : Int32)), .unset] [(.int (0 : Int32))])) _
        refine XS.istore X8.here hx rfl (hb hby at_44) rfl (l' := #[.val (.long q1), .second, .val (.int p2), .val (.long ((90 : Int64) + ((p2 &&& (127 : Int32)).toInt64))), .second, .val (.int (1 : Int32)), .val (.int (0 : Int32))]) rfl ?_
        show Steps p.tables e below (T8.setTop (mkF m 46 #[.val (.long q1), .second, .val (.int p2), .val (.long ((90 : Int64) + ((p2 &&& (127 : Int32)).toInt64))), .second, .val (.int (1 : Int32)), .val (.int (0 : Int32))] [])) _
        refine XS.iload X8.here hx rfl (hb hby at_46) rfl ?_
        show Steps p.tables e below (T8.setTop (mkF m 48 #[.val (.long q1), .second, .val (.int p2), .val (.long ((90 : Int64) + ((p2 &&& (127 : Int32)).toInt64))), .second, .val (.int (1 : Int32)), .val (.int (0 : Int32))] [(.int (1 : Int32))])) _
        refine XS.ifNo X8.here hx rfl (hb hby at_48) rfl ((if0 _ _).trans (feq (by decide : ¬ ((1 : Int32) = (0 : Int32)))).1) ?_
        show Steps p.tables e below (T8.setTop (mkF m 51 #[.val (.long q1), .second, .val (.int p2), .val (.long ((90 : Int64) + ((p2 &&& (127 : Int32)).toInt64))), .second, .val (.int (1 : Int32)), .val (.int (0 : Int32))] [])) _
        refine XS.iload X8.here hx rfl (hb hby at_51) rfl ?_
        show Steps p.tables e below (T8.setTop (mkF m 53 #[.val (.long q1), .second, .val (.int p2), .val (.long ((90 : Int64) + ((p2 &&& (127 : Int32)).toInt64))), .second, .val (.int (1 : Int32)), .val (.int (0 : Int32))] [(.int (0 : Int32))])) _
        refine XS.ifYes X8.here hx rfl (pc0 := 53) (pc' := 60) rfl (hb hby at_53) rfl ((if0 _ _).trans (teq (by decide : (0 : Int32) = (0 : Int32))).1) (by decide) (by decide) ?_
        show Steps p.tables e below (T8.setTop (mkF m 60 #[.val (.long q1), .second, .val (.int p2), .val (.long ((90 : Int64) + ((p2 &&& (127 : Int32)).toInt64))), .second, .val (.int (1 : Int32)), .val (.int (0 : Int32))] [])) _
        refine XS.iconst X8.here hx rfl (hb hby at_60) ?_
        show Steps p.tables e below (T8.setTop (mkF m 61 #[.val (.long q1), .second, .val (.int p2), .val (.long ((90 : Int64) + ((p2 &&& (127 : Int32)).toInt64))), .second, .val (.int (1 : Int32)), .val (.int (0 : Int32))] [(.int (0 : Int32))])) _
        exact retN X8 hx (t := .boolean) Bd.returns (by simp) (hb hby at_61) hr
      · show own_Q0 Z q1 p2 h0 n0 _ T8.heap _
        rw [e8]
        exact ⟨(by rw [own_f0, if_pos hc1, if_neg hc2]), N9⟩
  ·
    obtain ⟨v11, _, ⟨T11, L11, k11, n11⟩, -, X11, ⟨Lc11, hQ11, l11, y11, z11⟩, st11⟩ := Jvm.LawKit.callS X3 hx (y := (⟨"com/example/wirefold/wirefold/message/InformationalResponse", "isInformational", "(J)Z"⟩ : MethodName)) hown (mvT hZ (hw _ (List.mem_of_getElem? (i := 1) rfl))) (mvT hZ (hw _ (List.mem_of_getElem? (i := 2) rfl))) (mvT hZ (hw _ (List.mem_of_getElem? (i := 3) rfl))) (mvT hZ (hw _ (List.mem_of_getElem? (i := 4) rfl))) (by decide) (backOf (W := 0) (own_rm1 l Z a0 hw [] ((90 : Int64) + ((p2 &&& (127 : Int32)).toInt64)) h0 n0 Z0) hZ (hw _ (List.mem_of_getElem? (i := 4) rfl)) (hw _ (List.mem_of_getElem? (i := 3) rfl)) (by decide) (by decide)) (g := (mkF m 29 #[.val (.long q1), .second, .val (.int p2), .val (.long ((90 : Int64) + ((p2 &&& (127 : Int32)).toInt64))), .second, .val (.int (0 : Int32)), .unset] [(.long ((90 : Int64) + ((p2 &&& (127 : Int32)).toInt64)))])) rfl (by rw [hml]; rfl) (argsL := [(.long ((90 : Int64) + ((p2 &&& (127 : Int32)).toInt64)))]) (rest := []) (lenOf own_pd24 rfl) rfl (by show 2 * 0 + _ ≤ _; exact Nat.le_of_eq rfl) (hb hby at_29) (fun _ _ => ⟨rfl, e3, (by decide : 0 + 0 ≤ _), (by decide : 0 + 0 ≤ _)⟩)
    dsimp only [Pt.U, Pt.locs, Pt.cells, Pt.slots] at X11 l11 y11 z11 st11 hQ11
    subst l11 y11 z11
    obtain ⟨rfl, N11q, e11⟩ := hQ11
    have N12 := Fr.app N4 N11q
    obtain ⟨v13, _, ⟨T13, L13, k13, n13⟩, -, X13, ⟨Lc13, hQ13, l13, y13, z13⟩, st13⟩ := Jvm.LawKit.callS X11 hx (y := (⟨"com/example/wirefold/wirefold/message/InformationalResponseIsInformationalPinLaw", "oneHundredClass", "(J)Z"⟩ : MethodName)) hown (mvT hZ (hw _ (List.mem_of_getElem? (i := 6) rfl))) (mvT hZ (hw _ (List.mem_of_getElem? (i := 7) rfl))) (mvT hZ (hw _ (List.mem_of_getElem? (i := 8) rfl))) (mvT hZ (hw _ (List.mem_of_getElem? (i := 9) rfl))) (by decide) (backOf (W := 1) (own_rm2 l Z a0 hw [] ((90 : Int64) + ((p2 &&& (127 : Int32)).toInt64)) h0 n0 Z0) hZ (hw _ (List.mem_of_getElem? (i := 9) rfl)) (hw _ (List.mem_of_getElem? (i := 8) rfl)) (by decide) (by decide)) (g := (mkF m 33 #[.val (.long q1), .second, .val (.int p2), .val (.long ((90 : Int64) + ((p2 &&& (127 : Int32)).toInt64))), .second, .val (.int (0 : Int32)), .unset] [(.long ((90 : Int64) + ((p2 &&& (127 : Int32)).toInt64))), (.int (own_f1 ((90 : Int64) + ((p2 &&& (127 : Int32)).toInt64))))])) rfl (by rw [hml]; rfl) (argsL := [(.long ((90 : Int64) + ((p2 &&& (127 : Int32)).toInt64)))]) (rest := [(.int (own_f1 ((90 : Int64) + ((p2 &&& (127 : Int32)).toInt64))))]) (lenOf own_pd24 rfl) rfl (by show 2 * 0 + _ ≤ _; exact Nat.le_of_eq rfl) (hb hby at_33) (fun _ _ => ⟨rfl, e11, (by decide : 0 + 0 ≤ _), (by decide : 0 + 0 ≤ _)⟩)
    dsimp only [Pt.U, Pt.locs, Pt.cells, Pt.slots] at X13 l13 y13 z13 st13 hQ13
    subst l13 y13 z13
    obtain ⟨rfl, N13q, e13⟩ := hQ13
    have N14 := Fr.app N12 N13q
    have k15 : ∀ t, Steps p.tables e below (T13.setTop (mkF m 36 #[.val (.long q1), .second, .val (.int p2), .val (.long ((90 : Int64) + ((p2 &&& (127 : Int32)).toInt64))), .second, .val (.int (0 : Int32)), .unset] [(.int (own_f2 ((90 : Int64) + ((p2 &&& (127 : Int32)).toInt64)))), (.int (own_f1 ((90 : Int64) + ((p2 &&& (127 : Int32)).toInt64))))])) t → Steps p.tables e below (s₁.setTop (entryFrame m #[(.long q1), (.int p2)] maxLocals)) t := by
      intro t kt
      refine k5 t ?_
      show Steps p.tables e below (T3.setTop (mkF m 18 #[.val (.long q1), .second, .val (.int p2), .val (.long ((90 : Int64) + ((p2 &&& (127 : Int32)).toInt64))), .second, .unset, .unset] [(.int (own_f2 q1)), (.int (own_f1 q1))])) _
      refine XS.icmpYes X3.here hx rfl (pc0 := 18) (pc' := 25) rfl (hb hby at_18) rfl (feq hc1).2 (by decide) (by decide) ?_
      show Steps p.tables e below (T3.setTop (mkF m 25 #[.val (.long q1), .second, .val (.int p2), .val (.long ((90 : Int64) + ((p2 &&& (127 : Int32)).toInt64))), .second, .unset, .unset] [])) _
      refine XS.iconst X3.here hx rfl (hb hby at_25) ?_
      show Steps p.tables e below (T3.setTop (mkF m 26 #[.val (.long q1), .second, .val (.int p2), .val (.long ((90 : Int64) + ((p2 &&& (127 : Int32)).toInt64))), .second, .unset, .unset] [(.int (0 : Int32))])) _
      refine XS.istore X3.here hx rfl (hb hby at_26) rfl (l' := #[.val (.long q1), .second, .val (.int p2), .val (.long ((90 : Int64) + ((p2 &&& (127 : Int32)).toInt64))), .second, .val (.int (0 : Int32)), .unset]) rfl ?_
      show Steps p.tables e below (T3.setTop (mkF m 28 #[.val (.long q1), .second, .val (.int p2), .val (.long ((90 : Int64) + ((p2 &&& (127 : Int32)).toInt64))), .second, .val (.int (0 : Int32)), .unset] [])) _
      refine XS.lloadN X3.here hx rfl (hb hby at_28) rfl ?_
      show Steps p.tables e below (T3.setTop (mkF m 29 #[.val (.long q1), .second, .val (.int p2), .val (.long ((90 : Int64) + ((p2 &&& (127 : Int32)).toInt64))), .second, .val (.int (0 : Int32)), .unset] [(.long ((90 : Int64) + ((p2 &&& (127 : Int32)).toInt64)))])) _
      refine st11 _ ?_
      show Steps p.tables e below (T11.setTop (mkF m 32 #[.val (.long q1), .second, .val (.int p2), .val (.long ((90 : Int64) + ((p2 &&& (127 : Int32)).toInt64))), .second, .val (.int (0 : Int32)), .unset] [(.int (own_f1 ((90 : Int64) + ((p2 &&& (127 : Int32)).toInt64))))])) _
      refine XS.lloadN X11.here hx rfl (hb hby at_32) rfl ?_
      show Steps p.tables e below (T11.setTop (mkF m 33 #[.val (.long q1), .second, .val (.int p2), .val (.long ((90 : Int64) + ((p2 &&& (127 : Int32)).toInt64))), .second, .val (.int (0 : Int32)), .unset] [(.long ((90 : Int64) + ((p2 &&& (127 : Int32)).toInt64))), (.int (own_f1 ((90 : Int64) + ((p2 &&& (127 : Int32)).toInt64))))])) _
      refine st13 _ ?_
      exact kt
    by_cases hc3 : (own_f1 ((90 : Int64) + ((p2 &&& (127 : Int32)).toInt64))) = (own_f2 ((90 : Int64) + ((p2 &&& (127 : Int32)).toInt64)))
    ·
      obtain ⟨fs, hr, hrun, hended, hW, hsame⟩ := X13.leave (v := some (.int (0 : Int32))) (fun h => by rw [Bd.returns] at h; cases h)
      refine ⟨_, _, k15 _ ?_, hrun, hended, _, _, rfl, ?_, ⟨_, rfl⟩, hW, hsame.mono (by decide) (by decide)⟩
      · show Steps p.tables e below (T13.setTop (mkF m 36 #[.val (.long q1), .second, .val (.int p2), .val (.long ((90 : Int64) + ((p2 &&& (127 : Int32)).toInt64))), .second, .val (.int (0 : Int32)), .unset] [(.int (own_f2 ((90 : Int64) + ((p2 &&& (127 : Int32)).toInt64)))), (.int (own_f1 ((90 : Int64) + ((p2 &&& (127 : Int32)).toInt64))))])) _
        refine XS.icmpNo X13.here hx rfl (hb hby at_36) rfl (teq hc3).2 ?_
        show Steps p.tables e below (T13.setTop (mkF m 39 #[.val (.long q1), .second, .val (.int p2), .val (.long ((90 : Int64) + ((p2 &&& (127 : Int32)).toInt64))), .second, .val (.int (0 : Int32)), .unset] [])) _
        refine XS.iconst X13.here hx rfl (hb hby at_39) ?_
        show Steps p.tables e below (T13.setTop (mkF m 40 #[.val (.long q1), .second, .val (.int p2), .val (.long ((90 : Int64) + ((p2 &&& (127 : Int32)).toInt64))), .second, .val (.int (0 : Int32)), .unset] [(.int (1 : Int32))])) _
        refine XS.goto X13.here hx rfl (pc0 := 40) (pc' := 44) rfl (hb hby at_40) (by decide) (by decide) ?_
        show Steps p.tables e below (T13.setTop (mkF m 44 #[.val (.long q1), .second, .val (.int p2), .val (.long ((90 : Int64) + ((p2 &&& (127 : Int32)).toInt64))), .second, .val (.int (0 : Int32)), .unset] [(.int (1 : Int32))])) _
        refine XS.istore X13.here hx rfl (hb hby at_44) rfl (l' := #[.val (.long q1), .second, .val (.int p2), .val (.long ((90 : Int64) + ((p2 &&& (127 : Int32)).toInt64))), .second, .val (.int (0 : Int32)), .val (.int (1 : Int32))]) rfl ?_
        show Steps p.tables e below (T13.setTop (mkF m 46 #[.val (.long q1), .second, .val (.int p2), .val (.long ((90 : Int64) + ((p2 &&& (127 : Int32)).toInt64))), .second, .val (.int (0 : Int32)), .val (.int (1 : Int32))] [])) _
        refine XS.iload X13.here hx rfl (hb hby at_46) rfl ?_
        show Steps p.tables e below (T13.setTop (mkF m 48 #[.val (.long q1), .second, .val (.int p2), .val (.long ((90 : Int64) + ((p2 &&& (127 : Int32)).toInt64))), .second, .val (.int (0 : Int32)), .val (.int (1 : Int32))] [(.int (0 : Int32))])) _
        refine XS.ifYes X13.here hx rfl (pc0 := 48) (pc' := 60) rfl (hb hby at_48) rfl ((if0 _ _).trans (teq (by decide : (0 : Int32) = (0 : Int32))).1) (by decide) (by decide) ?_
        show Steps p.tables e below (T13.setTop (mkF m 60 #[.val (.long q1), .second, .val (.int p2), .val (.long ((90 : Int64) + ((p2 &&& (127 : Int32)).toInt64))), .second, .val (.int (0 : Int32)), .val (.int (1 : Int32))] [])) _
        refine XS.iconst X13.here hx rfl (hb hby at_60) ?_
        show Steps p.tables e below (T13.setTop (mkF m 61 #[.val (.long q1), .second, .val (.int p2), .val (.long ((90 : Int64) + ((p2 &&& (127 : Int32)).toInt64))), .second, .val (.int (0 : Int32)), .val (.int (1 : Int32))] [(.int (0 : Int32))])) _
        exact retN X13 hx (t := .boolean) Bd.returns (by simp) (hb hby at_61) hr
      · show own_Q0 Z q1 p2 h0 n0 _ T13.heap _
        rw [e13]
        exact ⟨(by rw [own_f0, if_neg hc1, if_pos hc3]), N14⟩
    ·
      obtain ⟨fs, hr, hrun, hended, hW, hsame⟩ := X13.leave (v := some (.int (0 : Int32))) (fun h => by rw [Bd.returns] at h; cases h)
      refine ⟨_, _, k15 _ ?_, hrun, hended, _, _, rfl, ?_, ⟨_, rfl⟩, hW, hsame.mono (by decide) (by decide)⟩
      · show Steps p.tables e below (T13.setTop (mkF m 36 #[.val (.long q1), .second, .val (.int p2), .val (.long ((90 : Int64) + ((p2 &&& (127 : Int32)).toInt64))), .second, .val (.int (0 : Int32)), .unset] [(.int (own_f2 ((90 : Int64) + ((p2 &&& (127 : Int32)).toInt64)))), (.int (own_f1 ((90 : Int64) + ((p2 &&& (127 : Int32)).toInt64))))])) _
        refine XS.icmpYes X13.here hx rfl (pc0 := 36) (pc' := 43) rfl (hb hby at_36) rfl (feq hc3).2 (by decide) (by decide) ?_
        show Steps p.tables e below (T13.setTop (mkF m 43 #[.val (.long q1), .second, .val (.int p2), .val (.long ((90 : Int64) + ((p2 &&& (127 : Int32)).toInt64))), .second, .val (.int (0 : Int32)), .unset] [])) _
        refine XS.iconst X13.here hx rfl (hb hby at_43) ?_
        show Steps p.tables e below (T13.setTop (mkF m 44 #[.val (.long q1), .second, .val (.int p2), .val (.long ((90 : Int64) + ((p2 &&& (127 : Int32)).toInt64))), .second, .val (.int (0 : Int32)), .unset] [(.int (0 : Int32))])) _
        refine XS.istore X13.here hx rfl (hb hby at_44) rfl (l' := #[.val (.long q1), .second, .val (.int p2), .val (.long ((90 : Int64) + ((p2 &&& (127 : Int32)).toInt64))), .second, .val (.int (0 : Int32)), .val (.int (0 : Int32))]) rfl ?_
        show Steps p.tables e below (T13.setTop (mkF m 46 #[.val (.long q1), .second, .val (.int p2), .val (.long ((90 : Int64) + ((p2 &&& (127 : Int32)).toInt64))), .second, .val (.int (0 : Int32)), .val (.int (0 : Int32))] [])) _
        refine XS.iload X13.here hx rfl (hb hby at_46) rfl ?_
        show Steps p.tables e below (T13.setTop (mkF m 48 #[.val (.long q1), .second, .val (.int p2), .val (.long ((90 : Int64) + ((p2 &&& (127 : Int32)).toInt64))), .second, .val (.int (0 : Int32)), .val (.int (0 : Int32))] [(.int (0 : Int32))])) _
        refine XS.ifYes X13.here hx rfl (pc0 := 48) (pc' := 60) rfl (hb hby at_48) rfl ((if0 _ _).trans (teq (by decide : (0 : Int32) = (0 : Int32))).1) (by decide) (by decide) ?_
        show Steps p.tables e below (T13.setTop (mkF m 60 #[.val (.long q1), .second, .val (.int p2), .val (.long ((90 : Int64) + ((p2 &&& (127 : Int32)).toInt64))), .second, .val (.int (0 : Int32)), .val (.int (0 : Int32))] [])) _
        refine XS.iconst X13.here hx rfl (hb hby at_60) ?_
        show Steps p.tables e below (T13.setTop (mkF m 61 #[.val (.long q1), .second, .val (.int p2), .val (.long ((90 : Int64) + ((p2 &&& (127 : Int32)).toInt64))), .second, .val (.int (0 : Int32)), .val (.int (0 : Int32))] [(.int (0 : Int32))])) _
        exact retN X13 hx (t := .boolean) Bd.returns (by simp) (hb hby at_61) hr
      · show own_Q0 Z q1 p2 h0 n0 _ T13.heap _
        rw [e13]
        exact ⟨(by rw [own_f0, if_neg hc1, if_neg hc3]), N14⟩
theorem own_key (s : Int64) : own_f1 s = own_f2 s := by
  have h := c_ldiv s 100 100 (by decide) (by decide)
  unfold own_f1 own_f2
  simp only [lw_lt, lw_gt, lw_eq, Int64.lt_iff_toInt_lt, ← Int64.toInt_inj, show (100 : Int64).toInt = 100 from by decide, show (199 : Int64).toInt = 199 from by decide, show (1 : Int64).toInt = 1 from by decide]
  repeat' split
  all_goals first | rfl | omega
theorem own_law (q1 : Int64) (p2 : Int32) : own_f0 q1 p2 = 1 := by
  unfold own_f0
  rw [if_pos (own_key _), if_pos (own_key _)]
set_option maxRecDepth 65536 in
set_option maxHeartbeats 40000000 in
theorem comes_1 {Post : Tables → Env → Array Value → State → Outcome → State → Prop} (hpost : ∀ tb e args s v u, (limb_1_1.after args s (.returned v) u = true ∧ limb_1_2.after args s (.returned v) u = true ∧ True) → FrameEnd s (.returned v) u (Jvm.fieldLocs frame_1_writes args s ++ Jvm.arrayLocs frame_1_arrays args s ++ Jvm.staticLocs frame_1_statics s) 0 0 → Post tb e args s (.returned v) u) :
    ArmFor flags0 classFile x code maxLocals ret World_1 tables_1 room_1 Calls_1 rest_1 Pre_1 Post := by
  intro l hfl _ _ p e ha hc hk s m args below hf hA hF happ hP
  obtain ⟨hcalls, hrest, hpre⟩ := hP
  obtain ⟨-, -, -, hnamed, -, -, -, hat⟩ := (Spec.applies_iff hf).mp happ
  obtain ⟨hg, hn⟩ := and_e (Cond.before_iff.mp (show (Jvm.Cond.and given_1 narrow_1).before args s = true from hpre))
  obtain ⟨gg1, gg2⟩ := and_e hg
  obtain ⟨gg3, gg4⟩ := and_e gg2
  obtain ⟨w0, w1, rfl⟩ : ∃ w0 w1 : Value, args = #[w0, w1] := by
    have hs : args.size = 2 := by simpa [Cond.value, given_1] using gg1
    obtain ⟨L⟩ := args
    match L, hs with
    | [w0, w1], _ => exact ⟨w0, w1, rfl⟩
  have hw := fun d (hd : d ∈ tables_1) => atoms_spec (ws := Jvm.Cond.code x code maxLocals ret :: tables_1) hat d (List.mem_cons_of_mem _ hd)
  have hfit : Fit s := fun {y c} hc i hi => by
    obtain ⟨ha, rfl⟩ := Array.getElem?_eq_some_iff.mp hc
    have q := List.all_eq_true.mp ((Array.all_eq_true_iff_forall_mem.mp hF) _ (Array.getElem_mem ha)) i (List.mem_range.mpr hi)
    simpa [Array.getElem?_eq_getElem hi] using q
  obtain ⟨i0, ei0⟩ := isL_v gg3
  obtain rfl : w0 = (.long i0) := Option.some.inj ei0
  obtain ⟨i1, ei1⟩ := is_v gg4
  obtain rfl : w1 = (.int i1) := Option.some.inj ei1
  obtain ⟨n, o, h1, h2, h3, _, L, rfl, ⟨rfl, N⟩, hq⟩ := own_rm0 l s _ hw tables_1 i0 i1 s.heap s.heap.size (Nat.le_refl _) p e ha hc hk s m _ below hf ((Spec.applies_iff_loose hf).mp happ).1 ⟨rfl, State.Warmed39.refl s, rfl⟩ trivial
  refine ⟨n, _, h1, h2, h3, hpost _ _ _ _ _ _ ⟨Cond.after_iff.mpr rfl, Cond.after_iff.mpr (eq_i res_at (Term.int_eval (1)) (congrArg Value.int (own_law i0 i1))), trivial⟩ ⟨hq.1, hq.2.1, (hq.2.2.sift fun y hy => Or.inr (N y hy)).mono (by decide) (by decide)⟩⟩
theorem main_1_1 : Claimed_1_1 := comes_1 fun _ _ _ _ _ _ h hF => ⟨h.1, hF⟩
theorem main_1_2 : Claimed_1_2 := comes_1 fun _ _ _ _ _ _ h hF => ⟨h.2.1, hF⟩
end Jvm.Pilot.@@N@@
namespace Jvm.Pilot.@@N@@
open Jvm Jvm.ClassFile Sem Op Lib Jvm.Free Jvm.Stand Jvm.Pilot.@@N@@.Jvm.D
/-! MADE BY PROGRAM (witnessworld.py) out of the Statement's table words and the real class files: 9 classes; the members and pool entries that the words name. The judged class is class 1, her method 2. -/
namespace start1
open Jvm.ClassFile
def u (s : String) : CpInfo := .utf8 (stringToUtf16 s)
/-- a pool by its gaps: so many unusable entries, then the entry; so many at the end -/
def gap : Nat → List CpInfo → List CpInfo
  | 0, r => r
  | n + 1, r => .unusable :: gap n r
def poolList (es : List (Nat × CpInfo)) (last : Nat) : List CpInfo := es.foldr (fun e r => gap e.1 (e.2 :: r)) (gap last [])
def pool (es : List (Nat × CpInfo)) (last : Nat) : Array CpInfo := ⟨poolList es last⟩
def fileOf (pool : Array CpInfo) (this : Nat) (attrs : Array Attribute := #[]) (ms : Array MethodInfo := #[]) (fl : Nat := 33) (sup : Nat := 0) (ifs : Array Nat := #[]) (fds : Array FieldInfo := #[]) : ClassFile where
  minorVersion := 0
  majorVersion := 65
  constantPool := pool
  accessFlags := fl
  thisClass := this
  superClass := sup
  interfaces := ifs
  fields := fds
  methods := ms
  attributes := attrs
def plain (name : String) (sup : Option ClassId) : Class where
  name := name
  kind := .ordinary
  loader := none
  accessFlags := 33
  super := sup
  interfaces := #[]
  cf := none
  fields := #[]
  methods := #[]
  instanceTypes := #[]
  staticTypes := #[]
  resolved := #[]
  callSites := []
  init := .initialized
  statics := none
  mirror := none

def pool0 : Array CpInfo := pool [(5, u "<init>"), (0, u "()V"), (1, .class_ 10), (1, u "java/lang/Object")] 113

def k0m0 : Method := { name := "<init>", desc := "()V", sig := { parameters := [], returnType := none }, accessFlags := 1, code := none }
/-- java/lang/Object -/
def k0 : Class := { plain "java/lang/Object" none with
  accessFlags := 33
  interfaces := #[]
  cf := some (fileOf pool0 8 #[] #[{ accessFlags := 1, nameIndex := 5, descriptorIndex := 6, attributes := #[] }] 33 0 #[] #[])
  fields := #[]
  methods := #[k0m0]
  instanceTypes := #[]
  staticTypes := #[]
  resolved := Array.replicate 124 none
  statics := none }

def pool1 : Array CpInfo := pool [(2, .class_ 4), (1, u "java/lang/Object"), (0, u "<init>"), (0, u "()V"), (0, .long 100), (1, .long 90), (1, .methodref 12 13), (0, .class_ 14), (0, .nameAndType 15 16), (0, u "com/example/wirefold/wirefold/message/InformationalResponse"), (0, u "isInformational"), (0, u "(J)Z"), (0, .methodref 18 19), (0, .class_ 20), (0, .nameAndType 21 16), (0, u "com/example/wirefold/wirefold/message/InformationalResponseIsInformationalPinLaw"), (0, u "oneHundredClass"), (3, u "law"), (0, u "(JI)Z")] 2

def k1m0 : Method := { name := "<init>", desc := "()V", sig := { parameters := [], returnType := none }, accessFlags := 2, code := none }
def k1c1 : Code := { maxStack := 4, maxLocals := 2, code := method_2_code, exceptionTable := #[], attributes := #[] }
def k1m1 : Method := { name := "oneHundredClass", desc := "(J)Z", sig := { parameters := [.long], returnType := some .boolean }, accessFlags := 10, code := some k1c1 }
def k1c2 : Code := { maxStack := 4, maxLocals := 7, code := code, exceptionTable := #[], attributes := #[] }
def k1m2 : Method := { name := "law", desc := "(JI)Z", sig := { parameters := [.long, .int], returnType := some .boolean }, accessFlags := 9, code := some k1c2 }
/-- com/example/wirefold/wirefold/message/InformationalResponseIsInformationalPinLaw -/
def k1 : Class := { plain "com/example/wirefold/wirefold/message/InformationalResponseIsInformationalPinLaw" (some 0) with
  accessFlags := 49
  interfaces := #[]
  cf := some (fileOf pool1 18 #[] #[{ accessFlags := 2, nameIndex := 5, descriptorIndex := 6, attributes := #[] }, { accessFlags := 10, nameIndex := 21, descriptorIndex := 16, attributes := #[] }, { accessFlags := 9, nameIndex := 25, descriptorIndex := 26, attributes := #[] }] 49 2 #[] #[])
  fields := #[]
  methods := #[k1m0, k1m1, k1m2]
  instanceTypes := #[]
  staticTypes := #[]
  resolved := Array.replicate 29 none
  statics := none }

def pool2 : Array CpInfo := pool [(2, .class_ 4), (1, u "java/lang/Object"), (3, .class_ 10), (1, u "com/example/wirefold/wirefold/message/InformationalResponse"), (0, u "status"), (0, u "I"), (1, u "fields"), (16, u "Lcom/example/wirefold/wirefold/message/FieldSection;"), (0, .long 100), (1, .long 199), (24, u "LOWEST_STATUS"), (0, u "J"), (1, u "HIGHEST_STATUS"), (5, u "isInformational"), (0, u "(J)Z")] 25

def k2c0 : Code := { maxStack := 4, maxLocals := 2, code := prog_40_method_2_code, exceptionTable := #[], attributes := #[] }
def k2m0 : Method := { name := "isInformational", desc := "(J)Z", sig := { parameters := [.long], returnType := some .boolean }, accessFlags := 9, code := some k2c0 }
/-- com/example/wirefold/wirefold/message/InformationalResponse -/
def k2 : Class := { plain "com/example/wirefold/wirefold/message/InformationalResponse" (some 0) with
  accessFlags := 49
  interfaces := #[]
  cf := some (fileOf pool2 8 #[] #[{ accessFlags := 9, nameIndex := 68, descriptorIndex := 69, attributes := #[] }] 49 2 #[] #[{ accessFlags := 26, nameIndex := 59, descriptorIndex := 60, attributes := #[] }, { accessFlags := 26, nameIndex := 62, descriptorIndex := 60, attributes := #[] }, { accessFlags := 18, nameIndex := 11, descriptorIndex := 12, attributes := #[] }, { accessFlags := 18, nameIndex := 14, descriptorIndex := 31, attributes := #[] }])
  fields := #[{ name := "LOWEST_STATUS", type := .long, accessFlags := 26, slot := 0, constantValue := 0 }, { name := "HIGHEST_STATUS", type := .long, accessFlags := 26, slot := 1, constantValue := 0 }, { name := "status", type := .int, accessFlags := 18, slot := 0, constantValue := 0 }, { name := "fields", type := (.object "com/example/wirefold/wirefold/message/FieldSection"), accessFlags := 18, slot := 1, constantValue := 0 }]
  methods := #[k2m0]
  instanceTypes := #[.int, (.object "com/example/wirefold/wirefold/message/FieldSection")]
  staticTypes := #[.long, .long]
  resolved := Array.replicate 95 none
  statics := none }

def pool3 : Array CpInfo := pool [(1, u "java/lang/Cloneable"), (0, .class_ 1), (0, u "java/lang/Object"), (0, .class_ 3)] 3

/-- java/lang/Cloneable -/
def k3 : Class := { plain "java/lang/Cloneable" (some 0) with
  accessFlags := 1537
  interfaces := #[]
  cf := some (fileOf pool3 2 #[] #[] 1537 4 #[] #[])
  fields := #[]
  methods := #[]
  instanceTypes := #[]
  staticTypes := #[]
  resolved := Array.replicate 8 none
  statics := none }

def pool4 : Array CpInfo := pool [(1, u "java/io/Serializable"), (0, .class_ 1), (0, u "java/lang/Object"), (0, .class_ 3)] 3

/-- java/io/Serializable -/
def k4 : Class := { plain "java/io/Serializable" (some 0) with
  accessFlags := 1537
  interfaces := #[]
  cf := some (fileOf pool4 2 #[] #[] 1537 4 #[] #[])
  fields := #[]
  methods := #[]
  instanceTypes := #[]
  staticTypes := #[]
  resolved := Array.replicate 8 none
  statics := none }

/-- the primitive byte -/
def k5 : Class := { plain "byte" none with kind := .primitive 'B', accessFlags := 0x411 }
/-- [B -/
def k6 : Class := { plain "[B" (some 0) with kind := .array 5 .byte, interfaces := #[3, 4], accessFlags := 1041 }

/-- the primitive int -/
def k7 : Class := { plain "int" none with kind := .primitive 'I', accessFlags := 0x411 }
/-- [I -/
def k8 : Class := { plain "[I" (some 0) with kind := .array 7 .int, interfaces := #[3, 4], accessFlags := 1041 }

def heap : Heap := #[]
def classes : Array Class := #[k0, k1, k2, k3, k4, k5, k6, k7, k8]
def interned : List (Array UInt16 × Addr) := []
def slotsUsed : Nat := 0
def theMethod : MethodId := ⟨1, 2⟩
def args0 : Array Value := #[.long 150, .int 7]
def aboutOver (below : List Frame) : State where
  vm := { classes := classes, interned := interned.toArray }
  heap := heap
  slotsUsed := slotsUsed
  threads := #[{ frames := .invoking theMethod args0 :: below }]
def below0 : List Frame := [.native { method := ⟨0, 0⟩, args := #[] }]
def about1 : State := aboutOver below0
def p0 : Program := .bare "" "" ""
def e0 : Env := launch0.env 0 0 0
theorem w_frames : about1.frames = Frame.invoking theMethod args0 :: below0 := rfl
set_option maxRecDepth 65536 in
theorem w_args : argsFit about1.vm theMethod args0 = true := by decide +kernel
set_option maxRecDepth 65536 in
theorem w_heap : heapFits about1 = true := by decide +kernel
set_option maxRecDepth 65536 in
theorem w_runnable : about1.curStatus? = some .runnable := by decide +kernel
set_option maxRecDepth 65536 in
theorem w_alone : about1.alone = true := by decide +kernel
set_option maxRecDepth 65536 in
theorem w_named : about1.methodNamed? x = some theMethod := by decide +kernel
set_option maxRecDepth 65536 in
theorem w_hears : about1.hears theMethod below0 = true := by decide +kernel
set_option maxRecDepth 65536 in
theorem w_ripe : about1.ripe theMethod args0 below0 = true := by decide +kernel
theorem w_running : about1.status = .running := rfl
set_option maxRecDepth 65536 in
theorem w_room : about1.hasRoom e0.platform room_1 = true :=
  launch0.hasRoom_least _ room_1 (by decide +kernel) (by decide +kernel) (by decide +kernel) (by decide +kernel) (by decide +kernel) (by decide +kernel)
theorem allAtoms_all (ts : List Jvm.Cond) (a : Array Jvm.Value) (st : Jvm.State) : (allAtoms ts).before a st = ts.all (fun c => c.before a st) := by
  induction ts with
  | nil => rfl
  | cons c t ih =>
    show (Jvm.Cond.and c (allAtoms t)).before a st = _
    rw [Jvm.Cond.before_and, ih, List.all_cons]
def words1 : List Jvm.Cond := Jvm.Cond.code x code maxLocals ret :: tables_1
/-- a 'code' word, met by the world's own term for the bytes: nothing is compared byte by byte -/
theorem code_word {y : MethodName} {bytes : ByteArray} {mx : Nat} {rt : Option FieldType} {a : Array Value} {s : State} {m : MethodId} {meth : Method} {c : Code} (h1 : s.methodNamed? y = some m) (h2 : s.vm.method? m = some meth) (h3 : meth.code = some c) (h4 : c.code = bytes)
    (h5 : (c.maxLocals == mx && c.exceptionTable.isEmpty && decide (c.maxStack ≤ mostOperands) && decide (meth.sig.returnType = rt) && !meth.locks && decide (parseMethodDescriptor y.desc = some meth.sig)) = true) : (Jvm.Cond.code y bytes mx rt).before a s = true := by
  simp only [Bool.and_eq_true, beq_iff_eq, Bool.not_eq_true', decide_eq_true_eq] at h5
  obtain ⟨⟨⟨⟨⟨g1, g2⟩, g3⟩, g4⟩, g5⟩, g6⟩ := h5
  simp [Cond.before, Cond.holds, Cond.value, h1, h2, h3, h4, g1, g2, g3, g4, g5, g6]
def isCode : Jvm.Cond → Bool
  | .code _ _ _ _ => true
  | _ => false
theorem all_split {L : List Jvm.Cond} {P : Jvm.Cond → Bool} (h1 : L.all (fun c => isCode c || P c) = true) (h2 : ∀ c ∈ L.filter isCode, P c = true) : L.all P = true := by
  refine List.all_eq_true.mpr fun c hc => ?_
  have h := List.all_eq_true.mp h1 c hc
  rcases Bool.eq_false_or_eq_true (isCode c) with hi | hi
  · exact h2 c (List.mem_filter.mpr ⟨hc, hi⟩)
  · simpa [hi] using h
set_option maxRecDepth 65536 in
theorem w_c0 : (Jvm.Cond.code x code maxLocals ret).before args0 about1 = true := code_word (m := ⟨1, 2⟩) (meth := k1m2) (c := k1c2) (by decide +kernel) rfl rfl rfl (by decide +kernel)
set_option maxRecDepth 65536 in
theorem w_c1 : (Jvm.Cond.code ({ cls := "com/example/wirefold/wirefold/message/InformationalResponse", name := "isInformational", desc := "(J)Z" } : Jvm.MethodName) prog_40_method_2_code (2 : Nat) (Option.some Jvm.ClassFile.FieldType.boolean)).before args0 about1 = true := code_word (m := ⟨2, 0⟩) (meth := k2m0) (c := k2c0) (by decide +kernel) rfl rfl rfl (by decide +kernel)
set_option maxRecDepth 65536 in
theorem w_c2 : (Jvm.Cond.code ({ cls := "com/example/wirefold/wirefold/message/InformationalResponseIsInformationalPinLaw", name := "oneHundredClass", desc := "(J)Z" } : Jvm.MethodName) method_2_code (2 : Nat) (Option.some Jvm.ClassFile.FieldType.boolean)).before args0 about1 = true := code_word (m := ⟨1, 1⟩) (meth := k1m1) (c := k1c1) (by decide +kernel) rfl rfl rfl (by decide +kernel)
def codes1 : List Jvm.Cond := [Jvm.Cond.code x code maxLocals ret, Jvm.Cond.code ({ cls := "com/example/wirefold/wirefold/message/InformationalResponse", name := "isInformational", desc := "(J)Z" } : Jvm.MethodName) prog_40_method_2_code (2 : Nat) (Option.some Jvm.ClassFile.FieldType.boolean), Jvm.Cond.code ({ cls := "com/example/wirefold/wirefold/message/InformationalResponseIsInformationalPinLaw", name := "oneHundredClass", desc := "(J)Z" } : Jvm.MethodName) method_2_code (2 : Nat) (Option.some Jvm.ClassFile.FieldType.boolean)]
set_option maxRecDepth 65536 in
theorem codes_eq : words1.filter isCode = codes1 := rfl
theorem w_codes : ∀ c ∈ words1.filter isCode, c.before args0 about1 = true := by
  rw [codes_eq]
  intro c hc
  simp only [codes1, List.mem_cons, List.not_mem_nil, or_false] at hc
  rcases hc with rfl | rfl | rfl
  · exact w_c0
  · exact w_c1
  · exact w_c2
set_option maxRecDepth 65536 in
theorem w_t1 : words1.all (fun c => isCode c || c.before args0 about1) = true := by decide +kernel
theorem w_tables : (allAtoms (Jvm.Cond.code x code maxLocals ret :: tables_1)).before args0 about1 = true := by
  rw [allAtoms_all]
  show words1.all (fun c => c.before args0 about1) = true
  refine all_split ?_ w_codes
  rw [w_t1]
set_option maxRecDepth 65536 in
theorem w_case : (Jvm.Cond.and given_1 narrow_1).before args0 about1 = true := by decide +kernel
theorem w_applies : (headSpec (Jvm.Cond.code x code maxLocals ret :: tables_1) room_1).applies x e0.platform about1 = true :=
  (Spec.applies_iff w_frames).mpr ⟨w_running, w_runnable, w_alone, w_named, w_hears, w_ripe, w_room, w_tables⟩
theorem atStart : AtStart classFile x code maxLocals ret World_1 tables_1 room_1 Calls_1 rest_1 Pre_1 launch0 p0 e0 about1 theMethod args0 below0 :=
  ⟨lists_1, trivial, launch0.admits_env _ _ _, launch0.least_env, fairChoices_fair.cas, fairChoices_fair.clock, w_frames, w_args, w_heap, w_applies, trivial, trivial, w_case⟩
end start1
theorem witness_1 : WitnessClaimed_1 := ⟨start1.p0, start1.e0, start1.about1, start1.theMethod, start1.args0, start1.below0, start1.atStart⟩
end Jvm.Pilot.@@N@@
