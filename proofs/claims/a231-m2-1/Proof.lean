import JvmDerived
import JvmDerived.Pilot.@@N@@Statement
import JvmDerived.Pilot.@@N@@Code
set_option linter.unusedVariables false
set_option linter.unusedSimpArgs false
namespace Jvm.RoadKit
open Sem ClassFile Op Lib Jvm.Stand Jvm.Free Jvm.LawKit
section New
variable {p : Program} {l : Launch} {e : Env} {R : Room} {s : State} {m : MethodId} {args : Array Value} {below : List Frame} {meth : Method} {c : Code} {T : State} {locs : List Loc} {cells slots : Nat}
theorem retI (X : Stand p l e R s m args below meth c T locs cells slots) (hx : p.tables.exec = Jvm.exec) {pc : Nat} {Ls : Array Slot} {z : Int32} {rest : List Value} (hret : meth.sig.returnType = some .int) (hd : decode c.code pc = .ok (.ireturn, 1)) {fs : List Frame}
    (hl : ∀ (f : JFrame) (acts : List Action), f.method = m → f.locked = none → f.entered = [] → (doReturn e (T.setTop f) acts (some (.int z))).1 = T.setFrames fs) : Steps p.tables e below (T.setTop (mkF m pc Ls (.int z :: rest))) (T.setFrames fs) := by
  have hm' : T.vm.method? m = some meth := X.method'
  have hn : narrow .int (.int z) = .int z := rfl
  show Steps p.tables e below (T.setTop { method := m, pc := pc, locals := Ls, stack := _ :: rest, locked := none }) _
  jvm_step X.here [X.here.top, hx, hd, hm', hret, hn]
  first | (intro acts; rw [hl _ acts rfl rfl rfl]) | rw [hl _ _ rfl rfl rfl]
  exact Steps.refl _
end New
end Jvm.RoadKit
namespace Jvm.Pilot.@@N@@
open Jvm Jvm.ClassFile Sem Op Lib Jvm.Free Jvm.Stand Jvm.LawKit Jvm.RoadKit Bundle Jvm.Pilot.@@N@@.Jvm.D
theorem own_pn0 : plainName "com/example/nanshe/nanshe/model/LabelNames" = true := by first | (simp [plainName, overriddenIn]; done) | decide +kernel
theorem own_pd27 : parseMethodDescriptor "(C)Z" = some ⟨[.char], some .boolean⟩ := by decide +kernel
theorem own_pn41 : plainName "com/example/nanshe/nanshe/model/LabelNamesIsNameCharacterPinLaw" = true := by first | (simp [plainName, overriddenIn]; done) | decide +kernel
-- body 2
theorem own_d2_0 : decode prog_29_method_6_code 0 = .ok (.iload_n 0, 1) := by decide +kernel
theorem own_d2_1 : decode prog_29_method_6_code 1 = .ok (.bipush 65, 2) := by decide +kernel
theorem own_d2_3 : decode prog_29_method_6_code 3 = .ok (.if_icmp .lt 9, 3) := by decide +kernel
theorem own_d2_6 : decode prog_29_method_6_code 6 = .ok (.iload_n 0, 1) := by decide +kernel
theorem own_d2_7 : decode prog_29_method_6_code 7 = .ok (.bipush 90, 2) := by decide +kernel
theorem own_d2_9 : decode prog_29_method_6_code 9 = .ok (.if_icmp .le 15, 3) := by decide +kernel
theorem own_d2_12 : decode prog_29_method_6_code 12 = .ok (.iload_n 0, 1) := by decide +kernel
theorem own_d2_13 : decode prog_29_method_6_code 13 = .ok (.bipush 97, 2) := by decide +kernel
theorem own_d2_15 : decode prog_29_method_6_code 15 = .ok (.if_icmp .lt 13, 3) := by decide +kernel
theorem own_d2_18 : decode prog_29_method_6_code 18 = .ok (.iload_n 0, 1) := by decide +kernel
theorem own_d2_19 : decode prog_29_method_6_code 19 = .ok (.bipush 122, 2) := by decide +kernel
theorem own_d2_21 : decode prog_29_method_6_code 21 = .ok (.if_icmp .gt 7, 3) := by decide +kernel
theorem own_d2_24 : decode prog_29_method_6_code 24 = .ok (.iconst 1, 1) := by decide +kernel
theorem own_d2_25 : decode prog_29_method_6_code 25 = .ok (.goto 4, 3) := by decide +kernel
theorem own_d2_28 : decode prog_29_method_6_code 28 = .ok (.iconst 0, 1) := by decide +kernel
theorem own_d2_29 : decode prog_29_method_6_code 29 = .ok (.ireturn, 1) := by decide +kernel
theorem own_ef2 (m : MethodId) (x0 : Int32) : entryFrame m #[(.int x0)] 1 = mkF m 0 #[.val (.int x0)] [] := by first | (simp [entryFrame, mkF, argsToLocals, Value.category]; done) | rfl
def own_f2 (p1 : Int32) : Int32 := if p1 < (65 : Int32) then (if p1 < (97 : Int32) then (0 : Int32)
      else if (122 : Int32) < p1 then (0 : Int32)
        else (1 : Int32))
    else if (90 : Int32) < p1 then (if p1 < (97 : Int32) then (0 : Int32)
        else if (122 : Int32) < p1 then (0 : Int32)
          else (1 : Int32))
      else (1 : Int32)
def own_Q2 (Z : State) (p1 : Int32) (h0 : Heap) (n0 : Nat) (v : Option Value) (h : Heap) (L : List Loc) : Prop := v = some (.int (own_f2 p1)) ∧ Fr n0 L ∧ h = h0
set_option maxRecDepth 65536 in
set_option maxHeartbeats 40000000 in
theorem own_rm2 (l : Launch) (Z : State) (a0 : Array Value) (hw : ∀ d ∈ tables_1, d.before a0 Z = true) (ws : List Jvm.Cond) (p1 : Int32) (h0 : Heap) (n0 : Nat) (Z0 : n0 ≤ h0.size) :
    MetFree l (⟨"com/example/nanshe/nanshe/model/LabelNames", "isLetter", "(C)Z"⟩ : MethodName) (head1 (Jvm.Cond.code (⟨"com/example/nanshe/nanshe/model/LabelNames", "isLetter", "(C)Z"⟩ : MethodName) prog_29_method_6_code 1 (some .boolean) :: ws) ({ frames := 0, cells := 0, slots := 0, locals := 0 } : Room)) (fun a U => a = #[(.int p1)] ∧ Z.Warmed39 U.vm ∧ U.heap = h0) (fun _ _ _ _ _ => True) (fun _ U o U' => ∃ v L, o = .returned v ∧ own_Q2 Z p1 h0 n0 v U'.heap L ∧ FrameEnd U o U' L ({ frames := 0, cells := 0, slots := 0, locals := 0 } : Room).cells ({ frames := 0, cells := 0, slots := 0, locals := 0 } : Room).slots) := by
  refine MetFree.of_bodySF (plainFor_of_name own_pn0) hisR ?_
  intro p e s m args below meth c s₁ Bd hml0 hP hK
  obtain ⟨rfl, hZ, hh⟩ := hP
  have hx := Bd.exec
  have hby := Bd.bytes
  have hml : c.maxLocals = 1 := hml0
  have hown : s.vm.findClass "com/example/nanshe/nanshe/model/LabelNames" = some m.cls := findClass_of_methodNamed Bd.named
  have hnm := (name_of_methodNamed Bd.named Bd.method).1
  have X0 : Stand p l e ({ frames := 0, cells := 0, slots := 0, locals := 0 } : Room) s m #[(.int p1)] below meth c s₁ [] 0 0 := Stand.of_body Bd
  have e0 : s₁.heap = h0 := by rw [← hh, Bd.state]; rfl
  have N0 := Fr.nil n0
  have pre0 : ∀ t, Steps p.tables e below (s₁.setTop (mkF m 0 #[.val (.int p1)] [])) t → Steps p.tables e below (s₁.setTop (entryFrame m #[(.int p1)] 1)) t := fun t k => castTop (own_ef2 m p1) k
  have k1 : ∀ t, Steps p.tables e below (s₁.setTop (mkF m 3 #[.val (.int p1)] [(.int (65 : Int32)), (.int p1)])) t → Steps p.tables e below (s₁.setTop (entryFrame m #[(.int p1)] 1)) t := by
    intro t kt
    refine pre0 t ?_
    show Steps p.tables e below (s₁.setTop (mkF m 0 #[.val (.int p1)] [])) _
    refine XS.iloadN X0.here hx rfl (hb hby own_d2_0) rfl ?_
    show Steps p.tables e below (s₁.setTop (mkF m 1 #[.val (.int p1)] [(.int p1)])) _
    refine XS.bipush X0.here hx rfl (hb hby own_d2_1) ?_
    exact kt
  by_cases hc1 : p1 < (65 : Int32)
  ·
    have k2 : ∀ t, Steps p.tables e below (s₁.setTop (mkF m 15 #[.val (.int p1)] [(.int (97 : Int32)), (.int p1)])) t → Steps p.tables e below (s₁.setTop (entryFrame m #[(.int p1)] 1)) t := by
      intro t kt
      refine k1 t ?_
      show Steps p.tables e below (s₁.setTop (mkF m 3 #[.val (.int p1)] [(.int (65 : Int32)), (.int p1)])) _
      refine XS.icmpYes X0.here hx rfl (pc0 := 3) (pc' := 12) rfl (hb hby own_d2_3) rfl (tlt hc1).1 (by decide) (by decide) ?_
      show Steps p.tables e below (s₁.setTop (mkF m 12 #[.val (.int p1)] [])) _
      refine XS.iloadN X0.here hx rfl (hb hby own_d2_12) rfl ?_
      show Steps p.tables e below (s₁.setTop (mkF m 13 #[.val (.int p1)] [(.int p1)])) _
      refine XS.bipush X0.here hx rfl (hb hby own_d2_13) ?_
      exact kt
    by_cases hc2 : p1 < (97 : Int32)
    ·
      obtain ⟨fs, hr, hrun, hended, hW, hsame⟩ := X0.leave (v := some (.int (0 : Int32))) (fun h => by rw [Bd.returns] at h; cases h)
      refine ⟨_, _, k2 _ ?_, hrun, hended, _, _, rfl, ?_, ⟨_, rfl⟩, hW, hsame.mono (by decide) (by decide)⟩
      · show Steps p.tables e below (s₁.setTop (mkF m 15 #[.val (.int p1)] [(.int (97 : Int32)), (.int p1)])) _
        refine XS.icmpYes X0.here hx rfl (pc0 := 15) (pc' := 28) rfl (hb hby own_d2_15) rfl (tlt hc2).1 (by decide) (by decide) ?_
        show Steps p.tables e below (s₁.setTop (mkF m 28 #[.val (.int p1)] [])) _
        refine XS.iconst X0.here hx rfl (hb hby own_d2_28) ?_
        show Steps p.tables e below (s₁.setTop (mkF m 29 #[.val (.int p1)] [(.int (0 : Int32))])) _
        exact retN X0 hx (t := .boolean) Bd.returns (by simp) (hb hby own_d2_29) hr
      · show own_Q2 Z p1 h0 n0 _ s₁.heap _
        rw [e0]
        exact ⟨(by rw [own_f2, if_pos hc1, if_pos hc2]), N0, rfl⟩
    ·
      have k3 : ∀ t, Steps p.tables e below (s₁.setTop (mkF m 21 #[.val (.int p1)] [(.int (122 : Int32)), (.int p1)])) t → Steps p.tables e below (s₁.setTop (entryFrame m #[(.int p1)] 1)) t := by
        intro t kt
        refine k2 t ?_
        show Steps p.tables e below (s₁.setTop (mkF m 15 #[.val (.int p1)] [(.int (97 : Int32)), (.int p1)])) _
        refine XS.icmpNo X0.here hx rfl (hb hby own_d2_15) rfl (flt hc2).1 ?_
        show Steps p.tables e below (s₁.setTop (mkF m 18 #[.val (.int p1)] [])) _
        refine XS.iloadN X0.here hx rfl (hb hby own_d2_18) rfl ?_
        show Steps p.tables e below (s₁.setTop (mkF m 19 #[.val (.int p1)] [(.int p1)])) _
        refine XS.bipush X0.here hx rfl (hb hby own_d2_19) ?_
        exact kt
      by_cases hc3 : (122 : Int32) < p1
      ·
        obtain ⟨fs, hr, hrun, hended, hW, hsame⟩ := X0.leave (v := some (.int (0 : Int32))) (fun h => by rw [Bd.returns] at h; cases h)
        refine ⟨_, _, k3 _ ?_, hrun, hended, _, _, rfl, ?_, ⟨_, rfl⟩, hW, hsame.mono (by decide) (by decide)⟩
        · show Steps p.tables e below (s₁.setTop (mkF m 21 #[.val (.int p1)] [(.int (122 : Int32)), (.int p1)])) _
          refine XS.icmpYes X0.here hx rfl (pc0 := 21) (pc' := 28) rfl (hb hby own_d2_21) rfl (tlt hc3).2.2.1 (by decide) (by decide) ?_
          show Steps p.tables e below (s₁.setTop (mkF m 28 #[.val (.int p1)] [])) _
          refine XS.iconst X0.here hx rfl (hb hby own_d2_28) ?_
          show Steps p.tables e below (s₁.setTop (mkF m 29 #[.val (.int p1)] [(.int (0 : Int32))])) _
          exact retN X0 hx (t := .boolean) Bd.returns (by simp) (hb hby own_d2_29) hr
        · show own_Q2 Z p1 h0 n0 _ s₁.heap _
          rw [e0]
          exact ⟨(by rw [own_f2, if_pos hc1, if_neg hc2, if_pos hc3]), N0, rfl⟩
      ·
        obtain ⟨fs, hr, hrun, hended, hW, hsame⟩ := X0.leave (v := some (.int (1 : Int32))) (fun h => by rw [Bd.returns] at h; cases h)
        refine ⟨_, _, k3 _ ?_, hrun, hended, _, _, rfl, ?_, ⟨_, rfl⟩, hW, hsame.mono (by decide) (by decide)⟩
        · show Steps p.tables e below (s₁.setTop (mkF m 21 #[.val (.int p1)] [(.int (122 : Int32)), (.int p1)])) _
          refine XS.icmpNo X0.here hx rfl (hb hby own_d2_21) rfl (flt hc3).2.2.1 ?_
          show Steps p.tables e below (s₁.setTop (mkF m 24 #[.val (.int p1)] [])) _
          refine XS.iconst X0.here hx rfl (hb hby own_d2_24) ?_
          show Steps p.tables e below (s₁.setTop (mkF m 25 #[.val (.int p1)] [(.int (1 : Int32))])) _
          refine XS.goto X0.here hx rfl (pc0 := 25) (pc' := 29) rfl (hb hby own_d2_25) (by decide) (by decide) ?_
          show Steps p.tables e below (s₁.setTop (mkF m 29 #[.val (.int p1)] [(.int (1 : Int32))])) _
          exact retN X0 hx (t := .boolean) Bd.returns (by simp) (hb hby own_d2_29) hr
        · show own_Q2 Z p1 h0 n0 _ s₁.heap _
          rw [e0]
          exact ⟨(by rw [own_f2, if_pos hc1, if_neg hc2, if_neg hc3]), N0, rfl⟩
  ·
    have k4 : ∀ t, Steps p.tables e below (s₁.setTop (mkF m 9 #[.val (.int p1)] [(.int (90 : Int32)), (.int p1)])) t → Steps p.tables e below (s₁.setTop (entryFrame m #[(.int p1)] 1)) t := by
      intro t kt
      refine k1 t ?_
      show Steps p.tables e below (s₁.setTop (mkF m 3 #[.val (.int p1)] [(.int (65 : Int32)), (.int p1)])) _
      refine XS.icmpNo X0.here hx rfl (hb hby own_d2_3) rfl (flt hc1).1 ?_
      show Steps p.tables e below (s₁.setTop (mkF m 6 #[.val (.int p1)] [])) _
      refine XS.iloadN X0.here hx rfl (hb hby own_d2_6) rfl ?_
      show Steps p.tables e below (s₁.setTop (mkF m 7 #[.val (.int p1)] [(.int p1)])) _
      refine XS.bipush X0.here hx rfl (hb hby own_d2_7) ?_
      exact kt
    by_cases hc4 : (90 : Int32) < p1
    ·
      have k5 : ∀ t, Steps p.tables e below (s₁.setTop (mkF m 15 #[.val (.int p1)] [(.int (97 : Int32)), (.int p1)])) t → Steps p.tables e below (s₁.setTop (entryFrame m #[(.int p1)] 1)) t := by
        intro t kt
        refine k4 t ?_
        show Steps p.tables e below (s₁.setTop (mkF m 9 #[.val (.int p1)] [(.int (90 : Int32)), (.int p1)])) _
        refine XS.icmpNo X0.here hx rfl (hb hby own_d2_9) rfl (tlt hc4).2.2.2 ?_
        show Steps p.tables e below (s₁.setTop (mkF m 12 #[.val (.int p1)] [])) _
        refine XS.iloadN X0.here hx rfl (hb hby own_d2_12) rfl ?_
        show Steps p.tables e below (s₁.setTop (mkF m 13 #[.val (.int p1)] [(.int p1)])) _
        refine XS.bipush X0.here hx rfl (hb hby own_d2_13) ?_
        exact kt
      by_cases hc5 : p1 < (97 : Int32)
      ·
        obtain ⟨fs, hr, hrun, hended, hW, hsame⟩ := X0.leave (v := some (.int (0 : Int32))) (fun h => by rw [Bd.returns] at h; cases h)
        refine ⟨_, _, k5 _ ?_, hrun, hended, _, _, rfl, ?_, ⟨_, rfl⟩, hW, hsame.mono (by decide) (by decide)⟩
        · show Steps p.tables e below (s₁.setTop (mkF m 15 #[.val (.int p1)] [(.int (97 : Int32)), (.int p1)])) _
          refine XS.icmpYes X0.here hx rfl (pc0 := 15) (pc' := 28) rfl (hb hby own_d2_15) rfl (tlt hc5).1 (by decide) (by decide) ?_
          show Steps p.tables e below (s₁.setTop (mkF m 28 #[.val (.int p1)] [])) _
          refine XS.iconst X0.here hx rfl (hb hby own_d2_28) ?_
          show Steps p.tables e below (s₁.setTop (mkF m 29 #[.val (.int p1)] [(.int (0 : Int32))])) _
          exact retN X0 hx (t := .boolean) Bd.returns (by simp) (hb hby own_d2_29) hr
        · show own_Q2 Z p1 h0 n0 _ s₁.heap _
          rw [e0]
          exact ⟨(by rw [own_f2, if_neg hc1, if_pos hc4, if_pos hc5]), N0, rfl⟩
      ·
        have k6 : ∀ t, Steps p.tables e below (s₁.setTop (mkF m 21 #[.val (.int p1)] [(.int (122 : Int32)), (.int p1)])) t → Steps p.tables e below (s₁.setTop (entryFrame m #[(.int p1)] 1)) t := by
          intro t kt
          refine k5 t ?_
          show Steps p.tables e below (s₁.setTop (mkF m 15 #[.val (.int p1)] [(.int (97 : Int32)), (.int p1)])) _
          refine XS.icmpNo X0.here hx rfl (hb hby own_d2_15) rfl (flt hc5).1 ?_
          show Steps p.tables e below (s₁.setTop (mkF m 18 #[.val (.int p1)] [])) _
          refine XS.iloadN X0.here hx rfl (hb hby own_d2_18) rfl ?_
          show Steps p.tables e below (s₁.setTop (mkF m 19 #[.val (.int p1)] [(.int p1)])) _
          refine XS.bipush X0.here hx rfl (hb hby own_d2_19) ?_
          exact kt
        by_cases hc6 : (122 : Int32) < p1
        ·
          obtain ⟨fs, hr, hrun, hended, hW, hsame⟩ := X0.leave (v := some (.int (0 : Int32))) (fun h => by rw [Bd.returns] at h; cases h)
          refine ⟨_, _, k6 _ ?_, hrun, hended, _, _, rfl, ?_, ⟨_, rfl⟩, hW, hsame.mono (by decide) (by decide)⟩
          · show Steps p.tables e below (s₁.setTop (mkF m 21 #[.val (.int p1)] [(.int (122 : Int32)), (.int p1)])) _
            refine XS.icmpYes X0.here hx rfl (pc0 := 21) (pc' := 28) rfl (hb hby own_d2_21) rfl (tlt hc6).2.2.1 (by decide) (by decide) ?_
            show Steps p.tables e below (s₁.setTop (mkF m 28 #[.val (.int p1)] [])) _
            refine XS.iconst X0.here hx rfl (hb hby own_d2_28) ?_
            show Steps p.tables e below (s₁.setTop (mkF m 29 #[.val (.int p1)] [(.int (0 : Int32))])) _
            exact retN X0 hx (t := .boolean) Bd.returns (by simp) (hb hby own_d2_29) hr
          · show own_Q2 Z p1 h0 n0 _ s₁.heap _
            rw [e0]
            exact ⟨(by rw [own_f2, if_neg hc1, if_pos hc4, if_neg hc5, if_pos hc6]), N0, rfl⟩
        ·
          obtain ⟨fs, hr, hrun, hended, hW, hsame⟩ := X0.leave (v := some (.int (1 : Int32))) (fun h => by rw [Bd.returns] at h; cases h)
          refine ⟨_, _, k6 _ ?_, hrun, hended, _, _, rfl, ?_, ⟨_, rfl⟩, hW, hsame.mono (by decide) (by decide)⟩
          · show Steps p.tables e below (s₁.setTop (mkF m 21 #[.val (.int p1)] [(.int (122 : Int32)), (.int p1)])) _
            refine XS.icmpNo X0.here hx rfl (hb hby own_d2_21) rfl (flt hc6).2.2.1 ?_
            show Steps p.tables e below (s₁.setTop (mkF m 24 #[.val (.int p1)] [])) _
            refine XS.iconst X0.here hx rfl (hb hby own_d2_24) ?_
            show Steps p.tables e below (s₁.setTop (mkF m 25 #[.val (.int p1)] [(.int (1 : Int32))])) _
            refine XS.goto X0.here hx rfl (pc0 := 25) (pc' := 29) rfl (hb hby own_d2_25) (by decide) (by decide) ?_
            show Steps p.tables e below (s₁.setTop (mkF m 29 #[.val (.int p1)] [(.int (1 : Int32))])) _
            exact retN X0 hx (t := .boolean) Bd.returns (by simp) (hb hby own_d2_29) hr
          · show own_Q2 Z p1 h0 n0 _ s₁.heap _
            rw [e0]
            exact ⟨(by rw [own_f2, if_neg hc1, if_pos hc4, if_neg hc5, if_neg hc6]), N0, rfl⟩
    ·
      obtain ⟨fs, hr, hrun, hended, hW, hsame⟩ := X0.leave (v := some (.int (1 : Int32))) (fun h => by rw [Bd.returns] at h; cases h)
      refine ⟨_, _, k4 _ ?_, hrun, hended, _, _, rfl, ?_, ⟨_, rfl⟩, hW, hsame.mono (by decide) (by decide)⟩
      · show Steps p.tables e below (s₁.setTop (mkF m 9 #[.val (.int p1)] [(.int (90 : Int32)), (.int p1)])) _
        refine XS.icmpYes X0.here hx rfl (pc0 := 9) (pc' := 24) rfl (hb hby own_d2_9) rfl (flt hc4).2.2.2 (by decide) (by decide) ?_
        show Steps p.tables e below (s₁.setTop (mkF m 24 #[.val (.int p1)] [])) _
        refine XS.iconst X0.here hx rfl (hb hby own_d2_24) ?_
        show Steps p.tables e below (s₁.setTop (mkF m 25 #[.val (.int p1)] [(.int (1 : Int32))])) _
        refine XS.goto X0.here hx rfl (pc0 := 25) (pc' := 29) rfl (hb hby own_d2_25) (by decide) (by decide) ?_
        show Steps p.tables e below (s₁.setTop (mkF m 29 #[.val (.int p1)] [(.int (1 : Int32))])) _
        exact retN X0 hx (t := .boolean) Bd.returns (by simp) (hb hby own_d2_29) hr
      · show own_Q2 Z p1 h0 n0 _ s₁.heap _
        rw [e0]
        exact ⟨(by rw [own_f2, if_neg hc1, if_neg hc4]), N0, rfl⟩
-- body 3
theorem own_d3_0 : decode prog_29_method_4_code 0 = .ok (.iload_n 0, 1) := by decide +kernel
theorem own_d3_1 : decode prog_29_method_4_code 1 = .ok (.bipush 48, 2) := by decide +kernel
theorem own_d3_3 : decode prog_29_method_4_code 3 = .ok (.if_icmp .lt 13, 3) := by decide +kernel
theorem own_d3_6 : decode prog_29_method_4_code 6 = .ok (.iload_n 0, 1) := by decide +kernel
theorem own_d3_7 : decode prog_29_method_4_code 7 = .ok (.bipush 57, 2) := by decide +kernel
theorem own_d3_9 : decode prog_29_method_4_code 9 = .ok (.if_icmp .gt 7, 3) := by decide +kernel
theorem own_d3_12 : decode prog_29_method_4_code 12 = .ok (.iconst 1, 1) := by decide +kernel
theorem own_d3_13 : decode prog_29_method_4_code 13 = .ok (.goto 4, 3) := by decide +kernel
theorem own_d3_16 : decode prog_29_method_4_code 16 = .ok (.iconst 0, 1) := by decide +kernel
theorem own_d3_17 : decode prog_29_method_4_code 17 = .ok (.ireturn, 1) := by decide +kernel
theorem own_ef3 (m : MethodId) (x0 : Int32) : entryFrame m #[(.int x0)] 1 = mkF m 0 #[.val (.int x0)] [] := by first | (simp [entryFrame, mkF, argsToLocals, Value.category]; done) | rfl
def own_f3 (p1 : Int32) : Int32 := if p1 < (48 : Int32) then (0 : Int32)
    else if (57 : Int32) < p1 then (0 : Int32)
      else (1 : Int32)
def own_Q3 (Z : State) (p1 : Int32) (h0 : Heap) (n0 : Nat) (v : Option Value) (h : Heap) (L : List Loc) : Prop := v = some (.int (own_f3 p1)) ∧ Fr n0 L ∧ h = h0
set_option maxRecDepth 65536 in
set_option maxHeartbeats 40000000 in
theorem own_rm3 (l : Launch) (Z : State) (a0 : Array Value) (hw : ∀ d ∈ tables_1, d.before a0 Z = true) (ws : List Jvm.Cond) (p1 : Int32) (h0 : Heap) (n0 : Nat) (Z0 : n0 ≤ h0.size) :
    MetFree l (⟨"com/example/nanshe/nanshe/model/LabelNames", "isDigit", "(C)Z"⟩ : MethodName) (head1 (Jvm.Cond.code (⟨"com/example/nanshe/nanshe/model/LabelNames", "isDigit", "(C)Z"⟩ : MethodName) prog_29_method_4_code 1 (some .boolean) :: ws) ({ frames := 0, cells := 0, slots := 0, locals := 0 } : Room)) (fun a U => a = #[(.int p1)] ∧ Z.Warmed39 U.vm ∧ U.heap = h0) (fun _ _ _ _ _ => True) (fun _ U o U' => ∃ v L, o = .returned v ∧ own_Q3 Z p1 h0 n0 v U'.heap L ∧ FrameEnd U o U' L ({ frames := 0, cells := 0, slots := 0, locals := 0 } : Room).cells ({ frames := 0, cells := 0, slots := 0, locals := 0 } : Room).slots) := by
  refine MetFree.of_bodySF (plainFor_of_name own_pn0) hisR ?_
  intro p e s m args below meth c s₁ Bd hml0 hP hK
  obtain ⟨rfl, hZ, hh⟩ := hP
  have hx := Bd.exec
  have hby := Bd.bytes
  have hml : c.maxLocals = 1 := hml0
  have hown : s.vm.findClass "com/example/nanshe/nanshe/model/LabelNames" = some m.cls := findClass_of_methodNamed Bd.named
  have hnm := (name_of_methodNamed Bd.named Bd.method).1
  have X0 : Stand p l e ({ frames := 0, cells := 0, slots := 0, locals := 0 } : Room) s m #[(.int p1)] below meth c s₁ [] 0 0 := Stand.of_body Bd
  have e0 : s₁.heap = h0 := by rw [← hh, Bd.state]; rfl
  have N0 := Fr.nil n0
  have pre0 : ∀ t, Steps p.tables e below (s₁.setTop (mkF m 0 #[.val (.int p1)] [])) t → Steps p.tables e below (s₁.setTop (entryFrame m #[(.int p1)] 1)) t := fun t k => castTop (own_ef3 m p1) k
  have k1 : ∀ t, Steps p.tables e below (s₁.setTop (mkF m 3 #[.val (.int p1)] [(.int (48 : Int32)), (.int p1)])) t → Steps p.tables e below (s₁.setTop (entryFrame m #[(.int p1)] 1)) t := by
    intro t kt
    refine pre0 t ?_
    show Steps p.tables e below (s₁.setTop (mkF m 0 #[.val (.int p1)] [])) _
    refine XS.iloadN X0.here hx rfl (hb hby own_d3_0) rfl ?_
    show Steps p.tables e below (s₁.setTop (mkF m 1 #[.val (.int p1)] [(.int p1)])) _
    refine XS.bipush X0.here hx rfl (hb hby own_d3_1) ?_
    exact kt
  by_cases hc1 : p1 < (48 : Int32)
  ·
    obtain ⟨fs, hr, hrun, hended, hW, hsame⟩ := X0.leave (v := some (.int (0 : Int32))) (fun h => by rw [Bd.returns] at h; cases h)
    refine ⟨_, _, k1 _ ?_, hrun, hended, _, _, rfl, ?_, ⟨_, rfl⟩, hW, hsame.mono (by decide) (by decide)⟩
    · show Steps p.tables e below (s₁.setTop (mkF m 3 #[.val (.int p1)] [(.int (48 : Int32)), (.int p1)])) _
      refine XS.icmpYes X0.here hx rfl (pc0 := 3) (pc' := 16) rfl (hb hby own_d3_3) rfl (tlt hc1).1 (by decide) (by decide) ?_
      show Steps p.tables e below (s₁.setTop (mkF m 16 #[.val (.int p1)] [])) _
      refine XS.iconst X0.here hx rfl (hb hby own_d3_16) ?_
      show Steps p.tables e below (s₁.setTop (mkF m 17 #[.val (.int p1)] [(.int (0 : Int32))])) _
      exact retN X0 hx (t := .boolean) Bd.returns (by simp) (hb hby own_d3_17) hr
    · show own_Q3 Z p1 h0 n0 _ s₁.heap _
      rw [e0]
      exact ⟨(by rw [own_f3, if_pos hc1]), N0, rfl⟩
  ·
    have k2 : ∀ t, Steps p.tables e below (s₁.setTop (mkF m 9 #[.val (.int p1)] [(.int (57 : Int32)), (.int p1)])) t → Steps p.tables e below (s₁.setTop (entryFrame m #[(.int p1)] 1)) t := by
      intro t kt
      refine k1 t ?_
      show Steps p.tables e below (s₁.setTop (mkF m 3 #[.val (.int p1)] [(.int (48 : Int32)), (.int p1)])) _
      refine XS.icmpNo X0.here hx rfl (hb hby own_d3_3) rfl (flt hc1).1 ?_
      show Steps p.tables e below (s₁.setTop (mkF m 6 #[.val (.int p1)] [])) _
      refine XS.iloadN X0.here hx rfl (hb hby own_d3_6) rfl ?_
      show Steps p.tables e below (s₁.setTop (mkF m 7 #[.val (.int p1)] [(.int p1)])) _
      refine XS.bipush X0.here hx rfl (hb hby own_d3_7) ?_
      exact kt
    by_cases hc2 : (57 : Int32) < p1
    ·
      obtain ⟨fs, hr, hrun, hended, hW, hsame⟩ := X0.leave (v := some (.int (0 : Int32))) (fun h => by rw [Bd.returns] at h; cases h)
      refine ⟨_, _, k2 _ ?_, hrun, hended, _, _, rfl, ?_, ⟨_, rfl⟩, hW, hsame.mono (by decide) (by decide)⟩
      · show Steps p.tables e below (s₁.setTop (mkF m 9 #[.val (.int p1)] [(.int (57 : Int32)), (.int p1)])) _
        refine XS.icmpYes X0.here hx rfl (pc0 := 9) (pc' := 16) rfl (hb hby own_d3_9) rfl (tlt hc2).2.2.1 (by decide) (by decide) ?_
        show Steps p.tables e below (s₁.setTop (mkF m 16 #[.val (.int p1)] [])) _
        refine XS.iconst X0.here hx rfl (hb hby own_d3_16) ?_
        show Steps p.tables e below (s₁.setTop (mkF m 17 #[.val (.int p1)] [(.int (0 : Int32))])) _
        exact retN X0 hx (t := .boolean) Bd.returns (by simp) (hb hby own_d3_17) hr
      · show own_Q3 Z p1 h0 n0 _ s₁.heap _
        rw [e0]
        exact ⟨(by rw [own_f3, if_neg hc1, if_pos hc2]), N0, rfl⟩
    ·
      obtain ⟨fs, hr, hrun, hended, hW, hsame⟩ := X0.leave (v := some (.int (1 : Int32))) (fun h => by rw [Bd.returns] at h; cases h)
      refine ⟨_, _, k2 _ ?_, hrun, hended, _, _, rfl, ?_, ⟨_, rfl⟩, hW, hsame.mono (by decide) (by decide)⟩
      · show Steps p.tables e below (s₁.setTop (mkF m 9 #[.val (.int p1)] [(.int (57 : Int32)), (.int p1)])) _
        refine XS.icmpNo X0.here hx rfl (hb hby own_d3_9) rfl (flt hc2).2.2.1 ?_
        show Steps p.tables e below (s₁.setTop (mkF m 12 #[.val (.int p1)] [])) _
        refine XS.iconst X0.here hx rfl (hb hby own_d3_12) ?_
        show Steps p.tables e below (s₁.setTop (mkF m 13 #[.val (.int p1)] [(.int (1 : Int32))])) _
        refine XS.goto X0.here hx rfl (pc0 := 13) (pc' := 17) rfl (hb hby own_d3_13) (by decide) (by decide) ?_
        show Steps p.tables e below (s₁.setTop (mkF m 17 #[.val (.int p1)] [(.int (1 : Int32))])) _
        exact retN X0 hx (t := .boolean) Bd.returns (by simp) (hb hby own_d3_17) hr
      · show own_Q3 Z p1 h0 n0 _ s₁.heap _
        rw [e0]
        exact ⟨(by rw [own_f3, if_neg hc1, if_neg hc2]), N0, rfl⟩
-- body 1
theorem own_d1_0 : decode prog_29_method_3_code 0 = .ok (.iload_n 0, 1) := by decide +kernel
theorem own_d1_1 : decode prog_29_method_3_code 1 = .ok (.invokestatic 56, 3) := by decide +kernel
theorem own_d1_4 : decode prog_29_method_3_code 4 = .ok (.ifCond .ne 16, 3) := by decide +kernel
theorem own_d1_7 : decode prog_29_method_3_code 7 = .ok (.iload_n 0, 1) := by decide +kernel
theorem own_d1_8 : decode prog_29_method_3_code 8 = .ok (.invokestatic 60, 3) := by decide +kernel
theorem own_d1_11 : decode prog_29_method_3_code 11 = .ok (.ifCond .ne 9, 3) := by decide +kernel
theorem own_d1_14 : decode prog_29_method_3_code 14 = .ok (.iload_n 0, 1) := by decide +kernel
theorem own_d1_15 : decode prog_29_method_3_code 15 = .ok (.bipush 95, 2) := by decide +kernel
theorem own_d1_17 : decode prog_29_method_3_code 17 = .ok (.if_icmp .ne 7, 3) := by decide +kernel
theorem own_d1_20 : decode prog_29_method_3_code 20 = .ok (.iconst 1, 1) := by decide +kernel
theorem own_d1_21 : decode prog_29_method_3_code 21 = .ok (.goto 4, 3) := by decide +kernel
theorem own_d1_24 : decode prog_29_method_3_code 24 = .ok (.iconst 0, 1) := by decide +kernel
theorem own_d1_25 : decode prog_29_method_3_code 25 = .ok (.ireturn, 1) := by decide +kernel
theorem own_ef1 (m : MethodId) (x0 : Int32) : entryFrame m #[(.int x0)] 1 = mkF m 0 #[.val (.int x0)] [] := by first | (simp [entryFrame, mkF, argsToLocals, Value.category]; done) | rfl
def own_f1 (p1 : Int32) : Int32 := if (own_f2 p1) = (0 : Int32) then (if (own_f3 p1) = (0 : Int32) then (if p1 = (95 : Int32) then (1 : Int32)
        else (0 : Int32))
      else (1 : Int32))
    else (1 : Int32)
def own_Q1 (Z : State) (p1 : Int32) (h0 : Heap) (n0 : Nat) (v : Option Value) (h : Heap) (L : List Loc) : Prop := v = some (.int (own_f1 p1)) ∧ Fr n0 L ∧ h = h0
set_option maxRecDepth 65536 in
set_option maxHeartbeats 40000000 in
theorem own_rm1 (l : Launch) (Z : State) (a0 : Array Value) (hw : ∀ d ∈ tables_1, d.before a0 Z = true) (ws : List Jvm.Cond) (p1 : Int32) (h0 : Heap) (n0 : Nat) (Z0 : n0 ≤ h0.size) :
    MetFree l (⟨"com/example/nanshe/nanshe/model/LabelNames", "isNameCharacter", "(C)Z"⟩ : MethodName) (head1 (Jvm.Cond.code (⟨"com/example/nanshe/nanshe/model/LabelNames", "isNameCharacter", "(C)Z"⟩ : MethodName) prog_29_method_3_code 1 (some .boolean) :: ws) ({ frames := 1, cells := 0, slots := 0, locals := 12 } : Room)) (fun a U => a = #[(.int p1)] ∧ Z.Warmed39 U.vm ∧ U.heap = h0) (fun _ _ _ _ _ => True) (fun _ U o U' => ∃ v L, o = .returned v ∧ own_Q1 Z p1 h0 n0 v U'.heap L ∧ FrameEnd U o U' L ({ frames := 1, cells := 0, slots := 0, locals := 12 } : Room).cells ({ frames := 1, cells := 0, slots := 0, locals := 12 } : Room).slots) := by
  refine MetFree.of_bodySF (plainFor_of_name own_pn0) hisR ?_
  intro p e s m args below meth c s₁ Bd hml0 hP hK
  obtain ⟨rfl, hZ, hh⟩ := hP
  have hx := Bd.exec
  have hby := Bd.bytes
  have hml : c.maxLocals = 1 := hml0
  have hown : s.vm.findClass "com/example/nanshe/nanshe/model/LabelNames" = some m.cls := findClass_of_methodNamed Bd.named
  have hnm := (name_of_methodNamed Bd.named Bd.method).1
  have X0 : Stand p l e ({ frames := 1, cells := 0, slots := 0, locals := 12 } : Room) s m #[(.int p1)] below meth c s₁ [] 0 0 := Stand.of_body Bd
  have e0 : s₁.heap = h0 := by rw [← hh, Bd.state]; rfl
  have N0 := Fr.nil n0
  have pre0 : ∀ t, Steps p.tables e below (s₁.setTop (mkF m 0 #[.val (.int p1)] [])) t → Steps p.tables e below (s₁.setTop (entryFrame m #[(.int p1)] 1)) t := fun t k => castTop (own_ef1 m p1) k
  obtain ⟨v1, _, ⟨T1, L1, k1, n1⟩, -, X1, ⟨Lc1, hQ1, l1, y1, z1⟩, st1⟩ := Jvm.LawKit.callS X0 hx (y := (⟨"com/example/nanshe/nanshe/model/LabelNames", "isLetter", "(C)Z"⟩ : MethodName)) hown (mvT hZ (hw _ (List.mem_of_getElem? (i := 4) rfl))) (mvT hZ (hw _ (List.mem_of_getElem? (i := 5) rfl))) (mvT hZ (hw _ (List.mem_of_getElem? (i := 2) rfl))) (mvT hZ (hw _ (List.mem_of_getElem? (i := 6) rfl))) (by decide) (backOf (W := 0) (own_rm2 l Z a0 hw [] p1 h0 n0 Z0) hZ (hw _ (List.mem_of_getElem? (i := 6) rfl)) (hw _ (List.mem_of_getElem? (i := 2) rfl)) (by decide) (by decide)) (g := (mkF m 1 #[.val (.int p1)] [(.int p1)])) rfl (by rw [hml]; rfl) (argsL := [(.int p1)]) (rest := []) (lenOf own_pd27 rfl) rfl (by show 2 * 0 + _ ≤ _; exact Nat.le_of_eq rfl) (hb hby own_d1_1) (fun _ _ => ⟨rfl, e0, (by decide : 0 + 0 ≤ _), (by decide : 0 + 0 ≤ _)⟩)
  dsimp only [Pt.U, Pt.locs, Pt.cells, Pt.slots] at X1 l1 y1 z1 st1 hQ1
  subst l1 y1 z1
  obtain ⟨rfl, N1q, e1⟩ := hQ1
  have N2 := Fr.app N0 N1q
  have k3 : ∀ t, Steps p.tables e below (T1.setTop (mkF m 4 #[.val (.int p1)] [(.int (own_f2 p1))])) t → Steps p.tables e below (s₁.setTop (entryFrame m #[(.int p1)] 1)) t := by
    intro t kt
    refine pre0 t ?_
    show Steps p.tables e below (s₁.setTop (mkF m 0 #[.val (.int p1)] [])) _
    refine XS.iloadN X0.here hx rfl (hb hby own_d1_0) rfl ?_
    show Steps p.tables e below (s₁.setTop (mkF m 1 #[.val (.int p1)] [(.int p1)])) _
    refine st1 _ ?_
    exact kt
  by_cases hc1 : (own_f2 p1) = (0 : Int32)
  ·
    obtain ⟨v4, _, ⟨T4, L4, k4, n4⟩, -, X4, ⟨Lc4, hQ4, l4, y4, z4⟩, st4⟩ := Jvm.LawKit.callS X1 hx (y := (⟨"com/example/nanshe/nanshe/model/LabelNames", "isDigit", "(C)Z"⟩ : MethodName)) hown (mvT hZ (hw _ (List.mem_of_getElem? (i := 7) rfl))) (mvT hZ (hw _ (List.mem_of_getElem? (i := 8) rfl))) (mvT hZ (hw _ (List.mem_of_getElem? (i := 2) rfl))) (mvT hZ (hw _ (List.mem_of_getElem? (i := 9) rfl))) (by decide) (backOf (W := 0) (own_rm3 l Z a0 hw [] p1 h0 n0 Z0) hZ (hw _ (List.mem_of_getElem? (i := 9) rfl)) (hw _ (List.mem_of_getElem? (i := 2) rfl)) (by decide) (by decide)) (g := (mkF m 8 #[.val (.int p1)] [(.int p1)])) rfl (by rw [hml]; rfl) (argsL := [(.int p1)]) (rest := []) (lenOf own_pd27 rfl) rfl (by show 2 * 0 + _ ≤ _; exact Nat.le_of_eq rfl) (hb hby own_d1_8) (fun _ _ => ⟨rfl, e1, (by decide : 0 + 0 ≤ _), (by decide : 0 + 0 ≤ _)⟩)
    dsimp only [Pt.U, Pt.locs, Pt.cells, Pt.slots] at X4 l4 y4 z4 st4 hQ4
    subst l4 y4 z4
    obtain ⟨rfl, N4q, e4⟩ := hQ4
    have N5 := Fr.app N2 N4q
    have k6 : ∀ t, Steps p.tables e below (T4.setTop (mkF m 11 #[.val (.int p1)] [(.int (own_f3 p1))])) t → Steps p.tables e below (s₁.setTop (entryFrame m #[(.int p1)] 1)) t := by
      intro t kt
      refine k3 t ?_
      show Steps p.tables e below (T1.setTop (mkF m 4 #[.val (.int p1)] [(.int (own_f2 p1))])) _
      refine XS.ifNo X1.here hx rfl (hb hby own_d1_4) rfl ((if0 _ _).trans (teq hc1).2) ?_
      show Steps p.tables e below (T1.setTop (mkF m 7 #[.val (.int p1)] [])) _
      refine XS.iloadN X1.here hx rfl (hb hby own_d1_7) rfl ?_
      show Steps p.tables e below (T1.setTop (mkF m 8 #[.val (.int p1)] [(.int p1)])) _
      refine st4 _ ?_
      exact kt
    by_cases hc2 : (own_f3 p1) = (0 : Int32)
    ·
      have k7 : ∀ t, Steps p.tables e below (T4.setTop (mkF m 17 #[.val (.int p1)] [(.int (95 : Int32)), (.int p1)])) t → Steps p.tables e below (s₁.setTop (entryFrame m #[(.int p1)] 1)) t := by
        intro t kt
        refine k6 t ?_
        show Steps p.tables e below (T4.setTop (mkF m 11 #[.val (.int p1)] [(.int (own_f3 p1))])) _
        refine XS.ifNo X4.here hx rfl (hb hby own_d1_11) rfl ((if0 _ _).trans (teq hc2).2) ?_
        show Steps p.tables e below (T4.setTop (mkF m 14 #[.val (.int p1)] [])) _
        refine XS.iloadN X4.here hx rfl (hb hby own_d1_14) rfl ?_
        show Steps p.tables e below (T4.setTop (mkF m 15 #[.val (.int p1)] [(.int p1)])) _
        refine XS.bipush X4.here hx rfl (hb hby own_d1_15) ?_
        exact kt
      by_cases hc3 : p1 = (95 : Int32)
      ·
        obtain ⟨fs, hr, hrun, hended, hW, hsame⟩ := X4.leave (v := some (.int (1 : Int32))) (fun h => by rw [Bd.returns] at h; cases h)
        refine ⟨_, _, k7 _ ?_, hrun, hended, _, _, rfl, ?_, ⟨_, rfl⟩, hW, hsame.mono (by decide) (by decide)⟩
        · show Steps p.tables e below (T4.setTop (mkF m 17 #[.val (.int p1)] [(.int (95 : Int32)), (.int p1)])) _
          refine XS.icmpNo X4.here hx rfl (hb hby own_d1_17) rfl (teq hc3).2 ?_
          show Steps p.tables e below (T4.setTop (mkF m 20 #[.val (.int p1)] [])) _
          refine XS.iconst X4.here hx rfl (hb hby own_d1_20) ?_
          show Steps p.tables e below (T4.setTop (mkF m 21 #[.val (.int p1)] [(.int (1 : Int32))])) _
          refine XS.goto X4.here hx rfl (pc0 := 21) (pc' := 25) rfl (hb hby own_d1_21) (by decide) (by decide) ?_
          show Steps p.tables e below (T4.setTop (mkF m 25 #[.val (.int p1)] [(.int (1 : Int32))])) _
          exact retN X4 hx (t := .boolean) Bd.returns (by simp) (hb hby own_d1_25) hr
        · show own_Q1 Z p1 h0 n0 _ T4.heap _
          rw [e4]
          exact ⟨(by rw [own_f1, if_pos hc1, if_pos hc2, if_pos hc3]), N5, rfl⟩
      ·
        obtain ⟨fs, hr, hrun, hended, hW, hsame⟩ := X4.leave (v := some (.int (0 : Int32))) (fun h => by rw [Bd.returns] at h; cases h)
        refine ⟨_, _, k7 _ ?_, hrun, hended, _, _, rfl, ?_, ⟨_, rfl⟩, hW, hsame.mono (by decide) (by decide)⟩
        · show Steps p.tables e below (T4.setTop (mkF m 17 #[.val (.int p1)] [(.int (95 : Int32)), (.int p1)])) _
          refine XS.icmpYes X4.here hx rfl (pc0 := 17) (pc' := 24) rfl (hb hby own_d1_17) rfl (feq hc3).2 (by decide) (by decide) ?_
          show Steps p.tables e below (T4.setTop (mkF m 24 #[.val (.int p1)] [])) _
          refine XS.iconst X4.here hx rfl (hb hby own_d1_24) ?_
          show Steps p.tables e below (T4.setTop (mkF m 25 #[.val (.int p1)] [(.int (0 : Int32))])) _
          exact retN X4 hx (t := .boolean) Bd.returns (by simp) (hb hby own_d1_25) hr
        · show own_Q1 Z p1 h0 n0 _ T4.heap _
          rw [e4]
          exact ⟨(by rw [own_f1, if_pos hc1, if_pos hc2, if_neg hc3]), N5, rfl⟩
    ·
      obtain ⟨fs, hr, hrun, hended, hW, hsame⟩ := X4.leave (v := some (.int (1 : Int32))) (fun h => by rw [Bd.returns] at h; cases h)
      refine ⟨_, _, k6 _ ?_, hrun, hended, _, _, rfl, ?_, ⟨_, rfl⟩, hW, hsame.mono (by decide) (by decide)⟩
      · show Steps p.tables e below (T4.setTop (mkF m 11 #[.val (.int p1)] [(.int (own_f3 p1))])) _
        refine XS.ifYes X4.here hx rfl (pc0 := 11) (pc' := 20) rfl (hb hby own_d1_11) rfl ((if0 _ _).trans (feq hc2).2) (by decide) (by decide) ?_
        show Steps p.tables e below (T4.setTop (mkF m 20 #[.val (.int p1)] [])) _
        refine XS.iconst X4.here hx rfl (hb hby own_d1_20) ?_
        show Steps p.tables e below (T4.setTop (mkF m 21 #[.val (.int p1)] [(.int (1 : Int32))])) _
        refine XS.goto X4.here hx rfl (pc0 := 21) (pc' := 25) rfl (hb hby own_d1_21) (by decide) (by decide) ?_
        show Steps p.tables e below (T4.setTop (mkF m 25 #[.val (.int p1)] [(.int (1 : Int32))])) _
        exact retN X4 hx (t := .boolean) Bd.returns (by simp) (hb hby own_d1_25) hr
      · show own_Q1 Z p1 h0 n0 _ T4.heap _
        rw [e4]
        exact ⟨(by rw [own_f1, if_pos hc1, if_neg hc2]), N5, rfl⟩
  ·
    obtain ⟨fs, hr, hrun, hended, hW, hsame⟩ := X1.leave (v := some (.int (1 : Int32))) (fun h => by rw [Bd.returns] at h; cases h)
    refine ⟨_, _, k3 _ ?_, hrun, hended, _, _, rfl, ?_, ⟨_, rfl⟩, hW, hsame.mono (by decide) (by decide)⟩
    · show Steps p.tables e below (T1.setTop (mkF m 4 #[.val (.int p1)] [(.int (own_f2 p1))])) _
      refine XS.ifYes X1.here hx rfl (pc0 := 4) (pc' := 20) rfl (hb hby own_d1_4) rfl ((if0 _ _).trans (feq hc1).2) (by decide) (by decide) ?_
      show Steps p.tables e below (T1.setTop (mkF m 20 #[.val (.int p1)] [])) _
      refine XS.iconst X1.here hx rfl (hb hby own_d1_20) ?_
      show Steps p.tables e below (T1.setTop (mkF m 21 #[.val (.int p1)] [(.int (1 : Int32))])) _
      refine XS.goto X1.here hx rfl (pc0 := 21) (pc' := 25) rfl (hb hby own_d1_21) (by decide) (by decide) ?_
      show Steps p.tables e below (T1.setTop (mkF m 25 #[.val (.int p1)] [(.int (1 : Int32))])) _
      exact retN X1 hx (t := .boolean) Bd.returns (by simp) (hb hby own_d1_25) hr
    · show own_Q1 Z p1 h0 n0 _ T1.heap _
      rw [e1]
      exact ⟨(by rw [own_f1, if_neg hc1]), N2, rfl⟩
-- body 4
theorem own_d4_0 : decode method_3_code 0 = .ok (.iload_n 0, 1) := by decide +kernel
theorem own_d4_1 : decode method_3_code 1 = .ok (.istore_n 1, 1) := by decide +kernel
theorem own_d4_2 : decode method_3_code 2 = .ok (.iload_n 1, 1) := by decide +kernel
theorem own_d4_3 : decode method_3_code 3 = .ok (.bipush 32, 2) := by decide +kernel
theorem own_d4_5 : decode method_3_code 5 = .ok (.ior, 1) := by decide +kernel
theorem own_d4_6 : decode method_3_code 6 = .ok (.istore_n 2, 1) := by decide +kernel
theorem own_d4_7 : decode method_3_code 7 = .ok (.iload_n 2, 1) := by decide +kernel
theorem own_d4_8 : decode method_3_code 8 = .ok (.bipush 97, 2) := by decide +kernel
theorem own_d4_10 : decode method_3_code 10 = .ok (.if_icmp .lt 13, 3) := by decide +kernel
theorem own_d4_13 : decode method_3_code 13 = .ok (.iload_n 2, 1) := by decide +kernel
theorem own_d4_14 : decode method_3_code 14 = .ok (.bipush 122, 2) := by decide +kernel
theorem own_d4_16 : decode method_3_code 16 = .ok (.if_icmp .gt 7, 3) := by decide +kernel
theorem own_d4_19 : decode method_3_code 19 = .ok (.iconst 1, 1) := by decide +kernel
theorem own_d4_20 : decode method_3_code 20 = .ok (.goto 4, 3) := by decide +kernel
theorem own_d4_23 : decode method_3_code 23 = .ok (.iconst 0, 1) := by decide +kernel
theorem own_d4_24 : decode method_3_code 24 = .ok (.istore_n 3, 1) := by decide +kernel
theorem own_d4_25 : decode method_3_code 25 = .ok (.iload_n 1, 1) := by decide +kernel
theorem own_d4_26 : decode method_3_code 26 = .ok (.bipush 48, 2) := by decide +kernel
theorem own_d4_28 : decode method_3_code 28 = .ok (.isub, 1) := by decide +kernel
theorem own_d4_29 : decode method_3_code 29 = .ok (.istore 4, 2) := by decide +kernel
theorem own_d4_31 : decode method_3_code 31 = .ok (.iload 4, 2) := by decide +kernel
theorem own_d4_33 : decode method_3_code 33 = .ok (.ifCond .lt 14, 3) := by decide +kernel
theorem own_d4_36 : decode method_3_code 36 = .ok (.iload 4, 2) := by decide +kernel
theorem own_d4_38 : decode method_3_code 38 = .ok (.bipush 10, 2) := by decide +kernel
theorem own_d4_40 : decode method_3_code 40 = .ok (.if_icmp .ge 7, 3) := by decide +kernel
theorem own_d4_43 : decode method_3_code 43 = .ok (.iconst 1, 1) := by decide +kernel
theorem own_d4_44 : decode method_3_code 44 = .ok (.goto 4, 3) := by decide +kernel
theorem own_d4_47 : decode method_3_code 47 = .ok (.iconst 0, 1) := by decide +kernel
theorem own_d4_48 : decode method_3_code 48 = .ok (.istore 5, 2) := by decide +kernel
theorem own_d4_50 : decode method_3_code 50 = .ok (.iload_n 1, 1) := by decide +kernel
theorem own_d4_51 : decode method_3_code 51 = .ok (.bipush 95, 2) := by decide +kernel
theorem own_d4_53 : decode method_3_code 53 = .ok (.if_icmp .ne 7, 3) := by decide +kernel
theorem own_d4_56 : decode method_3_code 56 = .ok (.iconst 1, 1) := by decide +kernel
theorem own_d4_57 : decode method_3_code 57 = .ok (.goto 4, 3) := by decide +kernel
theorem own_d4_60 : decode method_3_code 60 = .ok (.iconst 0, 1) := by decide +kernel
theorem own_d4_61 : decode method_3_code 61 = .ok (.istore 6, 2) := by decide +kernel
theorem own_d4_63 : decode method_3_code 63 = .ok (.iload_n 3, 1) := by decide +kernel
theorem own_d4_64 : decode method_3_code 64 = .ok (.ifCond .ne 13, 3) := by decide +kernel
theorem own_d4_67 : decode method_3_code 67 = .ok (.iload 5, 2) := by decide +kernel
theorem own_d4_69 : decode method_3_code 69 = .ok (.ifCond .ne 8, 3) := by decide +kernel
theorem own_d4_72 : decode method_3_code 72 = .ok (.iload 6, 2) := by decide +kernel
theorem own_d4_74 : decode method_3_code 74 = .ok (.ifCond .eq 7, 3) := by decide +kernel
theorem own_d4_77 : decode method_3_code 77 = .ok (.iconst 1, 1) := by decide +kernel
theorem own_d4_78 : decode method_3_code 78 = .ok (.goto 4, 3) := by decide +kernel
theorem own_d4_81 : decode method_3_code 81 = .ok (.iconst 0, 1) := by decide +kernel
theorem own_d4_82 : decode method_3_code 82 = .ok (.ireturn, 1) := by decide +kernel
theorem own_ef4 (m : MethodId) (x0 : Int32) : entryFrame m #[(.int x0)] 7 = mkF m 0 #[.val (.int x0), .unset, .unset, .unset, .unset, .unset, .unset] [] := by first | (simp [entryFrame, mkF, argsToLocals, Value.category]; done) | rfl
def own_f4 (p1 : Int32) : Int32 := if (p1 ||| (32 : Int32)) < (97 : Int32) then (if (p1 - (48 : Int32)) < (0 : Int32) then (if p1 = (95 : Int32) then (1 : Int32)
        else (0 : Int32))
      else if (p1 - (48 : Int32)) < (10 : Int32) then (if p1 = (95 : Int32) then (1 : Int32)
          else (1 : Int32))
        else if p1 = (95 : Int32) then (1 : Int32)
          else (0 : Int32))
    else if (122 : Int32) < (p1 ||| (32 : Int32)) then (if (p1 - (48 : Int32)) < (0 : Int32) then (if p1 = (95 : Int32) then (1 : Int32)
          else (0 : Int32))
        else if (p1 - (48 : Int32)) < (10 : Int32) then (if p1 = (95 : Int32) then (1 : Int32)
            else (1 : Int32))
          else if p1 = (95 : Int32) then (1 : Int32)
            else (0 : Int32))
      else if (p1 - (48 : Int32)) < (0 : Int32) then (if p1 = (95 : Int32) then (1 : Int32)
          else (1 : Int32))
        else if (p1 - (48 : Int32)) < (10 : Int32) then (if p1 = (95 : Int32) then (1 : Int32)
            else (1 : Int32))
          else if p1 = (95 : Int32) then (1 : Int32)
            else (1 : Int32)
def own_Q4 (Z : State) (p1 : Int32) (h0 : Heap) (n0 : Nat) (v : Option Value) (h : Heap) (L : List Loc) : Prop := v = some (.int (own_f4 p1)) ∧ Fr n0 L ∧ h = h0
set_option maxRecDepth 65536 in
set_option maxHeartbeats 40000000 in
theorem own_rm4 (l : Launch) (Z : State) (a0 : Array Value) (hw : ∀ d ∈ tables_1, d.before a0 Z = true) (ws : List Jvm.Cond) (p1 : Int32) (h0 : Heap) (n0 : Nat) (Z0 : n0 ≤ h0.size) :
    MetFree l (⟨"com/example/nanshe/nanshe/model/LabelNamesIsNameCharacterPinLaw", "expected", "(C)Z"⟩ : MethodName) (head1 (Jvm.Cond.code (⟨"com/example/nanshe/nanshe/model/LabelNamesIsNameCharacterPinLaw", "expected", "(C)Z"⟩ : MethodName) method_3_code 7 (some .boolean) :: ws) ({ frames := 0, cells := 0, slots := 0, locals := 0 } : Room)) (fun a U => a = #[(.int p1)] ∧ Z.Warmed39 U.vm ∧ U.heap = h0) (fun _ _ _ _ _ => True) (fun _ U o U' => ∃ v L, o = .returned v ∧ own_Q4 Z p1 h0 n0 v U'.heap L ∧ FrameEnd U o U' L ({ frames := 0, cells := 0, slots := 0, locals := 0 } : Room).cells ({ frames := 0, cells := 0, slots := 0, locals := 0 } : Room).slots) := by
  refine MetFree.of_bodySF (plainFor_of_name own_pn41) hisR ?_
  intro p e s m args below meth c s₁ Bd hml0 hP hK
  obtain ⟨rfl, hZ, hh⟩ := hP
  have hx := Bd.exec
  have hby := Bd.bytes
  have hml : c.maxLocals = 7 := hml0
  have hown : s.vm.findClass "com/example/nanshe/nanshe/model/LabelNamesIsNameCharacterPinLaw" = some m.cls := findClass_of_methodNamed Bd.named
  have hnm := (name_of_methodNamed Bd.named Bd.method).1
  have X0 : Stand p l e ({ frames := 0, cells := 0, slots := 0, locals := 0 } : Room) s m #[(.int p1)] below meth c s₁ [] 0 0 := Stand.of_body Bd
  have e0 : s₁.heap = h0 := by rw [← hh, Bd.state]; rfl
  have N0 := Fr.nil n0
  have pre0 : ∀ t, Steps p.tables e below (s₁.setTop (mkF m 0 #[.val (.int p1), .unset, .unset, .unset, .unset, .unset, .unset] [])) t → Steps p.tables e below (s₁.setTop (entryFrame m #[(.int p1)] 7)) t := fun t k => castTop (own_ef4 m p1) k
  have k1 : ∀ t, Steps p.tables e below (s₁.setTop (mkF m 10 #[.val (.int p1), .val (.int p1), .val (.int (p1 ||| (32 : Int32))), .unset, .unset, .unset, .unset] [(.int (97 : Int32)), (.int (p1 ||| (32 : Int32)))])) t → Steps p.tables e below (s₁.setTop (entryFrame m #[(.int p1)] 7)) t := by
    intro t kt
    refine pre0 t ?_
    show Steps p.tables e below (s₁.setTop (mkF m 0 #[.val (.int p1), .unset, .unset, .unset, .unset, .unset, .unset] [])) _
    refine XS.iloadN X0.here hx rfl (hb hby own_d4_0) rfl ?_
    show Steps p.tables e below (s₁.setTop (mkF m 1 #[.val (.int p1), .unset, .unset, .unset, .unset, .unset, .unset] [(.int p1)])) _
    refine XS.istoreN X0.here hx rfl (hb hby own_d4_1) rfl (l' := #[.val (.int p1), .val (.int p1), .unset, .unset, .unset, .unset, .unset]) rfl ?_
    show Steps p.tables e below (s₁.setTop (mkF m 2 #[.val (.int p1), .val (.int p1), .unset, .unset, .unset, .unset, .unset] [])) _
    refine XS.iloadN X0.here hx rfl (hb hby own_d4_2) rfl ?_
    show Steps p.tables e below (s₁.setTop (mkF m 3 #[.val (.int p1), .val (.int p1), .unset, .unset, .unset, .unset, .unset] [(.int p1)])) _
    refine XS.bipush X0.here hx rfl (hb hby own_d4_3) ?_
    show Steps p.tables e below (s₁.setTop (mkF m 5 #[.val (.int p1), .val (.int p1), .unset, .unset, .unset, .unset, .unset] [(.int (32 : Int32)), (.int p1)])) _
    refine XS.ior X0.here hx rfl (hb hby own_d4_5) rfl ?_
    show Steps p.tables e below (s₁.setTop (mkF m 6 #[.val (.int p1), .val (.int p1), .unset, .unset, .unset, .unset, .unset] [(.int (p1 ||| (32 : Int32)))])) _
    refine XS.istoreN X0.here hx rfl (hb hby own_d4_6) rfl (l' := #[.val (.int p1), .val (.int p1), .val (.int (p1 ||| (32 : Int32))), .unset, .unset, .unset, .unset]) rfl ?_
    show Steps p.tables e below (s₁.setTop (mkF m 7 #[.val (.int p1), .val (.int p1), .val (.int (p1 ||| (32 : Int32))), .unset, .unset, .unset, .unset] [])) _
    refine XS.iloadN X0.here hx rfl (hb hby own_d4_7) rfl ?_
    show Steps p.tables e below (s₁.setTop (mkF m 8 #[.val (.int p1), .val (.int p1), .val (.int (p1 ||| (32 : Int32))), .unset, .unset, .unset, .unset] [(.int (p1 ||| (32 : Int32)))])) _
    refine XS.bipush X0.here hx rfl (hb hby own_d4_8) ?_
    exact kt
  by_cases hc1 : (p1 ||| (32 : Int32)) < (97 : Int32)
  ·
    have k2 : ∀ t, Steps p.tables e below (s₁.setTop (mkF m 33 #[.val (.int p1), .val (.int p1), .val (.int (p1 ||| (32 : Int32))), .val (.int (0 : Int32)), .val (.int (p1 - (48 : Int32))), .unset, .unset] [(.int (p1 - (48 : Int32)))])) t → Steps p.tables e below (s₁.setTop (entryFrame m #[(.int p1)] 7)) t := by
      intro t kt
      refine k1 t ?_
      show Steps p.tables e below (s₁.setTop (mkF m 10 #[.val (.int p1), .val (.int p1), .val (.int (p1 ||| (32 : Int32))), .unset, .unset, .unset, .unset] [(.int (97 : Int32)), (.int (p1 ||| (32 : Int32)))])) _
      refine XS.icmpYes X0.here hx rfl (pc0 := 10) (pc' := 23) rfl (hb hby own_d4_10) rfl (tlt hc1).1 (by decide) (by decide) ?_
      show Steps p.tables e below (s₁.setTop (mkF m 23 #[.val (.int p1), .val (.int p1), .val (.int (p1 ||| (32 : Int32))), .unset, .unset, .unset, .unset] [])) _
      refine XS.iconst X0.here hx rfl (hb hby own_d4_23) ?_
      show Steps p.tables e below (s₁.setTop (mkF m 24 #[.val (.int p1), .val (.int p1), .val (.int (p1 ||| (32 : Int32))), .unset, .unset, .unset, .unset] [(.int (0 : Int32))])) _
      refine XS.istoreN X0.here hx rfl (hb hby own_d4_24) rfl (l' := #[.val (.int p1), .val (.int p1), .val (.int (p1 ||| (32 : Int32))), .val (.int (0 : Int32)), .unset, .unset, .unset]) rfl ?_
      show Steps p.tables e below (s₁.setTop (mkF m 25 #[.val (.int p1), .val (.int p1), .val (.int (p1 ||| (32 : Int32))), .val (.int (0 : Int32)), .unset, .unset, .unset] [])) _
      refine XS.iloadN X0.here hx rfl (hb hby own_d4_25) rfl ?_
      show Steps p.tables e below (s₁.setTop (mkF m 26 #[.val (.int p1), .val (.int p1), .val (.int (p1 ||| (32 : Int32))), .val (.int (0 : Int32)), .unset, .unset, .unset] [(.int p1)])) _
      refine XS.bipush X0.here hx rfl (hb hby own_d4_26) ?_
      show Steps p.tables e below (s₁.setTop (mkF m 28 #[.val (.int p1), .val (.int p1), .val (.int (p1 ||| (32 : Int32))), .val (.int (0 : Int32)), .unset, .unset, .unset] [(.int (48 : Int32)), (.int p1)])) _
      refine XS.isub X0.here hx rfl (hb hby own_d4_28) rfl ?_
      show Steps p.tables e below (s₁.setTop (mkF m 29 #[.val (.int p1), .val (.int p1), .val (.int (p1 ||| (32 : Int32))), .val (.int (0 : Int32)), .unset, .unset, .unset] [(.int (p1 - (48 : Int32)))])) _
      refine XS.istore X0.here hx rfl (hb hby own_d4_29) rfl (l' := #[.val (.int p1), .val (.int p1), .val (.int (p1 ||| (32 : Int32))), .val (.int (0 : Int32)), .val (.int (p1 - (48 : Int32))), .unset, .unset]) rfl ?_
      show Steps p.tables e below (s₁.setTop (mkF m 31 #[.val (.int p1), .val (.int p1), .val (.int (p1 ||| (32 : Int32))), .val (.int (0 : Int32)), .val (.int (p1 - (48 : Int32))), .unset, .unset] [])) _
      refine XS.iload X0.here hx rfl (hb hby own_d4_31) rfl ?_
      exact kt
    by_cases hc2 : (p1 - (48 : Int32)) < (0 : Int32)
    ·
      have k3 : ∀ t, Steps p.tables e below (s₁.setTop (mkF m 53 #[.val (.int p1), .val (.int p1), .val (.int (p1 ||| (32 : Int32))), .val (.int (0 : Int32)), .val (.int (p1 - (48 : Int32))), .val (.int (0 : Int32)), .unset] [(.int (95 : Int32)), (.int p1)])) t → Steps p.tables e below (s₁.setTop (entryFrame m #[(.int p1)] 7)) t := by
        intro t kt
        refine k2 t ?_
        show Steps p.tables e below (s₁.setTop (mkF m 33 #[.val (.int p1), .val (.int p1), .val (.int (p1 ||| (32 : Int32))), .val (.int (0 : Int32)), .val (.int (p1 - (48 : Int32))), .unset, .unset] [(.int (p1 - (48 : Int32)))])) _
        refine XS.ifYes X0.here hx rfl (pc0 := 33) (pc' := 47) rfl (hb hby own_d4_33) rfl ((if0 _ _).trans (tlt hc2).1) (by decide) (by decide) ?_
        show Steps p.tables e below (s₁.setTop (mkF m 47 #[.val (.int p1), .val (.int p1), .val (.int (p1 ||| (32 : Int32))), .val (.int (0 : Int32)), .val (.int (p1 - (48 : Int32))), .unset, .unset] [])) _
        refine XS.iconst X0.here hx rfl (hb hby own_d4_47) ?_
        show Steps p.tables e below (s₁.setTop (mkF m 48 #[.val (.int p1), .val (.int p1), .val (.int (p1 ||| (32 : Int32))), .val (.int (0 : Int32)), .val (.int (p1 - (48 : Int32))), .unset, .unset] [(.int (0 : Int32))])) _
        refine XS.istore X0.here hx rfl (hb hby own_d4_48) rfl (l' := #[.val (.int p1), .val (.int p1), .val (.int (p1 ||| (32 : Int32))), .val (.int (0 : Int32)), .val (.int (p1 - (48 : Int32))), .val (.int (0 : Int32)), .unset]) rfl ?_
        show Steps p.tables e below (s₁.setTop (mkF m 50 #[.val (.int p1), .val (.int p1), .val (.int (p1 ||| (32 : Int32))), .val (.int (0 : Int32)), .val (.int (p1 - (48 : Int32))), .val (.int (0 : Int32)), .unset] [])) _
        refine XS.iloadN X0.here hx rfl (hb hby own_d4_50) rfl ?_
        show Steps p.tables e below (s₁.setTop (mkF m 51 #[.val (.int p1), .val (.int p1), .val (.int (p1 ||| (32 : Int32))), .val (.int (0 : Int32)), .val (.int (p1 - (48 : Int32))), .val (.int (0 : Int32)), .unset] [(.int p1)])) _
        refine XS.bipush X0.here hx rfl (hb hby own_d4_51) ?_
        exact kt
      by_cases hc3 : p1 = (95 : Int32)
      ·
        obtain ⟨fs, hr, hrun, hended, hW, hsame⟩ := X0.leave (v := some (.int (1 : Int32))) (fun h => by rw [Bd.returns] at h; cases h)
        refine ⟨_, _, k3 _ ?_, hrun, hended, _, _, rfl, ?_, ⟨_, rfl⟩, hW, hsame.mono (by decide) (by decide)⟩
        · show Steps p.tables e below (s₁.setTop (mkF m 53 #[.val (.int p1), .val (.int p1), .val (.int (p1 ||| (32 : Int32))), .val (.int (0 : Int32)), .val (.int (p1 - (48 : Int32))), .val (.int (0 : Int32)), .unset] [(.int (95 : Int32)), (.int p1)])) _
          refine XS.icmpNo X0.here hx rfl (hb hby own_d4_53) rfl (teq hc3).2 ?_
          show Steps p.tables e below (s₁.setTop (mkF m 56 #[.val (.int p1), .val (.int p1), .val (.int (p1 ||| (32 : Int32))), .val (.int (0 : Int32)), .val (.int (p1 - (48 : Int32))), .val (.int (0 : Int32)), .unset] [])) _
          refine XS.iconst X0.here hx rfl (hb hby own_d4_56) ?_
          show Steps p.tables e below (s₁.setTop (mkF m 57 #[.val (.int p1), .val (.int p1), .val (.int (p1 ||| (32 : Int32))), .val (.int (0 : Int32)), .val (.int (p1 - (48 : Int32))), .val (.int (0 : Int32)), .unset] [(.int (1 : Int32))])) _
          refine XS.goto X0.here hx rfl (pc0 := 57) (pc' := 61) rfl (hb hby own_d4_57) (by decide) (by decide) ?_
          show Steps p.tables e below (s₁.setTop (mkF m 61 #[.val (.int p1), .val (.int p1), .val (.int (p1 ||| (32 : Int32))), .val (.int (0 : Int32)), .val (.int (p1 - (48 : Int32))), .val (.int (0 : Int32)), .unset] [(.int (1 : Int32))])) _
          refine XS.istore X0.here hx rfl (hb hby own_d4_61) rfl (l' := #[.val (.int p1), .val (.int p1), .val (.int (p1 ||| (32 : Int32))), .val (.int (0 : Int32)), .val (.int (p1 - (48 : Int32))), .val (.int (0 : Int32)), .val (.int (1 : Int32))]) rfl ?_
          show Steps p.tables e below (s₁.setTop (mkF m 63 #[.val (.int p1), .val (.int p1), .val (.int (p1 ||| (32 : Int32))), .val (.int (0 : Int32)), .val (.int (p1 - (48 : Int32))), .val (.int (0 : Int32)), .val (.int (1 : Int32))] [])) _
          refine XS.iloadN X0.here hx rfl (hb hby own_d4_63) rfl ?_
          show Steps p.tables e below (s₁.setTop (mkF m 64 #[.val (.int p1), .val (.int p1), .val (.int (p1 ||| (32 : Int32))), .val (.int (0 : Int32)), .val (.int (p1 - (48 : Int32))), .val (.int (0 : Int32)), .val (.int (1 : Int32))] [(.int (0 : Int32))])) _
          refine XS.ifNo X0.here hx rfl (hb hby own_d4_64) rfl ((if0 _ _).trans (teq (by decide : (0 : Int32) = (0 : Int32))).2) ?_
          show Steps p.tables e below (s₁.setTop (mkF m 67 #[.val (.int p1), .val (.int p1), .val (.int (p1 ||| (32 : Int32))), .val (.int (0 : Int32)), .val (.int (p1 - (48 : Int32))), .val (.int (0 : Int32)), .val (.int (1 : Int32))] [])) _
          refine XS.iload X0.here hx rfl (hb hby own_d4_67) rfl ?_
          show Steps p.tables e below (s₁.setTop (mkF m 69 #[.val (.int p1), .val (.int p1), .val (.int (p1 ||| (32 : Int32))), .val (.int (0 : Int32)), .val (.int (p1 - (48 : Int32))), .val (.int (0 : Int32)), .val (.int (1 : Int32))] [(.int (0 : Int32))])) _
          refine XS.ifNo X0.here hx rfl (hb hby own_d4_69) rfl ((if0 _ _).trans (teq (by decide : (0 : Int32) = (0 : Int32))).2) ?_
          show Steps p.tables e below (s₁.setTop (mkF m 72 #[.val (.int p1), .val (.int p1), .val (.int (p1 ||| (32 : Int32))), .val (.int (0 : Int32)), .val (.int (p1 - (48 : Int32))), .val (.int (0 : Int32)), .val (.int (1 : Int32))] [])) _
          refine XS.iload X0.here hx rfl (hb hby own_d4_72) rfl ?_
          show Steps p.tables e below (s₁.setTop (mkF m 74 #[.val (.int p1), .val (.int p1), .val (.int (p1 ||| (32 : Int32))), .val (.int (0 : Int32)), .val (.int (p1 - (48 : Int32))), .val (.int (0 : Int32)), .val (.int (1 : Int32))] [(.int (1 : Int32))])) _
          refine XS.ifNo X0.here hx rfl (hb hby own_d4_74) rfl ((if0 _ _).trans (feq (by decide : ¬ ((1 : Int32) = (0 : Int32)))).1) ?_
          show Steps p.tables e below (s₁.setTop (mkF m 77 #[.val (.int p1), .val (.int p1), .val (.int (p1 ||| (32 : Int32))), .val (.int (0 : Int32)), .val (.int (p1 - (48 : Int32))), .val (.int (0 : Int32)), .val (.int (1 : Int32))] [])) _
          refine XS.iconst X0.here hx rfl (hb hby own_d4_77) ?_
          show Steps p.tables e below (s₁.setTop (mkF m 78 #[.val (.int p1), .val (.int p1), .val (.int (p1 ||| (32 : Int32))), .val (.int (0 : Int32)), .val (.int (p1 - (48 : Int32))), .val (.int (0 : Int32)), .val (.int (1 : Int32))] [(.int (1 : Int32))])) _
          refine XS.goto X0.here hx rfl (pc0 := 78) (pc' := 82) rfl (hb hby own_d4_78) (by decide) (by decide) ?_
          show Steps p.tables e below (s₁.setTop (mkF m 82 #[.val (.int p1), .val (.int p1), .val (.int (p1 ||| (32 : Int32))), .val (.int (0 : Int32)), .val (.int (p1 - (48 : Int32))), .val (.int (0 : Int32)), .val (.int (1 : Int32))] [(.int (1 : Int32))])) _
          exact retN X0 hx (t := .boolean) Bd.returns (by simp) (hb hby own_d4_82) hr
        · show own_Q4 Z p1 h0 n0 _ s₁.heap _
          rw [e0]
          exact ⟨(by rw [own_f4, if_pos hc1, if_pos hc2, if_pos hc3]), N0, rfl⟩
      ·
        obtain ⟨fs, hr, hrun, hended, hW, hsame⟩ := X0.leave (v := some (.int (0 : Int32))) (fun h => by rw [Bd.returns] at h; cases h)
        refine ⟨_, _, k3 _ ?_, hrun, hended, _, _, rfl, ?_, ⟨_, rfl⟩, hW, hsame.mono (by decide) (by decide)⟩
        · show Steps p.tables e below (s₁.setTop (mkF m 53 #[.val (.int p1), .val (.int p1), .val (.int (p1 ||| (32 : Int32))), .val (.int (0 : Int32)), .val (.int (p1 - (48 : Int32))), .val (.int (0 : Int32)), .unset] [(.int (95 : Int32)), (.int p1)])) _
          refine XS.icmpYes X0.here hx rfl (pc0 := 53) (pc' := 60) rfl (hb hby own_d4_53) rfl (feq hc3).2 (by decide) (by decide) ?_
          show Steps p.tables e below (s₁.setTop (mkF m 60 #[.val (.int p1), .val (.int p1), .val (.int (p1 ||| (32 : Int32))), .val (.int (0 : Int32)), .val (.int (p1 - (48 : Int32))), .val (.int (0 : Int32)), .unset] [])) _
          refine XS.iconst X0.here hx rfl (hb hby own_d4_60) ?_
          show Steps p.tables e below (s₁.setTop (mkF m 61 #[.val (.int p1), .val (.int p1), .val (.int (p1 ||| (32 : Int32))), .val (.int (0 : Int32)), .val (.int (p1 - (48 : Int32))), .val (.int (0 : Int32)), .unset] [(.int (0 : Int32))])) _
          refine XS.istore X0.here hx rfl (hb hby own_d4_61) rfl (l' := #[.val (.int p1), .val (.int p1), .val (.int (p1 ||| (32 : Int32))), .val (.int (0 : Int32)), .val (.int (p1 - (48 : Int32))), .val (.int (0 : Int32)), .val (.int (0 : Int32))]) rfl ?_
          show Steps p.tables e below (s₁.setTop (mkF m 63 #[.val (.int p1), .val (.int p1), .val (.int (p1 ||| (32 : Int32))), .val (.int (0 : Int32)), .val (.int (p1 - (48 : Int32))), .val (.int (0 : Int32)), .val (.int (0 : Int32))] [])) _
          refine XS.iloadN X0.here hx rfl (hb hby own_d4_63) rfl ?_
          show Steps p.tables e below (s₁.setTop (mkF m 64 #[.val (.int p1), .val (.int p1), .val (.int (p1 ||| (32 : Int32))), .val (.int (0 : Int32)), .val (.int (p1 - (48 : Int32))), .val (.int (0 : Int32)), .val (.int (0 : Int32))] [(.int (0 : Int32))])) _
          refine XS.ifNo X0.here hx rfl (hb hby own_d4_64) rfl ((if0 _ _).trans (teq (by decide : (0 : Int32) = (0 : Int32))).2) ?_
          show Steps p.tables e below (s₁.setTop (mkF m 67 #[.val (.int p1), .val (.int p1), .val (.int (p1 ||| (32 : Int32))), .val (.int (0 : Int32)), .val (.int (p1 - (48 : Int32))), .val (.int (0 : Int32)), .val (.int (0 : Int32))] [])) _
          refine XS.iload X0.here hx rfl (hb hby own_d4_67) rfl ?_
          show Steps p.tables e below (s₁.setTop (mkF m 69 #[.val (.int p1), .val (.int p1), .val (.int (p1 ||| (32 : Int32))), .val (.int (0 : Int32)), .val (.int (p1 - (48 : Int32))), .val (.int (0 : Int32)), .val (.int (0 : Int32))] [(.int (0 : Int32))])) _
          refine XS.ifNo X0.here hx rfl (hb hby own_d4_69) rfl ((if0 _ _).trans (teq (by decide : (0 : Int32) = (0 : Int32))).2) ?_
          show Steps p.tables e below (s₁.setTop (mkF m 72 #[.val (.int p1), .val (.int p1), .val (.int (p1 ||| (32 : Int32))), .val (.int (0 : Int32)), .val (.int (p1 - (48 : Int32))), .val (.int (0 : Int32)), .val (.int (0 : Int32))] [])) _
          refine XS.iload X0.here hx rfl (hb hby own_d4_72) rfl ?_
          show Steps p.tables e below (s₁.setTop (mkF m 74 #[.val (.int p1), .val (.int p1), .val (.int (p1 ||| (32 : Int32))), .val (.int (0 : Int32)), .val (.int (p1 - (48 : Int32))), .val (.int (0 : Int32)), .val (.int (0 : Int32))] [(.int (0 : Int32))])) _
          refine XS.ifYes X0.here hx rfl (pc0 := 74) (pc' := 81) rfl (hb hby own_d4_74) rfl ((if0 _ _).trans (teq (by decide : (0 : Int32) = (0 : Int32))).1) (by decide) (by decide) ?_
          show Steps p.tables e below (s₁.setTop (mkF m 81 #[.val (.int p1), .val (.int p1), .val (.int (p1 ||| (32 : Int32))), .val (.int (0 : Int32)), .val (.int (p1 - (48 : Int32))), .val (.int (0 : Int32)), .val (.int (0 : Int32))] [])) _
          refine XS.iconst X0.here hx rfl (hb hby own_d4_81) ?_
          show Steps p.tables e below (s₁.setTop (mkF m 82 #[.val (.int p1), .val (.int p1), .val (.int (p1 ||| (32 : Int32))), .val (.int (0 : Int32)), .val (.int (p1 - (48 : Int32))), .val (.int (0 : Int32)), .val (.int (0 : Int32))] [(.int (0 : Int32))])) _
          exact retN X0 hx (t := .boolean) Bd.returns (by simp) (hb hby own_d4_82) hr
        · show own_Q4 Z p1 h0 n0 _ s₁.heap _
          rw [e0]
          exact ⟨(by rw [own_f4, if_pos hc1, if_pos hc2, if_neg hc3]), N0, rfl⟩
    ·
      have k4 : ∀ t, Steps p.tables e below (s₁.setTop (mkF m 40 #[.val (.int p1), .val (.int p1), .val (.int (p1 ||| (32 : Int32))), .val (.int (0 : Int32)), .val (.int (p1 - (48 : Int32))), .unset, .unset] [(.int (10 : Int32)), (.int (p1 - (48 : Int32)))])) t → Steps p.tables e below (s₁.setTop (entryFrame m #[(.int p1)] 7)) t := by
        intro t kt
        refine k2 t ?_
        show Steps p.tables e below (s₁.setTop (mkF m 33 #[.val (.int p1), .val (.int p1), .val (.int (p1 ||| (32 : Int32))), .val (.int (0 : Int32)), .val (.int (p1 - (48 : Int32))), .unset, .unset] [(.int (p1 - (48 : Int32)))])) _
        refine XS.ifNo X0.here hx rfl (hb hby own_d4_33) rfl ((if0 _ _).trans (flt hc2).1) ?_
        show Steps p.tables e below (s₁.setTop (mkF m 36 #[.val (.int p1), .val (.int p1), .val (.int (p1 ||| (32 : Int32))), .val (.int (0 : Int32)), .val (.int (p1 - (48 : Int32))), .unset, .unset] [])) _
        refine XS.iload X0.here hx rfl (hb hby own_d4_36) rfl ?_
        show Steps p.tables e below (s₁.setTop (mkF m 38 #[.val (.int p1), .val (.int p1), .val (.int (p1 ||| (32 : Int32))), .val (.int (0 : Int32)), .val (.int (p1 - (48 : Int32))), .unset, .unset] [(.int (p1 - (48 : Int32)))])) _
        refine XS.bipush X0.here hx rfl (hb hby own_d4_38) ?_
        exact kt
      by_cases hc4 : (p1 - (48 : Int32)) < (10 : Int32)
      ·
        have k5 : ∀ t, Steps p.tables e below (s₁.setTop (mkF m 53 #[.val (.int p1), .val (.int p1), .val (.int (p1 ||| (32 : Int32))), .val (.int (0 : Int32)), .val (.int (p1 - (48 : Int32))), .val (.int (1 : Int32)), .unset] [(.int (95 : Int32)), (.int p1)])) t → Steps p.tables e below (s₁.setTop (entryFrame m #[(.int p1)] 7)) t := by
          intro t kt
          refine k4 t ?_
          show Steps p.tables e below (s₁.setTop (mkF m 40 #[.val (.int p1), .val (.int p1), .val (.int (p1 ||| (32 : Int32))), .val (.int (0 : Int32)), .val (.int (p1 - (48 : Int32))), .unset, .unset] [(.int (10 : Int32)), (.int (p1 - (48 : Int32)))])) _
          refine XS.icmpNo X0.here hx rfl (hb hby own_d4_40) rfl (tlt hc4).2.1 ?_
          show Steps p.tables e below (s₁.setTop (mkF m 43 #[.val (.int p1), .val (.int p1), .val (.int (p1 ||| (32 : Int32))), .val (.int (0 : Int32)), .val (.int (p1 - (48 : Int32))), .unset, .unset] [])) _
          refine XS.iconst X0.here hx rfl (hb hby own_d4_43) ?_
          show Steps p.tables e below (s₁.setTop (mkF m 44 #[.val (.int p1), .val (.int p1), .val (.int (p1 ||| (32 : Int32))), .val (.int (0 : Int32)), .val (.int (p1 - (48 : Int32))), .unset, .unset] [(.int (1 : Int32))])) _
          refine XS.goto X0.here hx rfl (pc0 := 44) (pc' := 48) rfl (hb hby own_d4_44) (by decide) (by decide) ?_
          show Steps p.tables e below (s₁.setTop (mkF m 48 #[.val (.int p1), .val (.int p1), .val (.int (p1 ||| (32 : Int32))), .val (.int (0 : Int32)), .val (.int (p1 - (48 : Int32))), .unset, .unset] [(.int (1 : Int32))])) _
          refine XS.istore X0.here hx rfl (hb hby own_d4_48) rfl (l' := #[.val (.int p1), .val (.int p1), .val (.int (p1 ||| (32 : Int32))), .val (.int (0 : Int32)), .val (.int (p1 - (48 : Int32))), .val (.int (1 : Int32)), .unset]) rfl ?_
          show Steps p.tables e below (s₁.setTop (mkF m 50 #[.val (.int p1), .val (.int p1), .val (.int (p1 ||| (32 : Int32))), .val (.int (0 : Int32)), .val (.int (p1 - (48 : Int32))), .val (.int (1 : Int32)), .unset] [])) _
          refine XS.iloadN X0.here hx rfl (hb hby own_d4_50) rfl ?_
          show Steps p.tables e below (s₁.setTop (mkF m 51 #[.val (.int p1), .val (.int p1), .val (.int (p1 ||| (32 : Int32))), .val (.int (0 : Int32)), .val (.int (p1 - (48 : Int32))), .val (.int (1 : Int32)), .unset] [(.int p1)])) _
          refine XS.bipush X0.here hx rfl (hb hby own_d4_51) ?_
          exact kt
        by_cases hc5 : p1 = (95 : Int32)
        ·
          obtain ⟨fs, hr, hrun, hended, hW, hsame⟩ := X0.leave (v := some (.int (1 : Int32))) (fun h => by rw [Bd.returns] at h; cases h)
          refine ⟨_, _, k5 _ ?_, hrun, hended, _, _, rfl, ?_, ⟨_, rfl⟩, hW, hsame.mono (by decide) (by decide)⟩
          · show Steps p.tables e below (s₁.setTop (mkF m 53 #[.val (.int p1), .val (.int p1), .val (.int (p1 ||| (32 : Int32))), .val (.int (0 : Int32)), .val (.int (p1 - (48 : Int32))), .val (.int (1 : Int32)), .unset] [(.int (95 : Int32)), (.int p1)])) _
            refine XS.icmpNo X0.here hx rfl (hb hby own_d4_53) rfl (teq hc5).2 ?_
            show Steps p.tables e below (s₁.setTop (mkF m 56 #[.val (.int p1), .val (.int p1), .val (.int (p1 ||| (32 : Int32))), .val (.int (0 : Int32)), .val (.int (p1 - (48 : Int32))), .val (.int (1 : Int32)), .unset] [])) _
            refine XS.iconst X0.here hx rfl (hb hby own_d4_56) ?_
            show Steps p.tables e below (s₁.setTop (mkF m 57 #[.val (.int p1), .val (.int p1), .val (.int (p1 ||| (32 : Int32))), .val (.int (0 : Int32)), .val (.int (p1 - (48 : Int32))), .val (.int (1 : Int32)), .unset] [(.int (1 : Int32))])) _
            refine XS.goto X0.here hx rfl (pc0 := 57) (pc' := 61) rfl (hb hby own_d4_57) (by decide) (by decide) ?_
            show Steps p.tables e below (s₁.setTop (mkF m 61 #[.val (.int p1), .val (.int p1), .val (.int (p1 ||| (32 : Int32))), .val (.int (0 : Int32)), .val (.int (p1 - (48 : Int32))), .val (.int (1 : Int32)), .unset] [(.int (1 : Int32))])) _
            refine XS.istore X0.here hx rfl (hb hby own_d4_61) rfl (l' := #[.val (.int p1), .val (.int p1), .val (.int (p1 ||| (32 : Int32))), .val (.int (0 : Int32)), .val (.int (p1 - (48 : Int32))), .val (.int (1 : Int32)), .val (.int (1 : Int32))]) rfl ?_
            show Steps p.tables e below (s₁.setTop (mkF m 63 #[.val (.int p1), .val (.int p1), .val (.int (p1 ||| (32 : Int32))), .val (.int (0 : Int32)), .val (.int (p1 - (48 : Int32))), .val (.int (1 : Int32)), .val (.int (1 : Int32))] [])) _
            refine XS.iloadN X0.here hx rfl (hb hby own_d4_63) rfl ?_
            show Steps p.tables e below (s₁.setTop (mkF m 64 #[.val (.int p1), .val (.int p1), .val (.int (p1 ||| (32 : Int32))), .val (.int (0 : Int32)), .val (.int (p1 - (48 : Int32))), .val (.int (1 : Int32)), .val (.int (1 : Int32))] [(.int (0 : Int32))])) _
            refine XS.ifNo X0.here hx rfl (hb hby own_d4_64) rfl ((if0 _ _).trans (teq (by decide : (0 : Int32) = (0 : Int32))).2) ?_
            show Steps p.tables e below (s₁.setTop (mkF m 67 #[.val (.int p1), .val (.int p1), .val (.int (p1 ||| (32 : Int32))), .val (.int (0 : Int32)), .val (.int (p1 - (48 : Int32))), .val (.int (1 : Int32)), .val (.int (1 : Int32))] [])) _
            refine XS.iload X0.here hx rfl (hb hby own_d4_67) rfl ?_
            show Steps p.tables e below (s₁.setTop (mkF m 69 #[.val (.int p1), .val (.int p1), .val (.int (p1 ||| (32 : Int32))), .val (.int (0 : Int32)), .val (.int (p1 - (48 : Int32))), .val (.int (1 : Int32)), .val (.int (1 : Int32))] [(.int (1 : Int32))])) _
            refine XS.ifYes X0.here hx rfl (pc0 := 69) (pc' := 77) rfl (hb hby own_d4_69) rfl ((if0 _ _).trans (feq (by decide : ¬ ((1 : Int32) = (0 : Int32)))).2) (by decide) (by decide) ?_
            show Steps p.tables e below (s₁.setTop (mkF m 77 #[.val (.int p1), .val (.int p1), .val (.int (p1 ||| (32 : Int32))), .val (.int (0 : Int32)), .val (.int (p1 - (48 : Int32))), .val (.int (1 : Int32)), .val (.int (1 : Int32))] [])) _
            refine XS.iconst X0.here hx rfl (hb hby own_d4_77) ?_
            show Steps p.tables e below (s₁.setTop (mkF m 78 #[.val (.int p1), .val (.int p1), .val (.int (p1 ||| (32 : Int32))), .val (.int (0 : Int32)), .val (.int (p1 - (48 : Int32))), .val (.int (1 : Int32)), .val (.int (1 : Int32))] [(.int (1 : Int32))])) _
            refine XS.goto X0.here hx rfl (pc0 := 78) (pc' := 82) rfl (hb hby own_d4_78) (by decide) (by decide) ?_
            show Steps p.tables e below (s₁.setTop (mkF m 82 #[.val (.int p1), .val (.int p1), .val (.int (p1 ||| (32 : Int32))), .val (.int (0 : Int32)), .val (.int (p1 - (48 : Int32))), .val (.int (1 : Int32)), .val (.int (1 : Int32))] [(.int (1 : Int32))])) _
            exact retN X0 hx (t := .boolean) Bd.returns (by simp) (hb hby own_d4_82) hr
          · show own_Q4 Z p1 h0 n0 _ s₁.heap _
            rw [e0]
            exact ⟨(by rw [own_f4, if_pos hc1, if_neg hc2, if_pos hc4, if_pos hc5]), N0, rfl⟩
        ·
          obtain ⟨fs, hr, hrun, hended, hW, hsame⟩ := X0.leave (v := some (.int (1 : Int32))) (fun h => by rw [Bd.returns] at h; cases h)
          refine ⟨_, _, k5 _ ?_, hrun, hended, _, _, rfl, ?_, ⟨_, rfl⟩, hW, hsame.mono (by decide) (by decide)⟩
          · show Steps p.tables e below (s₁.setTop (mkF m 53 #[.val (.int p1), .val (.int p1), .val (.int (p1 ||| (32 : Int32))), .val (.int (0 : Int32)), .val (.int (p1 - (48 : Int32))), .val (.int (1 : Int32)), .unset] [(.int (95 : Int32)), (.int p1)])) _
            refine XS.icmpYes X0.here hx rfl (pc0 := 53) (pc' := 60) rfl (hb hby own_d4_53) rfl (feq hc5).2 (by decide) (by decide) ?_
            show Steps p.tables e below (s₁.setTop (mkF m 60 #[.val (.int p1), .val (.int p1), .val (.int (p1 ||| (32 : Int32))), .val (.int (0 : Int32)), .val (.int (p1 - (48 : Int32))), .val (.int (1 : Int32)), .unset] [])) _
            refine XS.iconst X0.here hx rfl (hb hby own_d4_60) ?_
            show Steps p.tables e below (s₁.setTop (mkF m 61 #[.val (.int p1), .val (.int p1), .val (.int (p1 ||| (32 : Int32))), .val (.int (0 : Int32)), .val (.int (p1 - (48 : Int32))), .val (.int (1 : Int32)), .unset] [(.int (0 : Int32))])) _
            refine XS.istore X0.here hx rfl (hb hby own_d4_61) rfl (l' := #[.val (.int p1), .val (.int p1), .val (.int (p1 ||| (32 : Int32))), .val (.int (0 : Int32)), .val (.int (p1 - (48 : Int32))), .val (.int (1 : Int32)), .val (.int (0 : Int32))]) rfl ?_
            show Steps p.tables e below (s₁.setTop (mkF m 63 #[.val (.int p1), .val (.int p1), .val (.int (p1 ||| (32 : Int32))), .val (.int (0 : Int32)), .val (.int (p1 - (48 : Int32))), .val (.int (1 : Int32)), .val (.int (0 : Int32))] [])) _
            refine XS.iloadN X0.here hx rfl (hb hby own_d4_63) rfl ?_
            show Steps p.tables e below (s₁.setTop (mkF m 64 #[.val (.int p1), .val (.int p1), .val (.int (p1 ||| (32 : Int32))), .val (.int (0 : Int32)), .val (.int (p1 - (48 : Int32))), .val (.int (1 : Int32)), .val (.int (0 : Int32))] [(.int (0 : Int32))])) _
            refine XS.ifNo X0.here hx rfl (hb hby own_d4_64) rfl ((if0 _ _).trans (teq (by decide : (0 : Int32) = (0 : Int32))).2) ?_
            show Steps p.tables e below (s₁.setTop (mkF m 67 #[.val (.int p1), .val (.int p1), .val (.int (p1 ||| (32 : Int32))), .val (.int (0 : Int32)), .val (.int (p1 - (48 : Int32))), .val (.int (1 : Int32)), .val (.int (0 : Int32))] [])) _
            refine XS.iload X0.here hx rfl (hb hby own_d4_67) rfl ?_
            show Steps p.tables e below (s₁.setTop (mkF m 69 #[.val (.int p1), .val (.int p1), .val (.int (p1 ||| (32 : Int32))), .val (.int (0 : Int32)), .val (.int (p1 - (48 : Int32))), .val (.int (1 : Int32)), .val (.int (0 : Int32))] [(.int (1 : Int32))])) _
            refine XS.ifYes X0.here hx rfl (pc0 := 69) (pc' := 77) rfl (hb hby own_d4_69) rfl ((if0 _ _).trans (feq (by decide : ¬ ((1 : Int32) = (0 : Int32)))).2) (by decide) (by decide) ?_
            show Steps p.tables e below (s₁.setTop (mkF m 77 #[.val (.int p1), .val (.int p1), .val (.int (p1 ||| (32 : Int32))), .val (.int (0 : Int32)), .val (.int (p1 - (48 : Int32))), .val (.int (1 : Int32)), .val (.int (0 : Int32))] [])) _
            refine XS.iconst X0.here hx rfl (hb hby own_d4_77) ?_
            show Steps p.tables e below (s₁.setTop (mkF m 78 #[.val (.int p1), .val (.int p1), .val (.int (p1 ||| (32 : Int32))), .val (.int (0 : Int32)), .val (.int (p1 - (48 : Int32))), .val (.int (1 : Int32)), .val (.int (0 : Int32))] [(.int (1 : Int32))])) _
            refine XS.goto X0.here hx rfl (pc0 := 78) (pc' := 82) rfl (hb hby own_d4_78) (by decide) (by decide) ?_
            show Steps p.tables e below (s₁.setTop (mkF m 82 #[.val (.int p1), .val (.int p1), .val (.int (p1 ||| (32 : Int32))), .val (.int (0 : Int32)), .val (.int (p1 - (48 : Int32))), .val (.int (1 : Int32)), .val (.int (0 : Int32))] [(.int (1 : Int32))])) _
            exact retN X0 hx (t := .boolean) Bd.returns (by simp) (hb hby own_d4_82) hr
          · show own_Q4 Z p1 h0 n0 _ s₁.heap _
            rw [e0]
            exact ⟨(by rw [own_f4, if_pos hc1, if_neg hc2, if_pos hc4, if_neg hc5]), N0, rfl⟩
      ·
        have k6 : ∀ t, Steps p.tables e below (s₁.setTop (mkF m 53 #[.val (.int p1), .val (.int p1), .val (.int (p1 ||| (32 : Int32))), .val (.int (0 : Int32)), .val (.int (p1 - (48 : Int32))), .val (.int (0 : Int32)), .unset] [(.int (95 : Int32)), (.int p1)])) t → Steps p.tables e below (s₁.setTop (entryFrame m #[(.int p1)] 7)) t := by
          intro t kt
          refine k4 t ?_
          show Steps p.tables e below (s₁.setTop (mkF m 40 #[.val (.int p1), .val (.int p1), .val (.int (p1 ||| (32 : Int32))), .val (.int (0 : Int32)), .val (.int (p1 - (48 : Int32))), .unset, .unset] [(.int (10 : Int32)), (.int (p1 - (48 : Int32)))])) _
          refine XS.icmpYes X0.here hx rfl (pc0 := 40) (pc' := 47) rfl (hb hby own_d4_40) rfl (flt hc4).2.1 (by decide) (by decide) ?_
          show Steps p.tables e below (s₁.setTop (mkF m 47 #[.val (.int p1), .val (.int p1), .val (.int (p1 ||| (32 : Int32))), .val (.int (0 : Int32)), .val (.int (p1 - (48 : Int32))), .unset, .unset] [])) _
          refine XS.iconst X0.here hx rfl (hb hby own_d4_47) ?_
          show Steps p.tables e below (s₁.setTop (mkF m 48 #[.val (.int p1), .val (.int p1), .val (.int (p1 ||| (32 : Int32))), .val (.int (0 : Int32)), .val (.int (p1 - (48 : Int32))), .unset, .unset] [(.int (0 : Int32))])) _
          refine XS.istore X0.here hx rfl (hb hby own_d4_48) rfl (l' := #[.val (.int p1), .val (.int p1), .val (.int (p1 ||| (32 : Int32))), .val (.int (0 : Int32)), .val (.int (p1 - (48 : Int32))), .val (.int (0 : Int32)), .unset]) rfl ?_
          show Steps p.tables e below (s₁.setTop (mkF m 50 #[.val (.int p1), .val (.int p1), .val (.int (p1 ||| (32 : Int32))), .val (.int (0 : Int32)), .val (.int (p1 - (48 : Int32))), .val (.int (0 : Int32)), .unset] [])) _
          refine XS.iloadN X0.here hx rfl (hb hby own_d4_50) rfl ?_
          show Steps p.tables e below (s₁.setTop (mkF m 51 #[.val (.int p1), .val (.int p1), .val (.int (p1 ||| (32 : Int32))), .val (.int (0 : Int32)), .val (.int (p1 - (48 : Int32))), .val (.int (0 : Int32)), .unset] [(.int p1)])) _
          refine XS.bipush X0.here hx rfl (hb hby own_d4_51) ?_
          exact kt
        by_cases hc6 : p1 = (95 : Int32)
        ·
          obtain ⟨fs, hr, hrun, hended, hW, hsame⟩ := X0.leave (v := some (.int (1 : Int32))) (fun h => by rw [Bd.returns] at h; cases h)
          refine ⟨_, _, k6 _ ?_, hrun, hended, _, _, rfl, ?_, ⟨_, rfl⟩, hW, hsame.mono (by decide) (by decide)⟩
          · show Steps p.tables e below (s₁.setTop (mkF m 53 #[.val (.int p1), .val (.int p1), .val (.int (p1 ||| (32 : Int32))), .val (.int (0 : Int32)), .val (.int (p1 - (48 : Int32))), .val (.int (0 : Int32)), .unset] [(.int (95 : Int32)), (.int p1)])) _
            refine XS.icmpNo X0.here hx rfl (hb hby own_d4_53) rfl (teq hc6).2 ?_
            show Steps p.tables e below (s₁.setTop (mkF m 56 #[.val (.int p1), .val (.int p1), .val (.int (p1 ||| (32 : Int32))), .val (.int (0 : Int32)), .val (.int (p1 - (48 : Int32))), .val (.int (0 : Int32)), .unset] [])) _
            refine XS.iconst X0.here hx rfl (hb hby own_d4_56) ?_
            show Steps p.tables e below (s₁.setTop (mkF m 57 #[.val (.int p1), .val (.int p1), .val (.int (p1 ||| (32 : Int32))), .val (.int (0 : Int32)), .val (.int (p1 - (48 : Int32))), .val (.int (0 : Int32)), .unset] [(.int (1 : Int32))])) _
            refine XS.goto X0.here hx rfl (pc0 := 57) (pc' := 61) rfl (hb hby own_d4_57) (by decide) (by decide) ?_
            show Steps p.tables e below (s₁.setTop (mkF m 61 #[.val (.int p1), .val (.int p1), .val (.int (p1 ||| (32 : Int32))), .val (.int (0 : Int32)), .val (.int (p1 - (48 : Int32))), .val (.int (0 : Int32)), .unset] [(.int (1 : Int32))])) _
            refine XS.istore X0.here hx rfl (hb hby own_d4_61) rfl (l' := #[.val (.int p1), .val (.int p1), .val (.int (p1 ||| (32 : Int32))), .val (.int (0 : Int32)), .val (.int (p1 - (48 : Int32))), .val (.int (0 : Int32)), .val (.int (1 : Int32))]) rfl ?_
            show Steps p.tables e below (s₁.setTop (mkF m 63 #[.val (.int p1), .val (.int p1), .val (.int (p1 ||| (32 : Int32))), .val (.int (0 : Int32)), .val (.int (p1 - (48 : Int32))), .val (.int (0 : Int32)), .val (.int (1 : Int32))] [])) _
            refine XS.iloadN X0.here hx rfl (hb hby own_d4_63) rfl ?_
            show Steps p.tables e below (s₁.setTop (mkF m 64 #[.val (.int p1), .val (.int p1), .val (.int (p1 ||| (32 : Int32))), .val (.int (0 : Int32)), .val (.int (p1 - (48 : Int32))), .val (.int (0 : Int32)), .val (.int (1 : Int32))] [(.int (0 : Int32))])) _
            refine XS.ifNo X0.here hx rfl (hb hby own_d4_64) rfl ((if0 _ _).trans (teq (by decide : (0 : Int32) = (0 : Int32))).2) ?_
            show Steps p.tables e below (s₁.setTop (mkF m 67 #[.val (.int p1), .val (.int p1), .val (.int (p1 ||| (32 : Int32))), .val (.int (0 : Int32)), .val (.int (p1 - (48 : Int32))), .val (.int (0 : Int32)), .val (.int (1 : Int32))] [])) _
            refine XS.iload X0.here hx rfl (hb hby own_d4_67) rfl ?_
            show Steps p.tables e below (s₁.setTop (mkF m 69 #[.val (.int p1), .val (.int p1), .val (.int (p1 ||| (32 : Int32))), .val (.int (0 : Int32)), .val (.int (p1 - (48 : Int32))), .val (.int (0 : Int32)), .val (.int (1 : Int32))] [(.int (0 : Int32))])) _
            refine XS.ifNo X0.here hx rfl (hb hby own_d4_69) rfl ((if0 _ _).trans (teq (by decide : (0 : Int32) = (0 : Int32))).2) ?_
            show Steps p.tables e below (s₁.setTop (mkF m 72 #[.val (.int p1), .val (.int p1), .val (.int (p1 ||| (32 : Int32))), .val (.int (0 : Int32)), .val (.int (p1 - (48 : Int32))), .val (.int (0 : Int32)), .val (.int (1 : Int32))] [])) _
            refine XS.iload X0.here hx rfl (hb hby own_d4_72) rfl ?_
            show Steps p.tables e below (s₁.setTop (mkF m 74 #[.val (.int p1), .val (.int p1), .val (.int (p1 ||| (32 : Int32))), .val (.int (0 : Int32)), .val (.int (p1 - (48 : Int32))), .val (.int (0 : Int32)), .val (.int (1 : Int32))] [(.int (1 : Int32))])) _
            refine XS.ifNo X0.here hx rfl (hb hby own_d4_74) rfl ((if0 _ _).trans (feq (by decide : ¬ ((1 : Int32) = (0 : Int32)))).1) ?_
            show Steps p.tables e below (s₁.setTop (mkF m 77 #[.val (.int p1), .val (.int p1), .val (.int (p1 ||| (32 : Int32))), .val (.int (0 : Int32)), .val (.int (p1 - (48 : Int32))), .val (.int (0 : Int32)), .val (.int (1 : Int32))] [])) _
            refine XS.iconst X0.here hx rfl (hb hby own_d4_77) ?_
            show Steps p.tables e below (s₁.setTop (mkF m 78 #[.val (.int p1), .val (.int p1), .val (.int (p1 ||| (32 : Int32))), .val (.int (0 : Int32)), .val (.int (p1 - (48 : Int32))), .val (.int (0 : Int32)), .val (.int (1 : Int32))] [(.int (1 : Int32))])) _
            refine XS.goto X0.here hx rfl (pc0 := 78) (pc' := 82) rfl (hb hby own_d4_78) (by decide) (by decide) ?_
            show Steps p.tables e below (s₁.setTop (mkF m 82 #[.val (.int p1), .val (.int p1), .val (.int (p1 ||| (32 : Int32))), .val (.int (0 : Int32)), .val (.int (p1 - (48 : Int32))), .val (.int (0 : Int32)), .val (.int (1 : Int32))] [(.int (1 : Int32))])) _
            exact retN X0 hx (t := .boolean) Bd.returns (by simp) (hb hby own_d4_82) hr
          · show own_Q4 Z p1 h0 n0 _ s₁.heap _
            rw [e0]
            exact ⟨(by rw [own_f4, if_pos hc1, if_neg hc2, if_neg hc4, if_pos hc6]), N0, rfl⟩
        ·
          obtain ⟨fs, hr, hrun, hended, hW, hsame⟩ := X0.leave (v := some (.int (0 : Int32))) (fun h => by rw [Bd.returns] at h; cases h)
          refine ⟨_, _, k6 _ ?_, hrun, hended, _, _, rfl, ?_, ⟨_, rfl⟩, hW, hsame.mono (by decide) (by decide)⟩
          · show Steps p.tables e below (s₁.setTop (mkF m 53 #[.val (.int p1), .val (.int p1), .val (.int (p1 ||| (32 : Int32))), .val (.int (0 : Int32)), .val (.int (p1 - (48 : Int32))), .val (.int (0 : Int32)), .unset] [(.int (95 : Int32)), (.int p1)])) _
            refine XS.icmpYes X0.here hx rfl (pc0 := 53) (pc' := 60) rfl (hb hby own_d4_53) rfl (feq hc6).2 (by decide) (by decide) ?_
            show Steps p.tables e below (s₁.setTop (mkF m 60 #[.val (.int p1), .val (.int p1), .val (.int (p1 ||| (32 : Int32))), .val (.int (0 : Int32)), .val (.int (p1 - (48 : Int32))), .val (.int (0 : Int32)), .unset] [])) _
            refine XS.iconst X0.here hx rfl (hb hby own_d4_60) ?_
            show Steps p.tables e below (s₁.setTop (mkF m 61 #[.val (.int p1), .val (.int p1), .val (.int (p1 ||| (32 : Int32))), .val (.int (0 : Int32)), .val (.int (p1 - (48 : Int32))), .val (.int (0 : Int32)), .unset] [(.int (0 : Int32))])) _
            refine XS.istore X0.here hx rfl (hb hby own_d4_61) rfl (l' := #[.val (.int p1), .val (.int p1), .val (.int (p1 ||| (32 : Int32))), .val (.int (0 : Int32)), .val (.int (p1 - (48 : Int32))), .val (.int (0 : Int32)), .val (.int (0 : Int32))]) rfl ?_
            show Steps p.tables e below (s₁.setTop (mkF m 63 #[.val (.int p1), .val (.int p1), .val (.int (p1 ||| (32 : Int32))), .val (.int (0 : Int32)), .val (.int (p1 - (48 : Int32))), .val (.int (0 : Int32)), .val (.int (0 : Int32))] [])) _
            refine XS.iloadN X0.here hx rfl (hb hby own_d4_63) rfl ?_
            show Steps p.tables e below (s₁.setTop (mkF m 64 #[.val (.int p1), .val (.int p1), .val (.int (p1 ||| (32 : Int32))), .val (.int (0 : Int32)), .val (.int (p1 - (48 : Int32))), .val (.int (0 : Int32)), .val (.int (0 : Int32))] [(.int (0 : Int32))])) _
            refine XS.ifNo X0.here hx rfl (hb hby own_d4_64) rfl ((if0 _ _).trans (teq (by decide : (0 : Int32) = (0 : Int32))).2) ?_
            show Steps p.tables e below (s₁.setTop (mkF m 67 #[.val (.int p1), .val (.int p1), .val (.int (p1 ||| (32 : Int32))), .val (.int (0 : Int32)), .val (.int (p1 - (48 : Int32))), .val (.int (0 : Int32)), .val (.int (0 : Int32))] [])) _
            refine XS.iload X0.here hx rfl (hb hby own_d4_67) rfl ?_
            show Steps p.tables e below (s₁.setTop (mkF m 69 #[.val (.int p1), .val (.int p1), .val (.int (p1 ||| (32 : Int32))), .val (.int (0 : Int32)), .val (.int (p1 - (48 : Int32))), .val (.int (0 : Int32)), .val (.int (0 : Int32))] [(.int (0 : Int32))])) _
            refine XS.ifNo X0.here hx rfl (hb hby own_d4_69) rfl ((if0 _ _).trans (teq (by decide : (0 : Int32) = (0 : Int32))).2) ?_
            show Steps p.tables e below (s₁.setTop (mkF m 72 #[.val (.int p1), .val (.int p1), .val (.int (p1 ||| (32 : Int32))), .val (.int (0 : Int32)), .val (.int (p1 - (48 : Int32))), .val (.int (0 : Int32)), .val (.int (0 : Int32))] [])) _
            refine XS.iload X0.here hx rfl (hb hby own_d4_72) rfl ?_
            show Steps p.tables e below (s₁.setTop (mkF m 74 #[.val (.int p1), .val (.int p1), .val (.int (p1 ||| (32 : Int32))), .val (.int (0 : Int32)), .val (.int (p1 - (48 : Int32))), .val (.int (0 : Int32)), .val (.int (0 : Int32))] [(.int (0 : Int32))])) _
            refine XS.ifYes X0.here hx rfl (pc0 := 74) (pc' := 81) rfl (hb hby own_d4_74) rfl ((if0 _ _).trans (teq (by decide : (0 : Int32) = (0 : Int32))).1) (by decide) (by decide) ?_
            show Steps p.tables e below (s₁.setTop (mkF m 81 #[.val (.int p1), .val (.int p1), .val (.int (p1 ||| (32 : Int32))), .val (.int (0 : Int32)), .val (.int (p1 - (48 : Int32))), .val (.int (0 : Int32)), .val (.int (0 : Int32))] [])) _
            refine XS.iconst X0.here hx rfl (hb hby own_d4_81) ?_
            show Steps p.tables e below (s₁.setTop (mkF m 82 #[.val (.int p1), .val (.int p1), .val (.int (p1 ||| (32 : Int32))), .val (.int (0 : Int32)), .val (.int (p1 - (48 : Int32))), .val (.int (0 : Int32)), .val (.int (0 : Int32))] [(.int (0 : Int32))])) _
            exact retN X0 hx (t := .boolean) Bd.returns (by simp) (hb hby own_d4_82) hr
          · show own_Q4 Z p1 h0 n0 _ s₁.heap _
            rw [e0]
            exact ⟨(by rw [own_f4, if_pos hc1, if_neg hc2, if_neg hc4, if_neg hc6]), N0, rfl⟩
  ·
    have k7 : ∀ t, Steps p.tables e below (s₁.setTop (mkF m 16 #[.val (.int p1), .val (.int p1), .val (.int (p1 ||| (32 : Int32))), .unset, .unset, .unset, .unset] [(.int (122 : Int32)), (.int (p1 ||| (32 : Int32)))])) t → Steps p.tables e below (s₁.setTop (entryFrame m #[(.int p1)] 7)) t := by
      intro t kt
      refine k1 t ?_
      show Steps p.tables e below (s₁.setTop (mkF m 10 #[.val (.int p1), .val (.int p1), .val (.int (p1 ||| (32 : Int32))), .unset, .unset, .unset, .unset] [(.int (97 : Int32)), (.int (p1 ||| (32 : Int32)))])) _
      refine XS.icmpNo X0.here hx rfl (hb hby own_d4_10) rfl (flt hc1).1 ?_
      show Steps p.tables e below (s₁.setTop (mkF m 13 #[.val (.int p1), .val (.int p1), .val (.int (p1 ||| (32 : Int32))), .unset, .unset, .unset, .unset] [])) _
      refine XS.iloadN X0.here hx rfl (hb hby own_d4_13) rfl ?_
      show Steps p.tables e below (s₁.setTop (mkF m 14 #[.val (.int p1), .val (.int p1), .val (.int (p1 ||| (32 : Int32))), .unset, .unset, .unset, .unset] [(.int (p1 ||| (32 : Int32)))])) _
      refine XS.bipush X0.here hx rfl (hb hby own_d4_14) ?_
      exact kt
    by_cases hc7 : (122 : Int32) < (p1 ||| (32 : Int32))
    ·
      have k8 : ∀ t, Steps p.tables e below (s₁.setTop (mkF m 33 #[.val (.int p1), .val (.int p1), .val (.int (p1 ||| (32 : Int32))), .val (.int (0 : Int32)), .val (.int (p1 - (48 : Int32))), .unset, .unset] [(.int (p1 - (48 : Int32)))])) t → Steps p.tables e below (s₁.setTop (entryFrame m #[(.int p1)] 7)) t := by
        intro t kt
        refine k7 t ?_
        show Steps p.tables e below (s₁.setTop (mkF m 16 #[.val (.int p1), .val (.int p1), .val (.int (p1 ||| (32 : Int32))), .unset, .unset, .unset, .unset] [(.int (122 : Int32)), (.int (p1 ||| (32 : Int32)))])) _
        refine XS.icmpYes X0.here hx rfl (pc0 := 16) (pc' := 23) rfl (hb hby own_d4_16) rfl (tlt hc7).2.2.1 (by decide) (by decide) ?_
        show Steps p.tables e below (s₁.setTop (mkF m 23 #[.val (.int p1), .val (.int p1), .val (.int (p1 ||| (32 : Int32))), .unset, .unset, .unset, .unset] [])) _
        refine XS.iconst X0.here hx rfl (hb hby own_d4_23) ?_
        show Steps p.tables e below (s₁.setTop (mkF m 24 #[.val (.int p1), .val (.int p1), .val (.int (p1 ||| (32 : Int32))), .unset, .unset, .unset, .unset] [(.int (0 : Int32))])) _
        refine XS.istoreN X0.here hx rfl (hb hby own_d4_24) rfl (l' := #[.val (.int p1), .val (.int p1), .val (.int (p1 ||| (32 : Int32))), .val (.int (0 : Int32)), .unset, .unset, .unset]) rfl ?_
        show Steps p.tables e below (s₁.setTop (mkF m 25 #[.val (.int p1), .val (.int p1), .val (.int (p1 ||| (32 : Int32))), .val (.int (0 : Int32)), .unset, .unset, .unset] [])) _
        refine XS.iloadN X0.here hx rfl (hb hby own_d4_25) rfl ?_
        show Steps p.tables e below (s₁.setTop (mkF m 26 #[.val (.int p1), .val (.int p1), .val (.int (p1 ||| (32 : Int32))), .val (.int (0 : Int32)), .unset, .unset, .unset] [(.int p1)])) _
        refine XS.bipush X0.here hx rfl (hb hby own_d4_26) ?_
        show Steps p.tables e below (s₁.setTop (mkF m 28 #[.val (.int p1), .val (.int p1), .val (.int (p1 ||| (32 : Int32))), .val (.int (0 : Int32)), .unset, .unset, .unset] [(.int (48 : Int32)), (.int p1)])) _
        refine XS.isub X0.here hx rfl (hb hby own_d4_28) rfl ?_
        show Steps p.tables e below (s₁.setTop (mkF m 29 #[.val (.int p1), .val (.int p1), .val (.int (p1 ||| (32 : Int32))), .val (.int (0 : Int32)), .unset, .unset, .unset] [(.int (p1 - (48 : Int32)))])) _
        refine XS.istore X0.here hx rfl (hb hby own_d4_29) rfl (l' := #[.val (.int p1), .val (.int p1), .val (.int (p1 ||| (32 : Int32))), .val (.int (0 : Int32)), .val (.int (p1 - (48 : Int32))), .unset, .unset]) rfl ?_
        show Steps p.tables e below (s₁.setTop (mkF m 31 #[.val (.int p1), .val (.int p1), .val (.int (p1 ||| (32 : Int32))), .val (.int (0 : Int32)), .val (.int (p1 - (48 : Int32))), .unset, .unset] [])) _
        refine XS.iload X0.here hx rfl (hb hby own_d4_31) rfl ?_
        exact kt
      by_cases hc8 : (p1 - (48 : Int32)) < (0 : Int32)
      ·
        have k9 : ∀ t, Steps p.tables e below (s₁.setTop (mkF m 53 #[.val (.int p1), .val (.int p1), .val (.int (p1 ||| (32 : Int32))), .val (.int (0 : Int32)), .val (.int (p1 - (48 : Int32))), .val (.int (0 : Int32)), .unset] [(.int (95 : Int32)), (.int p1)])) t → Steps p.tables e below (s₁.setTop (entryFrame m #[(.int p1)] 7)) t := by
          intro t kt
          refine k8 t ?_
          show Steps p.tables e below (s₁.setTop (mkF m 33 #[.val (.int p1), .val (.int p1), .val (.int (p1 ||| (32 : Int32))), .val (.int (0 : Int32)), .val (.int (p1 - (48 : Int32))), .unset, .unset] [(.int (p1 - (48 : Int32)))])) _
          refine XS.ifYes X0.here hx rfl (pc0 := 33) (pc' := 47) rfl (hb hby own_d4_33) rfl ((if0 _ _).trans (tlt hc8).1) (by decide) (by decide) ?_
          show Steps p.tables e below (s₁.setTop (mkF m 47 #[.val (.int p1), .val (.int p1), .val (.int (p1 ||| (32 : Int32))), .val (.int (0 : Int32)), .val (.int (p1 - (48 : Int32))), .unset, .unset] [])) _
          refine XS.iconst X0.here hx rfl (hb hby own_d4_47) ?_
          show Steps p.tables e below (s₁.setTop (mkF m 48 #[.val (.int p1), .val (.int p1), .val (.int (p1 ||| (32 : Int32))), .val (.int (0 : Int32)), .val (.int (p1 - (48 : Int32))), .unset, .unset] [(.int (0 : Int32))])) _
          refine XS.istore X0.here hx rfl (hb hby own_d4_48) rfl (l' := #[.val (.int p1), .val (.int p1), .val (.int (p1 ||| (32 : Int32))), .val (.int (0 : Int32)), .val (.int (p1 - (48 : Int32))), .val (.int (0 : Int32)), .unset]) rfl ?_
          show Steps p.tables e below (s₁.setTop (mkF m 50 #[.val (.int p1), .val (.int p1), .val (.int (p1 ||| (32 : Int32))), .val (.int (0 : Int32)), .val (.int (p1 - (48 : Int32))), .val (.int (0 : Int32)), .unset] [])) _
          refine XS.iloadN X0.here hx rfl (hb hby own_d4_50) rfl ?_
          show Steps p.tables e below (s₁.setTop (mkF m 51 #[.val (.int p1), .val (.int p1), .val (.int (p1 ||| (32 : Int32))), .val (.int (0 : Int32)), .val (.int (p1 - (48 : Int32))), .val (.int (0 : Int32)), .unset] [(.int p1)])) _
          refine XS.bipush X0.here hx rfl (hb hby own_d4_51) ?_
          exact kt
        by_cases hc9 : p1 = (95 : Int32)
        ·
          obtain ⟨fs, hr, hrun, hended, hW, hsame⟩ := X0.leave (v := some (.int (1 : Int32))) (fun h => by rw [Bd.returns] at h; cases h)
          refine ⟨_, _, k9 _ ?_, hrun, hended, _, _, rfl, ?_, ⟨_, rfl⟩, hW, hsame.mono (by decide) (by decide)⟩
          · show Steps p.tables e below (s₁.setTop (mkF m 53 #[.val (.int p1), .val (.int p1), .val (.int (p1 ||| (32 : Int32))), .val (.int (0 : Int32)), .val (.int (p1 - (48 : Int32))), .val (.int (0 : Int32)), .unset] [(.int (95 : Int32)), (.int p1)])) _
            refine XS.icmpNo X0.here hx rfl (hb hby own_d4_53) rfl (teq hc9).2 ?_
            show Steps p.tables e below (s₁.setTop (mkF m 56 #[.val (.int p1), .val (.int p1), .val (.int (p1 ||| (32 : Int32))), .val (.int (0 : Int32)), .val (.int (p1 - (48 : Int32))), .val (.int (0 : Int32)), .unset] [])) _
            refine XS.iconst X0.here hx rfl (hb hby own_d4_56) ?_
            show Steps p.tables e below (s₁.setTop (mkF m 57 #[.val (.int p1), .val (.int p1), .val (.int (p1 ||| (32 : Int32))), .val (.int (0 : Int32)), .val (.int (p1 - (48 : Int32))), .val (.int (0 : Int32)), .unset] [(.int (1 : Int32))])) _
            refine XS.goto X0.here hx rfl (pc0 := 57) (pc' := 61) rfl (hb hby own_d4_57) (by decide) (by decide) ?_
            show Steps p.tables e below (s₁.setTop (mkF m 61 #[.val (.int p1), .val (.int p1), .val (.int (p1 ||| (32 : Int32))), .val (.int (0 : Int32)), .val (.int (p1 - (48 : Int32))), .val (.int (0 : Int32)), .unset] [(.int (1 : Int32))])) _
            refine XS.istore X0.here hx rfl (hb hby own_d4_61) rfl (l' := #[.val (.int p1), .val (.int p1), .val (.int (p1 ||| (32 : Int32))), .val (.int (0 : Int32)), .val (.int (p1 - (48 : Int32))), .val (.int (0 : Int32)), .val (.int (1 : Int32))]) rfl ?_
            show Steps p.tables e below (s₁.setTop (mkF m 63 #[.val (.int p1), .val (.int p1), .val (.int (p1 ||| (32 : Int32))), .val (.int (0 : Int32)), .val (.int (p1 - (48 : Int32))), .val (.int (0 : Int32)), .val (.int (1 : Int32))] [])) _
            refine XS.iloadN X0.here hx rfl (hb hby own_d4_63) rfl ?_
            show Steps p.tables e below (s₁.setTop (mkF m 64 #[.val (.int p1), .val (.int p1), .val (.int (p1 ||| (32 : Int32))), .val (.int (0 : Int32)), .val (.int (p1 - (48 : Int32))), .val (.int (0 : Int32)), .val (.int (1 : Int32))] [(.int (0 : Int32))])) _
            refine XS.ifNo X0.here hx rfl (hb hby own_d4_64) rfl ((if0 _ _).trans (teq (by decide : (0 : Int32) = (0 : Int32))).2) ?_
            show Steps p.tables e below (s₁.setTop (mkF m 67 #[.val (.int p1), .val (.int p1), .val (.int (p1 ||| (32 : Int32))), .val (.int (0 : Int32)), .val (.int (p1 - (48 : Int32))), .val (.int (0 : Int32)), .val (.int (1 : Int32))] [])) _
            refine XS.iload X0.here hx rfl (hb hby own_d4_67) rfl ?_
            show Steps p.tables e below (s₁.setTop (mkF m 69 #[.val (.int p1), .val (.int p1), .val (.int (p1 ||| (32 : Int32))), .val (.int (0 : Int32)), .val (.int (p1 - (48 : Int32))), .val (.int (0 : Int32)), .val (.int (1 : Int32))] [(.int (0 : Int32))])) _
            refine XS.ifNo X0.here hx rfl (hb hby own_d4_69) rfl ((if0 _ _).trans (teq (by decide : (0 : Int32) = (0 : Int32))).2) ?_
            show Steps p.tables e below (s₁.setTop (mkF m 72 #[.val (.int p1), .val (.int p1), .val (.int (p1 ||| (32 : Int32))), .val (.int (0 : Int32)), .val (.int (p1 - (48 : Int32))), .val (.int (0 : Int32)), .val (.int (1 : Int32))] [])) _
            refine XS.iload X0.here hx rfl (hb hby own_d4_72) rfl ?_
            show Steps p.tables e below (s₁.setTop (mkF m 74 #[.val (.int p1), .val (.int p1), .val (.int (p1 ||| (32 : Int32))), .val (.int (0 : Int32)), .val (.int (p1 - (48 : Int32))), .val (.int (0 : Int32)), .val (.int (1 : Int32))] [(.int (1 : Int32))])) _
            refine XS.ifNo X0.here hx rfl (hb hby own_d4_74) rfl ((if0 _ _).trans (feq (by decide : ¬ ((1 : Int32) = (0 : Int32)))).1) ?_
            show Steps p.tables e below (s₁.setTop (mkF m 77 #[.val (.int p1), .val (.int p1), .val (.int (p1 ||| (32 : Int32))), .val (.int (0 : Int32)), .val (.int (p1 - (48 : Int32))), .val (.int (0 : Int32)), .val (.int (1 : Int32))] [])) _
            refine XS.iconst X0.here hx rfl (hb hby own_d4_77) ?_
            show Steps p.tables e below (s₁.setTop (mkF m 78 #[.val (.int p1), .val (.int p1), .val (.int (p1 ||| (32 : Int32))), .val (.int (0 : Int32)), .val (.int (p1 - (48 : Int32))), .val (.int (0 : Int32)), .val (.int (1 : Int32))] [(.int (1 : Int32))])) _
            refine XS.goto X0.here hx rfl (pc0 := 78) (pc' := 82) rfl (hb hby own_d4_78) (by decide) (by decide) ?_
            show Steps p.tables e below (s₁.setTop (mkF m 82 #[.val (.int p1), .val (.int p1), .val (.int (p1 ||| (32 : Int32))), .val (.int (0 : Int32)), .val (.int (p1 - (48 : Int32))), .val (.int (0 : Int32)), .val (.int (1 : Int32))] [(.int (1 : Int32))])) _
            exact retN X0 hx (t := .boolean) Bd.returns (by simp) (hb hby own_d4_82) hr
          · show own_Q4 Z p1 h0 n0 _ s₁.heap _
            rw [e0]
            exact ⟨(by rw [own_f4, if_neg hc1, if_pos hc7, if_pos hc8, if_pos hc9]), N0, rfl⟩
        ·
          obtain ⟨fs, hr, hrun, hended, hW, hsame⟩ := X0.leave (v := some (.int (0 : Int32))) (fun h => by rw [Bd.returns] at h; cases h)
          refine ⟨_, _, k9 _ ?_, hrun, hended, _, _, rfl, ?_, ⟨_, rfl⟩, hW, hsame.mono (by decide) (by decide)⟩
          · show Steps p.tables e below (s₁.setTop (mkF m 53 #[.val (.int p1), .val (.int p1), .val (.int (p1 ||| (32 : Int32))), .val (.int (0 : Int32)), .val (.int (p1 - (48 : Int32))), .val (.int (0 : Int32)), .unset] [(.int (95 : Int32)), (.int p1)])) _
            refine XS.icmpYes X0.here hx rfl (pc0 := 53) (pc' := 60) rfl (hb hby own_d4_53) rfl (feq hc9).2 (by decide) (by decide) ?_
            show Steps p.tables e below (s₁.setTop (mkF m 60 #[.val (.int p1), .val (.int p1), .val (.int (p1 ||| (32 : Int32))), .val (.int (0 : Int32)), .val (.int (p1 - (48 : Int32))), .val (.int (0 : Int32)), .unset] [])) _
            refine XS.iconst X0.here hx rfl (hb hby own_d4_60) ?_
            show Steps p.tables e below (s₁.setTop (mkF m 61 #[.val (.int p1), .val (.int p1), .val (.int (p1 ||| (32 : Int32))), .val (.int (0 : Int32)), .val (.int (p1 - (48 : Int32))), .val (.int (0 : Int32)), .unset] [(.int (0 : Int32))])) _
            refine XS.istore X0.here hx rfl (hb hby own_d4_61) rfl (l' := #[.val (.int p1), .val (.int p1), .val (.int (p1 ||| (32 : Int32))), .val (.int (0 : Int32)), .val (.int (p1 - (48 : Int32))), .val (.int (0 : Int32)), .val (.int (0 : Int32))]) rfl ?_
            show Steps p.tables e below (s₁.setTop (mkF m 63 #[.val (.int p1), .val (.int p1), .val (.int (p1 ||| (32 : Int32))), .val (.int (0 : Int32)), .val (.int (p1 - (48 : Int32))), .val (.int (0 : Int32)), .val (.int (0 : Int32))] [])) _
            refine XS.iloadN X0.here hx rfl (hb hby own_d4_63) rfl ?_
            show Steps p.tables e below (s₁.setTop (mkF m 64 #[.val (.int p1), .val (.int p1), .val (.int (p1 ||| (32 : Int32))), .val (.int (0 : Int32)), .val (.int (p1 - (48 : Int32))), .val (.int (0 : Int32)), .val (.int (0 : Int32))] [(.int (0 : Int32))])) _
            refine XS.ifNo X0.here hx rfl (hb hby own_d4_64) rfl ((if0 _ _).trans (teq (by decide : (0 : Int32) = (0 : Int32))).2) ?_
            show Steps p.tables e below (s₁.setTop (mkF m 67 #[.val (.int p1), .val (.int p1), .val (.int (p1 ||| (32 : Int32))), .val (.int (0 : Int32)), .val (.int (p1 - (48 : Int32))), .val (.int (0 : Int32)), .val (.int (0 : Int32))] [])) _
            refine XS.iload X0.here hx rfl (hb hby own_d4_67) rfl ?_
            show Steps p.tables e below (s₁.setTop (mkF m 69 #[.val (.int p1), .val (.int p1), .val (.int (p1 ||| (32 : Int32))), .val (.int (0 : Int32)), .val (.int (p1 - (48 : Int32))), .val (.int (0 : Int32)), .val (.int (0 : Int32))] [(.int (0 : Int32))])) _
            refine XS.ifNo X0.here hx rfl (hb hby own_d4_69) rfl ((if0 _ _).trans (teq (by decide : (0 : Int32) = (0 : Int32))).2) ?_
            show Steps p.tables e below (s₁.setTop (mkF m 72 #[.val (.int p1), .val (.int p1), .val (.int (p1 ||| (32 : Int32))), .val (.int (0 : Int32)), .val (.int (p1 - (48 : Int32))), .val (.int (0 : Int32)), .val (.int (0 : Int32))] [])) _
            refine XS.iload X0.here hx rfl (hb hby own_d4_72) rfl ?_
            show Steps p.tables e below (s₁.setTop (mkF m 74 #[.val (.int p1), .val (.int p1), .val (.int (p1 ||| (32 : Int32))), .val (.int (0 : Int32)), .val (.int (p1 - (48 : Int32))), .val (.int (0 : Int32)), .val (.int (0 : Int32))] [(.int (0 : Int32))])) _
            refine XS.ifYes X0.here hx rfl (pc0 := 74) (pc' := 81) rfl (hb hby own_d4_74) rfl ((if0 _ _).trans (teq (by decide : (0 : Int32) = (0 : Int32))).1) (by decide) (by decide) ?_
            show Steps p.tables e below (s₁.setTop (mkF m 81 #[.val (.int p1), .val (.int p1), .val (.int (p1 ||| (32 : Int32))), .val (.int (0 : Int32)), .val (.int (p1 - (48 : Int32))), .val (.int (0 : Int32)), .val (.int (0 : Int32))] [])) _
            refine XS.iconst X0.here hx rfl (hb hby own_d4_81) ?_
            show Steps p.tables e below (s₁.setTop (mkF m 82 #[.val (.int p1), .val (.int p1), .val (.int (p1 ||| (32 : Int32))), .val (.int (0 : Int32)), .val (.int (p1 - (48 : Int32))), .val (.int (0 : Int32)), .val (.int (0 : Int32))] [(.int (0 : Int32))])) _
            exact retN X0 hx (t := .boolean) Bd.returns (by simp) (hb hby own_d4_82) hr
          · show own_Q4 Z p1 h0 n0 _ s₁.heap _
            rw [e0]
            exact ⟨(by rw [own_f4, if_neg hc1, if_pos hc7, if_pos hc8, if_neg hc9]), N0, rfl⟩
      ·
        have k10 : ∀ t, Steps p.tables e below (s₁.setTop (mkF m 40 #[.val (.int p1), .val (.int p1), .val (.int (p1 ||| (32 : Int32))), .val (.int (0 : Int32)), .val (.int (p1 - (48 : Int32))), .unset, .unset] [(.int (10 : Int32)), (.int (p1 - (48 : Int32)))])) t → Steps p.tables e below (s₁.setTop (entryFrame m #[(.int p1)] 7)) t := by
          intro t kt
          refine k8 t ?_
          show Steps p.tables e below (s₁.setTop (mkF m 33 #[.val (.int p1), .val (.int p1), .val (.int (p1 ||| (32 : Int32))), .val (.int (0 : Int32)), .val (.int (p1 - (48 : Int32))), .unset, .unset] [(.int (p1 - (48 : Int32)))])) _
          refine XS.ifNo X0.here hx rfl (hb hby own_d4_33) rfl ((if0 _ _).trans (flt hc8).1) ?_
          show Steps p.tables e below (s₁.setTop (mkF m 36 #[.val (.int p1), .val (.int p1), .val (.int (p1 ||| (32 : Int32))), .val (.int (0 : Int32)), .val (.int (p1 - (48 : Int32))), .unset, .unset] [])) _
          refine XS.iload X0.here hx rfl (hb hby own_d4_36) rfl ?_
          show Steps p.tables e below (s₁.setTop (mkF m 38 #[.val (.int p1), .val (.int p1), .val (.int (p1 ||| (32 : Int32))), .val (.int (0 : Int32)), .val (.int (p1 - (48 : Int32))), .unset, .unset] [(.int (p1 - (48 : Int32)))])) _
          refine XS.bipush X0.here hx rfl (hb hby own_d4_38) ?_
          exact kt
        by_cases hc10 : (p1 - (48 : Int32)) < (10 : Int32)
        ·
          have k11 : ∀ t, Steps p.tables e below (s₁.setTop (mkF m 53 #[.val (.int p1), .val (.int p1), .val (.int (p1 ||| (32 : Int32))), .val (.int (0 : Int32)), .val (.int (p1 - (48 : Int32))), .val (.int (1 : Int32)), .unset] [(.int (95 : Int32)), (.int p1)])) t → Steps p.tables e below (s₁.setTop (entryFrame m #[(.int p1)] 7)) t := by
            intro t kt
            refine k10 t ?_
            show Steps p.tables e below (s₁.setTop (mkF m 40 #[.val (.int p1), .val (.int p1), .val (.int (p1 ||| (32 : Int32))), .val (.int (0 : Int32)), .val (.int (p1 - (48 : Int32))), .unset, .unset] [(.int (10 : Int32)), (.int (p1 - (48 : Int32)))])) _
            refine XS.icmpNo X0.here hx rfl (hb hby own_d4_40) rfl (tlt hc10).2.1 ?_
            show Steps p.tables e below (s₁.setTop (mkF m 43 #[.val (.int p1), .val (.int p1), .val (.int (p1 ||| (32 : Int32))), .val (.int (0 : Int32)), .val (.int (p1 - (48 : Int32))), .unset, .unset] [])) _
            refine XS.iconst X0.here hx rfl (hb hby own_d4_43) ?_
            show Steps p.tables e below (s₁.setTop (mkF m 44 #[.val (.int p1), .val (.int p1), .val (.int (p1 ||| (32 : Int32))), .val (.int (0 : Int32)), .val (.int (p1 - (48 : Int32))), .unset, .unset] [(.int (1 : Int32))])) _
            refine XS.goto X0.here hx rfl (pc0 := 44) (pc' := 48) rfl (hb hby own_d4_44) (by decide) (by decide) ?_
            show Steps p.tables e below (s₁.setTop (mkF m 48 #[.val (.int p1), .val (.int p1), .val (.int (p1 ||| (32 : Int32))), .val (.int (0 : Int32)), .val (.int (p1 - (48 : Int32))), .unset, .unset] [(.int (1 : Int32))])) _
            refine XS.istore X0.here hx rfl (hb hby own_d4_48) rfl (l' := #[.val (.int p1), .val (.int p1), .val (.int (p1 ||| (32 : Int32))), .val (.int (0 : Int32)), .val (.int (p1 - (48 : Int32))), .val (.int (1 : Int32)), .unset]) rfl ?_
            show Steps p.tables e below (s₁.setTop (mkF m 50 #[.val (.int p1), .val (.int p1), .val (.int (p1 ||| (32 : Int32))), .val (.int (0 : Int32)), .val (.int (p1 - (48 : Int32))), .val (.int (1 : Int32)), .unset] [])) _
            refine XS.iloadN X0.here hx rfl (hb hby own_d4_50) rfl ?_
            show Steps p.tables e below (s₁.setTop (mkF m 51 #[.val (.int p1), .val (.int p1), .val (.int (p1 ||| (32 : Int32))), .val (.int (0 : Int32)), .val (.int (p1 - (48 : Int32))), .val (.int (1 : Int32)), .unset] [(.int p1)])) _
            refine XS.bipush X0.here hx rfl (hb hby own_d4_51) ?_
            exact kt
          by_cases hc11 : p1 = (95 : Int32)
          ·
            obtain ⟨fs, hr, hrun, hended, hW, hsame⟩ := X0.leave (v := some (.int (1 : Int32))) (fun h => by rw [Bd.returns] at h; cases h)
            refine ⟨_, _, k11 _ ?_, hrun, hended, _, _, rfl, ?_, ⟨_, rfl⟩, hW, hsame.mono (by decide) (by decide)⟩
            · show Steps p.tables e below (s₁.setTop (mkF m 53 #[.val (.int p1), .val (.int p1), .val (.int (p1 ||| (32 : Int32))), .val (.int (0 : Int32)), .val (.int (p1 - (48 : Int32))), .val (.int (1 : Int32)), .unset] [(.int (95 : Int32)), (.int p1)])) _
              refine XS.icmpNo X0.here hx rfl (hb hby own_d4_53) rfl (teq hc11).2 ?_
              show Steps p.tables e below (s₁.setTop (mkF m 56 #[.val (.int p1), .val (.int p1), .val (.int (p1 ||| (32 : Int32))), .val (.int (0 : Int32)), .val (.int (p1 - (48 : Int32))), .val (.int (1 : Int32)), .unset] [])) _
              refine XS.iconst X0.here hx rfl (hb hby own_d4_56) ?_
              show Steps p.tables e below (s₁.setTop (mkF m 57 #[.val (.int p1), .val (.int p1), .val (.int (p1 ||| (32 : Int32))), .val (.int (0 : Int32)), .val (.int (p1 - (48 : Int32))), .val (.int (1 : Int32)), .unset] [(.int (1 : Int32))])) _
              refine XS.goto X0.here hx rfl (pc0 := 57) (pc' := 61) rfl (hb hby own_d4_57) (by decide) (by decide) ?_
              show Steps p.tables e below (s₁.setTop (mkF m 61 #[.val (.int p1), .val (.int p1), .val (.int (p1 ||| (32 : Int32))), .val (.int (0 : Int32)), .val (.int (p1 - (48 : Int32))), .val (.int (1 : Int32)), .unset] [(.int (1 : Int32))])) _
              refine XS.istore X0.here hx rfl (hb hby own_d4_61) rfl (l' := #[.val (.int p1), .val (.int p1), .val (.int (p1 ||| (32 : Int32))), .val (.int (0 : Int32)), .val (.int (p1 - (48 : Int32))), .val (.int (1 : Int32)), .val (.int (1 : Int32))]) rfl ?_
              show Steps p.tables e below (s₁.setTop (mkF m 63 #[.val (.int p1), .val (.int p1), .val (.int (p1 ||| (32 : Int32))), .val (.int (0 : Int32)), .val (.int (p1 - (48 : Int32))), .val (.int (1 : Int32)), .val (.int (1 : Int32))] [])) _
              refine XS.iloadN X0.here hx rfl (hb hby own_d4_63) rfl ?_
              show Steps p.tables e below (s₁.setTop (mkF m 64 #[.val (.int p1), .val (.int p1), .val (.int (p1 ||| (32 : Int32))), .val (.int (0 : Int32)), .val (.int (p1 - (48 : Int32))), .val (.int (1 : Int32)), .val (.int (1 : Int32))] [(.int (0 : Int32))])) _
              refine XS.ifNo X0.here hx rfl (hb hby own_d4_64) rfl ((if0 _ _).trans (teq (by decide : (0 : Int32) = (0 : Int32))).2) ?_
              show Steps p.tables e below (s₁.setTop (mkF m 67 #[.val (.int p1), .val (.int p1), .val (.int (p1 ||| (32 : Int32))), .val (.int (0 : Int32)), .val (.int (p1 - (48 : Int32))), .val (.int (1 : Int32)), .val (.int (1 : Int32))] [])) _
              refine XS.iload X0.here hx rfl (hb hby own_d4_67) rfl ?_
              show Steps p.tables e below (s₁.setTop (mkF m 69 #[.val (.int p1), .val (.int p1), .val (.int (p1 ||| (32 : Int32))), .val (.int (0 : Int32)), .val (.int (p1 - (48 : Int32))), .val (.int (1 : Int32)), .val (.int (1 : Int32))] [(.int (1 : Int32))])) _
              refine XS.ifYes X0.here hx rfl (pc0 := 69) (pc' := 77) rfl (hb hby own_d4_69) rfl ((if0 _ _).trans (feq (by decide : ¬ ((1 : Int32) = (0 : Int32)))).2) (by decide) (by decide) ?_
              show Steps p.tables e below (s₁.setTop (mkF m 77 #[.val (.int p1), .val (.int p1), .val (.int (p1 ||| (32 : Int32))), .val (.int (0 : Int32)), .val (.int (p1 - (48 : Int32))), .val (.int (1 : Int32)), .val (.int (1 : Int32))] [])) _
              refine XS.iconst X0.here hx rfl (hb hby own_d4_77) ?_
              show Steps p.tables e below (s₁.setTop (mkF m 78 #[.val (.int p1), .val (.int p1), .val (.int (p1 ||| (32 : Int32))), .val (.int (0 : Int32)), .val (.int (p1 - (48 : Int32))), .val (.int (1 : Int32)), .val (.int (1 : Int32))] [(.int (1 : Int32))])) _
              refine XS.goto X0.here hx rfl (pc0 := 78) (pc' := 82) rfl (hb hby own_d4_78) (by decide) (by decide) ?_
              show Steps p.tables e below (s₁.setTop (mkF m 82 #[.val (.int p1), .val (.int p1), .val (.int (p1 ||| (32 : Int32))), .val (.int (0 : Int32)), .val (.int (p1 - (48 : Int32))), .val (.int (1 : Int32)), .val (.int (1 : Int32))] [(.int (1 : Int32))])) _
              exact retN X0 hx (t := .boolean) Bd.returns (by simp) (hb hby own_d4_82) hr
            · show own_Q4 Z p1 h0 n0 _ s₁.heap _
              rw [e0]
              exact ⟨(by rw [own_f4, if_neg hc1, if_pos hc7, if_neg hc8, if_pos hc10, if_pos hc11]), N0, rfl⟩
          ·
            obtain ⟨fs, hr, hrun, hended, hW, hsame⟩ := X0.leave (v := some (.int (1 : Int32))) (fun h => by rw [Bd.returns] at h; cases h)
            refine ⟨_, _, k11 _ ?_, hrun, hended, _, _, rfl, ?_, ⟨_, rfl⟩, hW, hsame.mono (by decide) (by decide)⟩
            · show Steps p.tables e below (s₁.setTop (mkF m 53 #[.val (.int p1), .val (.int p1), .val (.int (p1 ||| (32 : Int32))), .val (.int (0 : Int32)), .val (.int (p1 - (48 : Int32))), .val (.int (1 : Int32)), .unset] [(.int (95 : Int32)), (.int p1)])) _
              refine XS.icmpYes X0.here hx rfl (pc0 := 53) (pc' := 60) rfl (hb hby own_d4_53) rfl (feq hc11).2 (by decide) (by decide) ?_
              show Steps p.tables e below (s₁.setTop (mkF m 60 #[.val (.int p1), .val (.int p1), .val (.int (p1 ||| (32 : Int32))), .val (.int (0 : Int32)), .val (.int (p1 - (48 : Int32))), .val (.int (1 : Int32)), .unset] [])) _
              refine XS.iconst X0.here hx rfl (hb hby own_d4_60) ?_
              show Steps p.tables e below (s₁.setTop (mkF m 61 #[.val (.int p1), .val (.int p1), .val (.int (p1 ||| (32 : Int32))), .val (.int (0 : Int32)), .val (.int (p1 - (48 : Int32))), .val (.int (1 : Int32)), .unset] [(.int (0 : Int32))])) _
              refine XS.istore X0.here hx rfl (hb hby own_d4_61) rfl (l' := #[.val (.int p1), .val (.int p1), .val (.int (p1 ||| (32 : Int32))), .val (.int (0 : Int32)), .val (.int (p1 - (48 : Int32))), .val (.int (1 : Int32)), .val (.int (0 : Int32))]) rfl ?_
              show Steps p.tables e below (s₁.setTop (mkF m 63 #[.val (.int p1), .val (.int p1), .val (.int (p1 ||| (32 : Int32))), .val (.int (0 : Int32)), .val (.int (p1 - (48 : Int32))), .val (.int (1 : Int32)), .val (.int (0 : Int32))] [])) _
              refine XS.iloadN X0.here hx rfl (hb hby own_d4_63) rfl ?_
              show Steps p.tables e below (s₁.setTop (mkF m 64 #[.val (.int p1), .val (.int p1), .val (.int (p1 ||| (32 : Int32))), .val (.int (0 : Int32)), .val (.int (p1 - (48 : Int32))), .val (.int (1 : Int32)), .val (.int (0 : Int32))] [(.int (0 : Int32))])) _
              refine XS.ifNo X0.here hx rfl (hb hby own_d4_64) rfl ((if0 _ _).trans (teq (by decide : (0 : Int32) = (0 : Int32))).2) ?_
              show Steps p.tables e below (s₁.setTop (mkF m 67 #[.val (.int p1), .val (.int p1), .val (.int (p1 ||| (32 : Int32))), .val (.int (0 : Int32)), .val (.int (p1 - (48 : Int32))), .val (.int (1 : Int32)), .val (.int (0 : Int32))] [])) _
              refine XS.iload X0.here hx rfl (hb hby own_d4_67) rfl ?_
              show Steps p.tables e below (s₁.setTop (mkF m 69 #[.val (.int p1), .val (.int p1), .val (.int (p1 ||| (32 : Int32))), .val (.int (0 : Int32)), .val (.int (p1 - (48 : Int32))), .val (.int (1 : Int32)), .val (.int (0 : Int32))] [(.int (1 : Int32))])) _
              refine XS.ifYes X0.here hx rfl (pc0 := 69) (pc' := 77) rfl (hb hby own_d4_69) rfl ((if0 _ _).trans (feq (by decide : ¬ ((1 : Int32) = (0 : Int32)))).2) (by decide) (by decide) ?_
              show Steps p.tables e below (s₁.setTop (mkF m 77 #[.val (.int p1), .val (.int p1), .val (.int (p1 ||| (32 : Int32))), .val (.int (0 : Int32)), .val (.int (p1 - (48 : Int32))), .val (.int (1 : Int32)), .val (.int (0 : Int32))] [])) _
              refine XS.iconst X0.here hx rfl (hb hby own_d4_77) ?_
              show Steps p.tables e below (s₁.setTop (mkF m 78 #[.val (.int p1), .val (.int p1), .val (.int (p1 ||| (32 : Int32))), .val (.int (0 : Int32)), .val (.int (p1 - (48 : Int32))), .val (.int (1 : Int32)), .val (.int (0 : Int32))] [(.int (1 : Int32))])) _
              refine XS.goto X0.here hx rfl (pc0 := 78) (pc' := 82) rfl (hb hby own_d4_78) (by decide) (by decide) ?_
              show Steps p.tables e below (s₁.setTop (mkF m 82 #[.val (.int p1), .val (.int p1), .val (.int (p1 ||| (32 : Int32))), .val (.int (0 : Int32)), .val (.int (p1 - (48 : Int32))), .val (.int (1 : Int32)), .val (.int (0 : Int32))] [(.int (1 : Int32))])) _
              exact retN X0 hx (t := .boolean) Bd.returns (by simp) (hb hby own_d4_82) hr
            · show own_Q4 Z p1 h0 n0 _ s₁.heap _
              rw [e0]
              exact ⟨(by rw [own_f4, if_neg hc1, if_pos hc7, if_neg hc8, if_pos hc10, if_neg hc11]), N0, rfl⟩
        ·
          have k12 : ∀ t, Steps p.tables e below (s₁.setTop (mkF m 53 #[.val (.int p1), .val (.int p1), .val (.int (p1 ||| (32 : Int32))), .val (.int (0 : Int32)), .val (.int (p1 - (48 : Int32))), .val (.int (0 : Int32)), .unset] [(.int (95 : Int32)), (.int p1)])) t → Steps p.tables e below (s₁.setTop (entryFrame m #[(.int p1)] 7)) t := by
            intro t kt
            refine k10 t ?_
            show Steps p.tables e below (s₁.setTop (mkF m 40 #[.val (.int p1), .val (.int p1), .val (.int (p1 ||| (32 : Int32))), .val (.int (0 : Int32)), .val (.int (p1 - (48 : Int32))), .unset, .unset] [(.int (10 : Int32)), (.int (p1 - (48 : Int32)))])) _
            refine XS.icmpYes X0.here hx rfl (pc0 := 40) (pc' := 47) rfl (hb hby own_d4_40) rfl (flt hc10).2.1 (by decide) (by decide) ?_
            show Steps p.tables e below (s₁.setTop (mkF m 47 #[.val (.int p1), .val (.int p1), .val (.int (p1 ||| (32 : Int32))), .val (.int (0 : Int32)), .val (.int (p1 - (48 : Int32))), .unset, .unset] [])) _
            refine XS.iconst X0.here hx rfl (hb hby own_d4_47) ?_
            show Steps p.tables e below (s₁.setTop (mkF m 48 #[.val (.int p1), .val (.int p1), .val (.int (p1 ||| (32 : Int32))), .val (.int (0 : Int32)), .val (.int (p1 - (48 : Int32))), .unset, .unset] [(.int (0 : Int32))])) _
            refine XS.istore X0.here hx rfl (hb hby own_d4_48) rfl (l' := #[.val (.int p1), .val (.int p1), .val (.int (p1 ||| (32 : Int32))), .val (.int (0 : Int32)), .val (.int (p1 - (48 : Int32))), .val (.int (0 : Int32)), .unset]) rfl ?_
            show Steps p.tables e below (s₁.setTop (mkF m 50 #[.val (.int p1), .val (.int p1), .val (.int (p1 ||| (32 : Int32))), .val (.int (0 : Int32)), .val (.int (p1 - (48 : Int32))), .val (.int (0 : Int32)), .unset] [])) _
            refine XS.iloadN X0.here hx rfl (hb hby own_d4_50) rfl ?_
            show Steps p.tables e below (s₁.setTop (mkF m 51 #[.val (.int p1), .val (.int p1), .val (.int (p1 ||| (32 : Int32))), .val (.int (0 : Int32)), .val (.int (p1 - (48 : Int32))), .val (.int (0 : Int32)), .unset] [(.int p1)])) _
            refine XS.bipush X0.here hx rfl (hb hby own_d4_51) ?_
            exact kt
          by_cases hc12 : p1 = (95 : Int32)
          ·
            obtain ⟨fs, hr, hrun, hended, hW, hsame⟩ := X0.leave (v := some (.int (1 : Int32))) (fun h => by rw [Bd.returns] at h; cases h)
            refine ⟨_, _, k12 _ ?_, hrun, hended, _, _, rfl, ?_, ⟨_, rfl⟩, hW, hsame.mono (by decide) (by decide)⟩
            · show Steps p.tables e below (s₁.setTop (mkF m 53 #[.val (.int p1), .val (.int p1), .val (.int (p1 ||| (32 : Int32))), .val (.int (0 : Int32)), .val (.int (p1 - (48 : Int32))), .val (.int (0 : Int32)), .unset] [(.int (95 : Int32)), (.int p1)])) _
              refine XS.icmpNo X0.here hx rfl (hb hby own_d4_53) rfl (teq hc12).2 ?_
              show Steps p.tables e below (s₁.setTop (mkF m 56 #[.val (.int p1), .val (.int p1), .val (.int (p1 ||| (32 : Int32))), .val (.int (0 : Int32)), .val (.int (p1 - (48 : Int32))), .val (.int (0 : Int32)), .unset] [])) _
              refine XS.iconst X0.here hx rfl (hb hby own_d4_56) ?_
              show Steps p.tables e below (s₁.setTop (mkF m 57 #[.val (.int p1), .val (.int p1), .val (.int (p1 ||| (32 : Int32))), .val (.int (0 : Int32)), .val (.int (p1 - (48 : Int32))), .val (.int (0 : Int32)), .unset] [(.int (1 : Int32))])) _
              refine XS.goto X0.here hx rfl (pc0 := 57) (pc' := 61) rfl (hb hby own_d4_57) (by decide) (by decide) ?_
              show Steps p.tables e below (s₁.setTop (mkF m 61 #[.val (.int p1), .val (.int p1), .val (.int (p1 ||| (32 : Int32))), .val (.int (0 : Int32)), .val (.int (p1 - (48 : Int32))), .val (.int (0 : Int32)), .unset] [(.int (1 : Int32))])) _
              refine XS.istore X0.here hx rfl (hb hby own_d4_61) rfl (l' := #[.val (.int p1), .val (.int p1), .val (.int (p1 ||| (32 : Int32))), .val (.int (0 : Int32)), .val (.int (p1 - (48 : Int32))), .val (.int (0 : Int32)), .val (.int (1 : Int32))]) rfl ?_
              show Steps p.tables e below (s₁.setTop (mkF m 63 #[.val (.int p1), .val (.int p1), .val (.int (p1 ||| (32 : Int32))), .val (.int (0 : Int32)), .val (.int (p1 - (48 : Int32))), .val (.int (0 : Int32)), .val (.int (1 : Int32))] [])) _
              refine XS.iloadN X0.here hx rfl (hb hby own_d4_63) rfl ?_
              show Steps p.tables e below (s₁.setTop (mkF m 64 #[.val (.int p1), .val (.int p1), .val (.int (p1 ||| (32 : Int32))), .val (.int (0 : Int32)), .val (.int (p1 - (48 : Int32))), .val (.int (0 : Int32)), .val (.int (1 : Int32))] [(.int (0 : Int32))])) _
              refine XS.ifNo X0.here hx rfl (hb hby own_d4_64) rfl ((if0 _ _).trans (teq (by decide : (0 : Int32) = (0 : Int32))).2) ?_
              show Steps p.tables e below (s₁.setTop (mkF m 67 #[.val (.int p1), .val (.int p1), .val (.int (p1 ||| (32 : Int32))), .val (.int (0 : Int32)), .val (.int (p1 - (48 : Int32))), .val (.int (0 : Int32)), .val (.int (1 : Int32))] [])) _
              refine XS.iload X0.here hx rfl (hb hby own_d4_67) rfl ?_
              show Steps p.tables e below (s₁.setTop (mkF m 69 #[.val (.int p1), .val (.int p1), .val (.int (p1 ||| (32 : Int32))), .val (.int (0 : Int32)), .val (.int (p1 - (48 : Int32))), .val (.int (0 : Int32)), .val (.int (1 : Int32))] [(.int (0 : Int32))])) _
              refine XS.ifNo X0.here hx rfl (hb hby own_d4_69) rfl ((if0 _ _).trans (teq (by decide : (0 : Int32) = (0 : Int32))).2) ?_
              show Steps p.tables e below (s₁.setTop (mkF m 72 #[.val (.int p1), .val (.int p1), .val (.int (p1 ||| (32 : Int32))), .val (.int (0 : Int32)), .val (.int (p1 - (48 : Int32))), .val (.int (0 : Int32)), .val (.int (1 : Int32))] [])) _
              refine XS.iload X0.here hx rfl (hb hby own_d4_72) rfl ?_
              show Steps p.tables e below (s₁.setTop (mkF m 74 #[.val (.int p1), .val (.int p1), .val (.int (p1 ||| (32 : Int32))), .val (.int (0 : Int32)), .val (.int (p1 - (48 : Int32))), .val (.int (0 : Int32)), .val (.int (1 : Int32))] [(.int (1 : Int32))])) _
              refine XS.ifNo X0.here hx rfl (hb hby own_d4_74) rfl ((if0 _ _).trans (feq (by decide : ¬ ((1 : Int32) = (0 : Int32)))).1) ?_
              show Steps p.tables e below (s₁.setTop (mkF m 77 #[.val (.int p1), .val (.int p1), .val (.int (p1 ||| (32 : Int32))), .val (.int (0 : Int32)), .val (.int (p1 - (48 : Int32))), .val (.int (0 : Int32)), .val (.int (1 : Int32))] [])) _
              refine XS.iconst X0.here hx rfl (hb hby own_d4_77) ?_
              show Steps p.tables e below (s₁.setTop (mkF m 78 #[.val (.int p1), .val (.int p1), .val (.int (p1 ||| (32 : Int32))), .val (.int (0 : Int32)), .val (.int (p1 - (48 : Int32))), .val (.int (0 : Int32)), .val (.int (1 : Int32))] [(.int (1 : Int32))])) _
              refine XS.goto X0.here hx rfl (pc0 := 78) (pc' := 82) rfl (hb hby own_d4_78) (by decide) (by decide) ?_
              show Steps p.tables e below (s₁.setTop (mkF m 82 #[.val (.int p1), .val (.int p1), .val (.int (p1 ||| (32 : Int32))), .val (.int (0 : Int32)), .val (.int (p1 - (48 : Int32))), .val (.int (0 : Int32)), .val (.int (1 : Int32))] [(.int (1 : Int32))])) _
              exact retN X0 hx (t := .boolean) Bd.returns (by simp) (hb hby own_d4_82) hr
            · show own_Q4 Z p1 h0 n0 _ s₁.heap _
              rw [e0]
              exact ⟨(by rw [own_f4, if_neg hc1, if_pos hc7, if_neg hc8, if_neg hc10, if_pos hc12]), N0, rfl⟩
          ·
            obtain ⟨fs, hr, hrun, hended, hW, hsame⟩ := X0.leave (v := some (.int (0 : Int32))) (fun h => by rw [Bd.returns] at h; cases h)
            refine ⟨_, _, k12 _ ?_, hrun, hended, _, _, rfl, ?_, ⟨_, rfl⟩, hW, hsame.mono (by decide) (by decide)⟩
            · show Steps p.tables e below (s₁.setTop (mkF m 53 #[.val (.int p1), .val (.int p1), .val (.int (p1 ||| (32 : Int32))), .val (.int (0 : Int32)), .val (.int (p1 - (48 : Int32))), .val (.int (0 : Int32)), .unset] [(.int (95 : Int32)), (.int p1)])) _
              refine XS.icmpYes X0.here hx rfl (pc0 := 53) (pc' := 60) rfl (hb hby own_d4_53) rfl (feq hc12).2 (by decide) (by decide) ?_
              show Steps p.tables e below (s₁.setTop (mkF m 60 #[.val (.int p1), .val (.int p1), .val (.int (p1 ||| (32 : Int32))), .val (.int (0 : Int32)), .val (.int (p1 - (48 : Int32))), .val (.int (0 : Int32)), .unset] [])) _
              refine XS.iconst X0.here hx rfl (hb hby own_d4_60) ?_
              show Steps p.tables e below (s₁.setTop (mkF m 61 #[.val (.int p1), .val (.int p1), .val (.int (p1 ||| (32 : Int32))), .val (.int (0 : Int32)), .val (.int (p1 - (48 : Int32))), .val (.int (0 : Int32)), .unset] [(.int (0 : Int32))])) _
              refine XS.istore X0.here hx rfl (hb hby own_d4_61) rfl (l' := #[.val (.int p1), .val (.int p1), .val (.int (p1 ||| (32 : Int32))), .val (.int (0 : Int32)), .val (.int (p1 - (48 : Int32))), .val (.int (0 : Int32)), .val (.int (0 : Int32))]) rfl ?_
              show Steps p.tables e below (s₁.setTop (mkF m 63 #[.val (.int p1), .val (.int p1), .val (.int (p1 ||| (32 : Int32))), .val (.int (0 : Int32)), .val (.int (p1 - (48 : Int32))), .val (.int (0 : Int32)), .val (.int (0 : Int32))] [])) _
              refine XS.iloadN X0.here hx rfl (hb hby own_d4_63) rfl ?_
              show Steps p.tables e below (s₁.setTop (mkF m 64 #[.val (.int p1), .val (.int p1), .val (.int (p1 ||| (32 : Int32))), .val (.int (0 : Int32)), .val (.int (p1 - (48 : Int32))), .val (.int (0 : Int32)), .val (.int (0 : Int32))] [(.int (0 : Int32))])) _
              refine XS.ifNo X0.here hx rfl (hb hby own_d4_64) rfl ((if0 _ _).trans (teq (by decide : (0 : Int32) = (0 : Int32))).2) ?_
              show Steps p.tables e below (s₁.setTop (mkF m 67 #[.val (.int p1), .val (.int p1), .val (.int (p1 ||| (32 : Int32))), .val (.int (0 : Int32)), .val (.int (p1 - (48 : Int32))), .val (.int (0 : Int32)), .val (.int (0 : Int32))] [])) _
              refine XS.iload X0.here hx rfl (hb hby own_d4_67) rfl ?_
              show Steps p.tables e below (s₁.setTop (mkF m 69 #[.val (.int p1), .val (.int p1), .val (.int (p1 ||| (32 : Int32))), .val (.int (0 : Int32)), .val (.int (p1 - (48 : Int32))), .val (.int (0 : Int32)), .val (.int (0 : Int32))] [(.int (0 : Int32))])) _
              refine XS.ifNo X0.here hx rfl (hb hby own_d4_69) rfl ((if0 _ _).trans (teq (by decide : (0 : Int32) = (0 : Int32))).2) ?_
              show Steps p.tables e below (s₁.setTop (mkF m 72 #[.val (.int p1), .val (.int p1), .val (.int (p1 ||| (32 : Int32))), .val (.int (0 : Int32)), .val (.int (p1 - (48 : Int32))), .val (.int (0 : Int32)), .val (.int (0 : Int32))] [])) _
              refine XS.iload X0.here hx rfl (hb hby own_d4_72) rfl ?_
              show Steps p.tables e below (s₁.setTop (mkF m 74 #[.val (.int p1), .val (.int p1), .val (.int (p1 ||| (32 : Int32))), .val (.int (0 : Int32)), .val (.int (p1 - (48 : Int32))), .val (.int (0 : Int32)), .val (.int (0 : Int32))] [(.int (0 : Int32))])) _
              refine XS.ifYes X0.here hx rfl (pc0 := 74) (pc' := 81) rfl (hb hby own_d4_74) rfl ((if0 _ _).trans (teq (by decide : (0 : Int32) = (0 : Int32))).1) (by decide) (by decide) ?_
              show Steps p.tables e below (s₁.setTop (mkF m 81 #[.val (.int p1), .val (.int p1), .val (.int (p1 ||| (32 : Int32))), .val (.int (0 : Int32)), .val (.int (p1 - (48 : Int32))), .val (.int (0 : Int32)), .val (.int (0 : Int32))] [])) _
              refine XS.iconst X0.here hx rfl (hb hby own_d4_81) ?_
              show Steps p.tables e below (s₁.setTop (mkF m 82 #[.val (.int p1), .val (.int p1), .val (.int (p1 ||| (32 : Int32))), .val (.int (0 : Int32)), .val (.int (p1 - (48 : Int32))), .val (.int (0 : Int32)), .val (.int (0 : Int32))] [(.int (0 : Int32))])) _
              exact retN X0 hx (t := .boolean) Bd.returns (by simp) (hb hby own_d4_82) hr
            · show own_Q4 Z p1 h0 n0 _ s₁.heap _
              rw [e0]
              exact ⟨(by rw [own_f4, if_neg hc1, if_pos hc7, if_neg hc8, if_neg hc10, if_neg hc12]), N0, rfl⟩
    ·
      have k13 : ∀ t, Steps p.tables e below (s₁.setTop (mkF m 33 #[.val (.int p1), .val (.int p1), .val (.int (p1 ||| (32 : Int32))), .val (.int (1 : Int32)), .val (.int (p1 - (48 : Int32))), .unset, .unset] [(.int (p1 - (48 : Int32)))])) t → Steps p.tables e below (s₁.setTop (entryFrame m #[(.int p1)] 7)) t := by
        intro t kt
        refine k7 t ?_
        show Steps p.tables e below (s₁.setTop (mkF m 16 #[.val (.int p1), .val (.int p1), .val (.int (p1 ||| (32 : Int32))), .unset, .unset, .unset, .unset] [(.int (122 : Int32)), (.int (p1 ||| (32 : Int32)))])) _
        refine XS.icmpNo X0.here hx rfl (hb hby own_d4_16) rfl (flt hc7).2.2.1 ?_
        show Steps p.tables e below (s₁.setTop (mkF m 19 #[.val (.int p1), .val (.int p1), .val (.int (p1 ||| (32 : Int32))), .unset, .unset, .unset, .unset] [])) _
        refine XS.iconst X0.here hx rfl (hb hby own_d4_19) ?_
        show Steps p.tables e below (s₁.setTop (mkF m 20 #[.val (.int p1), .val (.int p1), .val (.int (p1 ||| (32 : Int32))), .unset, .unset, .unset, .unset] [(.int (1 : Int32))])) _
        refine XS.goto X0.here hx rfl (pc0 := 20) (pc' := 24) rfl (hb hby own_d4_20) (by decide) (by decide) ?_
        show Steps p.tables e below (s₁.setTop (mkF m 24 #[.val (.int p1), .val (.int p1), .val (.int (p1 ||| (32 : Int32))), .unset, .unset, .unset, .unset] [(.int (1 : Int32))])) _
        refine XS.istoreN X0.here hx rfl (hb hby own_d4_24) rfl (l' := #[.val (.int p1), .val (.int p1), .val (.int (p1 ||| (32 : Int32))), .val (.int (1 : Int32)), .unset, .unset, .unset]) rfl ?_
        show Steps p.tables e below (s₁.setTop (mkF m 25 #[.val (.int p1), .val (.int p1), .val (.int (p1 ||| (32 : Int32))), .val (.int (1 : Int32)), .unset, .unset, .unset] [])) _
        refine XS.iloadN X0.here hx rfl (hb hby own_d4_25) rfl ?_
        show Steps p.tables e below (s₁.setTop (mkF m 26 #[.val (.int p1), .val (.int p1), .val (.int (p1 ||| (32 : Int32))), .val (.int (1 : Int32)), .unset, .unset, .unset] [(.int p1)])) _
        refine XS.bipush X0.here hx rfl (hb hby own_d4_26) ?_
        show Steps p.tables e below (s₁.setTop (mkF m 28 #[.val (.int p1), .val (.int p1), .val (.int (p1 ||| (32 : Int32))), .val (.int (1 : Int32)), .unset, .unset, .unset] [(.int (48 : Int32)), (.int p1)])) _
        refine XS.isub X0.here hx rfl (hb hby own_d4_28) rfl ?_
        show Steps p.tables e below (s₁.setTop (mkF m 29 #[.val (.int p1), .val (.int p1), .val (.int (p1 ||| (32 : Int32))), .val (.int (1 : Int32)), .unset, .unset, .unset] [(.int (p1 - (48 : Int32)))])) _
        refine XS.istore X0.here hx rfl (hb hby own_d4_29) rfl (l' := #[.val (.int p1), .val (.int p1), .val (.int (p1 ||| (32 : Int32))), .val (.int (1 : Int32)), .val (.int (p1 - (48 : Int32))), .unset, .unset]) rfl ?_
        show Steps p.tables e below (s₁.setTop (mkF m 31 #[.val (.int p1), .val (.int p1), .val (.int (p1 ||| (32 : Int32))), .val (.int (1 : Int32)), .val (.int (p1 - (48 : Int32))), .unset, .unset] [])) _
        refine XS.iload X0.here hx rfl (hb hby own_d4_31) rfl ?_
        exact kt
      by_cases hc13 : (p1 - (48 : Int32)) < (0 : Int32)
      ·
        have k14 : ∀ t, Steps p.tables e below (s₁.setTop (mkF m 53 #[.val (.int p1), .val (.int p1), .val (.int (p1 ||| (32 : Int32))), .val (.int (1 : Int32)), .val (.int (p1 - (48 : Int32))), .val (.int (0 : Int32)), .unset] [(.int (95 : Int32)), (.int p1)])) t → Steps p.tables e below (s₁.setTop (entryFrame m #[(.int p1)] 7)) t := by
          intro t kt
          refine k13 t ?_
          show Steps p.tables e below (s₁.setTop (mkF m 33 #[.val (.int p1), .val (.int p1), .val (.int (p1 ||| (32 : Int32))), .val (.int (1 : Int32)), .val (.int (p1 - (48 : Int32))), .unset, .unset] [(.int (p1 - (48 : Int32)))])) _
          refine XS.ifYes X0.here hx rfl (pc0 := 33) (pc' := 47) rfl (hb hby own_d4_33) rfl ((if0 _ _).trans (tlt hc13).1) (by decide) (by decide) ?_
          show Steps p.tables e below (s₁.setTop (mkF m 47 #[.val (.int p1), .val (.int p1), .val (.int (p1 ||| (32 : Int32))), .val (.int (1 : Int32)), .val (.int (p1 - (48 : Int32))), .unset, .unset] [])) _
          refine XS.iconst X0.here hx rfl (hb hby own_d4_47) ?_
          show Steps p.tables e below (s₁.setTop (mkF m 48 #[.val (.int p1), .val (.int p1), .val (.int (p1 ||| (32 : Int32))), .val (.int (1 : Int32)), .val (.int (p1 - (48 : Int32))), .unset, .unset] [(.int (0 : Int32))])) _
          refine XS.istore X0.here hx rfl (hb hby own_d4_48) rfl (l' := #[.val (.int p1), .val (.int p1), .val (.int (p1 ||| (32 : Int32))), .val (.int (1 : Int32)), .val (.int (p1 - (48 : Int32))), .val (.int (0 : Int32)), .unset]) rfl ?_
          show Steps p.tables e below (s₁.setTop (mkF m 50 #[.val (.int p1), .val (.int p1), .val (.int (p1 ||| (32 : Int32))), .val (.int (1 : Int32)), .val (.int (p1 - (48 : Int32))), .val (.int (0 : Int32)), .unset] [])) _
          refine XS.iloadN X0.here hx rfl (hb hby own_d4_50) rfl ?_
          show Steps p.tables e below (s₁.setTop (mkF m 51 #[.val (.int p1), .val (.int p1), .val (.int (p1 ||| (32 : Int32))), .val (.int (1 : Int32)), .val (.int (p1 - (48 : Int32))), .val (.int (0 : Int32)), .unset] [(.int p1)])) _
          refine XS.bipush X0.here hx rfl (hb hby own_d4_51) ?_
          exact kt
        by_cases hc14 : p1 = (95 : Int32)
        ·
          obtain ⟨fs, hr, hrun, hended, hW, hsame⟩ := X0.leave (v := some (.int (1 : Int32))) (fun h => by rw [Bd.returns] at h; cases h)
          refine ⟨_, _, k14 _ ?_, hrun, hended, _, _, rfl, ?_, ⟨_, rfl⟩, hW, hsame.mono (by decide) (by decide)⟩
          · show Steps p.tables e below (s₁.setTop (mkF m 53 #[.val (.int p1), .val (.int p1), .val (.int (p1 ||| (32 : Int32))), .val (.int (1 : Int32)), .val (.int (p1 - (48 : Int32))), .val (.int (0 : Int32)), .unset] [(.int (95 : Int32)), (.int p1)])) _
            refine XS.icmpNo X0.here hx rfl (hb hby own_d4_53) rfl (teq hc14).2 ?_
            show Steps p.tables e below (s₁.setTop (mkF m 56 #[.val (.int p1), .val (.int p1), .val (.int (p1 ||| (32 : Int32))), .val (.int (1 : Int32)), .val (.int (p1 - (48 : Int32))), .val (.int (0 : Int32)), .unset] [])) _
            refine XS.iconst X0.here hx rfl (hb hby own_d4_56) ?_
            show Steps p.tables e below (s₁.setTop (mkF m 57 #[.val (.int p1), .val (.int p1), .val (.int (p1 ||| (32 : Int32))), .val (.int (1 : Int32)), .val (.int (p1 - (48 : Int32))), .val (.int (0 : Int32)), .unset] [(.int (1 : Int32))])) _
            refine XS.goto X0.here hx rfl (pc0 := 57) (pc' := 61) rfl (hb hby own_d4_57) (by decide) (by decide) ?_
            show Steps p.tables e below (s₁.setTop (mkF m 61 #[.val (.int p1), .val (.int p1), .val (.int (p1 ||| (32 : Int32))), .val (.int (1 : Int32)), .val (.int (p1 - (48 : Int32))), .val (.int (0 : Int32)), .unset] [(.int (1 : Int32))])) _
            refine XS.istore X0.here hx rfl (hb hby own_d4_61) rfl (l' := #[.val (.int p1), .val (.int p1), .val (.int (p1 ||| (32 : Int32))), .val (.int (1 : Int32)), .val (.int (p1 - (48 : Int32))), .val (.int (0 : Int32)), .val (.int (1 : Int32))]) rfl ?_
            show Steps p.tables e below (s₁.setTop (mkF m 63 #[.val (.int p1), .val (.int p1), .val (.int (p1 ||| (32 : Int32))), .val (.int (1 : Int32)), .val (.int (p1 - (48 : Int32))), .val (.int (0 : Int32)), .val (.int (1 : Int32))] [])) _
            refine XS.iloadN X0.here hx rfl (hb hby own_d4_63) rfl ?_
            show Steps p.tables e below (s₁.setTop (mkF m 64 #[.val (.int p1), .val (.int p1), .val (.int (p1 ||| (32 : Int32))), .val (.int (1 : Int32)), .val (.int (p1 - (48 : Int32))), .val (.int (0 : Int32)), .val (.int (1 : Int32))] [(.int (1 : Int32))])) _
            refine XS.ifYes X0.here hx rfl (pc0 := 64) (pc' := 77) rfl (hb hby own_d4_64) rfl ((if0 _ _).trans (feq (by decide : ¬ ((1 : Int32) = (0 : Int32)))).2) (by decide) (by decide) ?_
            show Steps p.tables e below (s₁.setTop (mkF m 77 #[.val (.int p1), .val (.int p1), .val (.int (p1 ||| (32 : Int32))), .val (.int (1 : Int32)), .val (.int (p1 - (48 : Int32))), .val (.int (0 : Int32)), .val (.int (1 : Int32))] [])) _
            refine XS.iconst X0.here hx rfl (hb hby own_d4_77) ?_
            show Steps p.tables e below (s₁.setTop (mkF m 78 #[.val (.int p1), .val (.int p1), .val (.int (p1 ||| (32 : Int32))), .val (.int (1 : Int32)), .val (.int (p1 - (48 : Int32))), .val (.int (0 : Int32)), .val (.int (1 : Int32))] [(.int (1 : Int32))])) _
            refine XS.goto X0.here hx rfl (pc0 := 78) (pc' := 82) rfl (hb hby own_d4_78) (by decide) (by decide) ?_
            show Steps p.tables e below (s₁.setTop (mkF m 82 #[.val (.int p1), .val (.int p1), .val (.int (p1 ||| (32 : Int32))), .val (.int (1 : Int32)), .val (.int (p1 - (48 : Int32))), .val (.int (0 : Int32)), .val (.int (1 : Int32))] [(.int (1 : Int32))])) _
            exact retN X0 hx (t := .boolean) Bd.returns (by simp) (hb hby own_d4_82) hr
          · show own_Q4 Z p1 h0 n0 _ s₁.heap _
            rw [e0]
            exact ⟨(by rw [own_f4, if_neg hc1, if_neg hc7, if_pos hc13, if_pos hc14]), N0, rfl⟩
        ·
          obtain ⟨fs, hr, hrun, hended, hW, hsame⟩ := X0.leave (v := some (.int (1 : Int32))) (fun h => by rw [Bd.returns] at h; cases h)
          refine ⟨_, _, k14 _ ?_, hrun, hended, _, _, rfl, ?_, ⟨_, rfl⟩, hW, hsame.mono (by decide) (by decide)⟩
          · show Steps p.tables e below (s₁.setTop (mkF m 53 #[.val (.int p1), .val (.int p1), .val (.int (p1 ||| (32 : Int32))), .val (.int (1 : Int32)), .val (.int (p1 - (48 : Int32))), .val (.int (0 : Int32)), .unset] [(.int (95 : Int32)), (.int p1)])) _
            refine XS.icmpYes X0.here hx rfl (pc0 := 53) (pc' := 60) rfl (hb hby own_d4_53) rfl (feq hc14).2 (by decide) (by decide) ?_
            show Steps p.tables e below (s₁.setTop (mkF m 60 #[.val (.int p1), .val (.int p1), .val (.int (p1 ||| (32 : Int32))), .val (.int (1 : Int32)), .val (.int (p1 - (48 : Int32))), .val (.int (0 : Int32)), .unset] [])) _
            refine XS.iconst X0.here hx rfl (hb hby own_d4_60) ?_
            show Steps p.tables e below (s₁.setTop (mkF m 61 #[.val (.int p1), .val (.int p1), .val (.int (p1 ||| (32 : Int32))), .val (.int (1 : Int32)), .val (.int (p1 - (48 : Int32))), .val (.int (0 : Int32)), .unset] [(.int (0 : Int32))])) _
            refine XS.istore X0.here hx rfl (hb hby own_d4_61) rfl (l' := #[.val (.int p1), .val (.int p1), .val (.int (p1 ||| (32 : Int32))), .val (.int (1 : Int32)), .val (.int (p1 - (48 : Int32))), .val (.int (0 : Int32)), .val (.int (0 : Int32))]) rfl ?_
            show Steps p.tables e below (s₁.setTop (mkF m 63 #[.val (.int p1), .val (.int p1), .val (.int (p1 ||| (32 : Int32))), .val (.int (1 : Int32)), .val (.int (p1 - (48 : Int32))), .val (.int (0 : Int32)), .val (.int (0 : Int32))] [])) _
            refine XS.iloadN X0.here hx rfl (hb hby own_d4_63) rfl ?_
            show Steps p.tables e below (s₁.setTop (mkF m 64 #[.val (.int p1), .val (.int p1), .val (.int (p1 ||| (32 : Int32))), .val (.int (1 : Int32)), .val (.int (p1 - (48 : Int32))), .val (.int (0 : Int32)), .val (.int (0 : Int32))] [(.int (1 : Int32))])) _
            refine XS.ifYes X0.here hx rfl (pc0 := 64) (pc' := 77) rfl (hb hby own_d4_64) rfl ((if0 _ _).trans (feq (by decide : ¬ ((1 : Int32) = (0 : Int32)))).2) (by decide) (by decide) ?_
            show Steps p.tables e below (s₁.setTop (mkF m 77 #[.val (.int p1), .val (.int p1), .val (.int (p1 ||| (32 : Int32))), .val (.int (1 : Int32)), .val (.int (p1 - (48 : Int32))), .val (.int (0 : Int32)), .val (.int (0 : Int32))] [])) _
            refine XS.iconst X0.here hx rfl (hb hby own_d4_77) ?_
            show Steps p.tables e below (s₁.setTop (mkF m 78 #[.val (.int p1), .val (.int p1), .val (.int (p1 ||| (32 : Int32))), .val (.int (1 : Int32)), .val (.int (p1 - (48 : Int32))), .val (.int (0 : Int32)), .val (.int (0 : Int32))] [(.int (1 : Int32))])) _
            refine XS.goto X0.here hx rfl (pc0 := 78) (pc' := 82) rfl (hb hby own_d4_78) (by decide) (by decide) ?_
            show Steps p.tables e below (s₁.setTop (mkF m 82 #[.val (.int p1), .val (.int p1), .val (.int (p1 ||| (32 : Int32))), .val (.int (1 : Int32)), .val (.int (p1 - (48 : Int32))), .val (.int (0 : Int32)), .val (.int (0 : Int32))] [(.int (1 : Int32))])) _
            exact retN X0 hx (t := .boolean) Bd.returns (by simp) (hb hby own_d4_82) hr
          · show own_Q4 Z p1 h0 n0 _ s₁.heap _
            rw [e0]
            exact ⟨(by rw [own_f4, if_neg hc1, if_neg hc7, if_pos hc13, if_neg hc14]), N0, rfl⟩
      ·
        have k15 : ∀ t, Steps p.tables e below (s₁.setTop (mkF m 40 #[.val (.int p1), .val (.int p1), .val (.int (p1 ||| (32 : Int32))), .val (.int (1 : Int32)), .val (.int (p1 - (48 : Int32))), .unset, .unset] [(.int (10 : Int32)), (.int (p1 - (48 : Int32)))])) t → Steps p.tables e below (s₁.setTop (entryFrame m #[(.int p1)] 7)) t := by
          intro t kt
          refine k13 t ?_
          show Steps p.tables e below (s₁.setTop (mkF m 33 #[.val (.int p1), .val (.int p1), .val (.int (p1 ||| (32 : Int32))), .val (.int (1 : Int32)), .val (.int (p1 - (48 : Int32))), .unset, .unset] [(.int (p1 - (48 : Int32)))])) _
          refine XS.ifNo X0.here hx rfl (hb hby own_d4_33) rfl ((if0 _ _).trans (flt hc13).1) ?_
          show Steps p.tables e below (s₁.setTop (mkF m 36 #[.val (.int p1), .val (.int p1), .val (.int (p1 ||| (32 : Int32))), .val (.int (1 : Int32)), .val (.int (p1 - (48 : Int32))), .unset, .unset] [])) _
          refine XS.iload X0.here hx rfl (hb hby own_d4_36) rfl ?_
          show Steps p.tables e below (s₁.setTop (mkF m 38 #[.val (.int p1), .val (.int p1), .val (.int (p1 ||| (32 : Int32))), .val (.int (1 : Int32)), .val (.int (p1 - (48 : Int32))), .unset, .unset] [(.int (p1 - (48 : Int32)))])) _
          refine XS.bipush X0.here hx rfl (hb hby own_d4_38) ?_
          exact kt
        by_cases hc15 : (p1 - (48 : Int32)) < (10 : Int32)
        ·
          have k16 : ∀ t, Steps p.tables e below (s₁.setTop (mkF m 53 #[.val (.int p1), .val (.int p1), .val (.int (p1 ||| (32 : Int32))), .val (.int (1 : Int32)), .val (.int (p1 - (48 : Int32))), .val (.int (1 : Int32)), .unset] [(.int (95 : Int32)), (.int p1)])) t → Steps p.tables e below (s₁.setTop (entryFrame m #[(.int p1)] 7)) t := by
            intro t kt
            refine k15 t ?_
            show Steps p.tables e below (s₁.setTop (mkF m 40 #[.val (.int p1), .val (.int p1), .val (.int (p1 ||| (32 : Int32))), .val (.int (1 : Int32)), .val (.int (p1 - (48 : Int32))), .unset, .unset] [(.int (10 : Int32)), (.int (p1 - (48 : Int32)))])) _
            refine XS.icmpNo X0.here hx rfl (hb hby own_d4_40) rfl (tlt hc15).2.1 ?_
            show Steps p.tables e below (s₁.setTop (mkF m 43 #[.val (.int p1), .val (.int p1), .val (.int (p1 ||| (32 : Int32))), .val (.int (1 : Int32)), .val (.int (p1 - (48 : Int32))), .unset, .unset] [])) _
            refine XS.iconst X0.here hx rfl (hb hby own_d4_43) ?_
            show Steps p.tables e below (s₁.setTop (mkF m 44 #[.val (.int p1), .val (.int p1), .val (.int (p1 ||| (32 : Int32))), .val (.int (1 : Int32)), .val (.int (p1 - (48 : Int32))), .unset, .unset] [(.int (1 : Int32))])) _
            refine XS.goto X0.here hx rfl (pc0 := 44) (pc' := 48) rfl (hb hby own_d4_44) (by decide) (by decide) ?_
            show Steps p.tables e below (s₁.setTop (mkF m 48 #[.val (.int p1), .val (.int p1), .val (.int (p1 ||| (32 : Int32))), .val (.int (1 : Int32)), .val (.int (p1 - (48 : Int32))), .unset, .unset] [(.int (1 : Int32))])) _
            refine XS.istore X0.here hx rfl (hb hby own_d4_48) rfl (l' := #[.val (.int p1), .val (.int p1), .val (.int (p1 ||| (32 : Int32))), .val (.int (1 : Int32)), .val (.int (p1 - (48 : Int32))), .val (.int (1 : Int32)), .unset]) rfl ?_
            show Steps p.tables e below (s₁.setTop (mkF m 50 #[.val (.int p1), .val (.int p1), .val (.int (p1 ||| (32 : Int32))), .val (.int (1 : Int32)), .val (.int (p1 - (48 : Int32))), .val (.int (1 : Int32)), .unset] [])) _
            refine XS.iloadN X0.here hx rfl (hb hby own_d4_50) rfl ?_
            show Steps p.tables e below (s₁.setTop (mkF m 51 #[.val (.int p1), .val (.int p1), .val (.int (p1 ||| (32 : Int32))), .val (.int (1 : Int32)), .val (.int (p1 - (48 : Int32))), .val (.int (1 : Int32)), .unset] [(.int p1)])) _
            refine XS.bipush X0.here hx rfl (hb hby own_d4_51) ?_
            exact kt
          by_cases hc16 : p1 = (95 : Int32)
          ·
            obtain ⟨fs, hr, hrun, hended, hW, hsame⟩ := X0.leave (v := some (.int (1 : Int32))) (fun h => by rw [Bd.returns] at h; cases h)
            refine ⟨_, _, k16 _ ?_, hrun, hended, _, _, rfl, ?_, ⟨_, rfl⟩, hW, hsame.mono (by decide) (by decide)⟩
            · show Steps p.tables e below (s₁.setTop (mkF m 53 #[.val (.int p1), .val (.int p1), .val (.int (p1 ||| (32 : Int32))), .val (.int (1 : Int32)), .val (.int (p1 - (48 : Int32))), .val (.int (1 : Int32)), .unset] [(.int (95 : Int32)), (.int p1)])) _
              refine XS.icmpNo X0.here hx rfl (hb hby own_d4_53) rfl (teq hc16).2 ?_
              show Steps p.tables e below (s₁.setTop (mkF m 56 #[.val (.int p1), .val (.int p1), .val (.int (p1 ||| (32 : Int32))), .val (.int (1 : Int32)), .val (.int (p1 - (48 : Int32))), .val (.int (1 : Int32)), .unset] [])) _
              refine XS.iconst X0.here hx rfl (hb hby own_d4_56) ?_
              show Steps p.tables e below (s₁.setTop (mkF m 57 #[.val (.int p1), .val (.int p1), .val (.int (p1 ||| (32 : Int32))), .val (.int (1 : Int32)), .val (.int (p1 - (48 : Int32))), .val (.int (1 : Int32)), .unset] [(.int (1 : Int32))])) _
              refine XS.goto X0.here hx rfl (pc0 := 57) (pc' := 61) rfl (hb hby own_d4_57) (by decide) (by decide) ?_
              show Steps p.tables e below (s₁.setTop (mkF m 61 #[.val (.int p1), .val (.int p1), .val (.int (p1 ||| (32 : Int32))), .val (.int (1 : Int32)), .val (.int (p1 - (48 : Int32))), .val (.int (1 : Int32)), .unset] [(.int (1 : Int32))])) _
              refine XS.istore X0.here hx rfl (hb hby own_d4_61) rfl (l' := #[.val (.int p1), .val (.int p1), .val (.int (p1 ||| (32 : Int32))), .val (.int (1 : Int32)), .val (.int (p1 - (48 : Int32))), .val (.int (1 : Int32)), .val (.int (1 : Int32))]) rfl ?_
              show Steps p.tables e below (s₁.setTop (mkF m 63 #[.val (.int p1), .val (.int p1), .val (.int (p1 ||| (32 : Int32))), .val (.int (1 : Int32)), .val (.int (p1 - (48 : Int32))), .val (.int (1 : Int32)), .val (.int (1 : Int32))] [])) _
              refine XS.iloadN X0.here hx rfl (hb hby own_d4_63) rfl ?_
              show Steps p.tables e below (s₁.setTop (mkF m 64 #[.val (.int p1), .val (.int p1), .val (.int (p1 ||| (32 : Int32))), .val (.int (1 : Int32)), .val (.int (p1 - (48 : Int32))), .val (.int (1 : Int32)), .val (.int (1 : Int32))] [(.int (1 : Int32))])) _
              refine XS.ifYes X0.here hx rfl (pc0 := 64) (pc' := 77) rfl (hb hby own_d4_64) rfl ((if0 _ _).trans (feq (by decide : ¬ ((1 : Int32) = (0 : Int32)))).2) (by decide) (by decide) ?_
              show Steps p.tables e below (s₁.setTop (mkF m 77 #[.val (.int p1), .val (.int p1), .val (.int (p1 ||| (32 : Int32))), .val (.int (1 : Int32)), .val (.int (p1 - (48 : Int32))), .val (.int (1 : Int32)), .val (.int (1 : Int32))] [])) _
              refine XS.iconst X0.here hx rfl (hb hby own_d4_77) ?_
              show Steps p.tables e below (s₁.setTop (mkF m 78 #[.val (.int p1), .val (.int p1), .val (.int (p1 ||| (32 : Int32))), .val (.int (1 : Int32)), .val (.int (p1 - (48 : Int32))), .val (.int (1 : Int32)), .val (.int (1 : Int32))] [(.int (1 : Int32))])) _
              refine XS.goto X0.here hx rfl (pc0 := 78) (pc' := 82) rfl (hb hby own_d4_78) (by decide) (by decide) ?_
              show Steps p.tables e below (s₁.setTop (mkF m 82 #[.val (.int p1), .val (.int p1), .val (.int (p1 ||| (32 : Int32))), .val (.int (1 : Int32)), .val (.int (p1 - (48 : Int32))), .val (.int (1 : Int32)), .val (.int (1 : Int32))] [(.int (1 : Int32))])) _
              exact retN X0 hx (t := .boolean) Bd.returns (by simp) (hb hby own_d4_82) hr
            · show own_Q4 Z p1 h0 n0 _ s₁.heap _
              rw [e0]
              exact ⟨(by rw [own_f4, if_neg hc1, if_neg hc7, if_neg hc13, if_pos hc15, if_pos hc16]), N0, rfl⟩
          ·
            obtain ⟨fs, hr, hrun, hended, hW, hsame⟩ := X0.leave (v := some (.int (1 : Int32))) (fun h => by rw [Bd.returns] at h; cases h)
            refine ⟨_, _, k16 _ ?_, hrun, hended, _, _, rfl, ?_, ⟨_, rfl⟩, hW, hsame.mono (by decide) (by decide)⟩
            · show Steps p.tables e below (s₁.setTop (mkF m 53 #[.val (.int p1), .val (.int p1), .val (.int (p1 ||| (32 : Int32))), .val (.int (1 : Int32)), .val (.int (p1 - (48 : Int32))), .val (.int (1 : Int32)), .unset] [(.int (95 : Int32)), (.int p1)])) _
              refine XS.icmpYes X0.here hx rfl (pc0 := 53) (pc' := 60) rfl (hb hby own_d4_53) rfl (feq hc16).2 (by decide) (by decide) ?_
              show Steps p.tables e below (s₁.setTop (mkF m 60 #[.val (.int p1), .val (.int p1), .val (.int (p1 ||| (32 : Int32))), .val (.int (1 : Int32)), .val (.int (p1 - (48 : Int32))), .val (.int (1 : Int32)), .unset] [])) _
              refine XS.iconst X0.here hx rfl (hb hby own_d4_60) ?_
              show Steps p.tables e below (s₁.setTop (mkF m 61 #[.val (.int p1), .val (.int p1), .val (.int (p1 ||| (32 : Int32))), .val (.int (1 : Int32)), .val (.int (p1 - (48 : Int32))), .val (.int (1 : Int32)), .unset] [(.int (0 : Int32))])) _
              refine XS.istore X0.here hx rfl (hb hby own_d4_61) rfl (l' := #[.val (.int p1), .val (.int p1), .val (.int (p1 ||| (32 : Int32))), .val (.int (1 : Int32)), .val (.int (p1 - (48 : Int32))), .val (.int (1 : Int32)), .val (.int (0 : Int32))]) rfl ?_
              show Steps p.tables e below (s₁.setTop (mkF m 63 #[.val (.int p1), .val (.int p1), .val (.int (p1 ||| (32 : Int32))), .val (.int (1 : Int32)), .val (.int (p1 - (48 : Int32))), .val (.int (1 : Int32)), .val (.int (0 : Int32))] [])) _
              refine XS.iloadN X0.here hx rfl (hb hby own_d4_63) rfl ?_
              show Steps p.tables e below (s₁.setTop (mkF m 64 #[.val (.int p1), .val (.int p1), .val (.int (p1 ||| (32 : Int32))), .val (.int (1 : Int32)), .val (.int (p1 - (48 : Int32))), .val (.int (1 : Int32)), .val (.int (0 : Int32))] [(.int (1 : Int32))])) _
              refine XS.ifYes X0.here hx rfl (pc0 := 64) (pc' := 77) rfl (hb hby own_d4_64) rfl ((if0 _ _).trans (feq (by decide : ¬ ((1 : Int32) = (0 : Int32)))).2) (by decide) (by decide) ?_
              show Steps p.tables e below (s₁.setTop (mkF m 77 #[.val (.int p1), .val (.int p1), .val (.int (p1 ||| (32 : Int32))), .val (.int (1 : Int32)), .val (.int (p1 - (48 : Int32))), .val (.int (1 : Int32)), .val (.int (0 : Int32))] [])) _
              refine XS.iconst X0.here hx rfl (hb hby own_d4_77) ?_
              show Steps p.tables e below (s₁.setTop (mkF m 78 #[.val (.int p1), .val (.int p1), .val (.int (p1 ||| (32 : Int32))), .val (.int (1 : Int32)), .val (.int (p1 - (48 : Int32))), .val (.int (1 : Int32)), .val (.int (0 : Int32))] [(.int (1 : Int32))])) _
              refine XS.goto X0.here hx rfl (pc0 := 78) (pc' := 82) rfl (hb hby own_d4_78) (by decide) (by decide) ?_
              show Steps p.tables e below (s₁.setTop (mkF m 82 #[.val (.int p1), .val (.int p1), .val (.int (p1 ||| (32 : Int32))), .val (.int (1 : Int32)), .val (.int (p1 - (48 : Int32))), .val (.int (1 : Int32)), .val (.int (0 : Int32))] [(.int (1 : Int32))])) _
              exact retN X0 hx (t := .boolean) Bd.returns (by simp) (hb hby own_d4_82) hr
            · show own_Q4 Z p1 h0 n0 _ s₁.heap _
              rw [e0]
              exact ⟨(by rw [own_f4, if_neg hc1, if_neg hc7, if_neg hc13, if_pos hc15, if_neg hc16]), N0, rfl⟩
        ·
          have k17 : ∀ t, Steps p.tables e below (s₁.setTop (mkF m 53 #[.val (.int p1), .val (.int p1), .val (.int (p1 ||| (32 : Int32))), .val (.int (1 : Int32)), .val (.int (p1 - (48 : Int32))), .val (.int (0 : Int32)), .unset] [(.int (95 : Int32)), (.int p1)])) t → Steps p.tables e below (s₁.setTop (entryFrame m #[(.int p1)] 7)) t := by
            intro t kt
            refine k15 t ?_
            show Steps p.tables e below (s₁.setTop (mkF m 40 #[.val (.int p1), .val (.int p1), .val (.int (p1 ||| (32 : Int32))), .val (.int (1 : Int32)), .val (.int (p1 - (48 : Int32))), .unset, .unset] [(.int (10 : Int32)), (.int (p1 - (48 : Int32)))])) _
            refine XS.icmpYes X0.here hx rfl (pc0 := 40) (pc' := 47) rfl (hb hby own_d4_40) rfl (flt hc15).2.1 (by decide) (by decide) ?_
            show Steps p.tables e below (s₁.setTop (mkF m 47 #[.val (.int p1), .val (.int p1), .val (.int (p1 ||| (32 : Int32))), .val (.int (1 : Int32)), .val (.int (p1 - (48 : Int32))), .unset, .unset] [])) _
            refine XS.iconst X0.here hx rfl (hb hby own_d4_47) ?_
            show Steps p.tables e below (s₁.setTop (mkF m 48 #[.val (.int p1), .val (.int p1), .val (.int (p1 ||| (32 : Int32))), .val (.int (1 : Int32)), .val (.int (p1 - (48 : Int32))), .unset, .unset] [(.int (0 : Int32))])) _
            refine XS.istore X0.here hx rfl (hb hby own_d4_48) rfl (l' := #[.val (.int p1), .val (.int p1), .val (.int (p1 ||| (32 : Int32))), .val (.int (1 : Int32)), .val (.int (p1 - (48 : Int32))), .val (.int (0 : Int32)), .unset]) rfl ?_
            show Steps p.tables e below (s₁.setTop (mkF m 50 #[.val (.int p1), .val (.int p1), .val (.int (p1 ||| (32 : Int32))), .val (.int (1 : Int32)), .val (.int (p1 - (48 : Int32))), .val (.int (0 : Int32)), .unset] [])) _
            refine XS.iloadN X0.here hx rfl (hb hby own_d4_50) rfl ?_
            show Steps p.tables e below (s₁.setTop (mkF m 51 #[.val (.int p1), .val (.int p1), .val (.int (p1 ||| (32 : Int32))), .val (.int (1 : Int32)), .val (.int (p1 - (48 : Int32))), .val (.int (0 : Int32)), .unset] [(.int p1)])) _
            refine XS.bipush X0.here hx rfl (hb hby own_d4_51) ?_
            exact kt
          by_cases hc17 : p1 = (95 : Int32)
          ·
            obtain ⟨fs, hr, hrun, hended, hW, hsame⟩ := X0.leave (v := some (.int (1 : Int32))) (fun h => by rw [Bd.returns] at h; cases h)
            refine ⟨_, _, k17 _ ?_, hrun, hended, _, _, rfl, ?_, ⟨_, rfl⟩, hW, hsame.mono (by decide) (by decide)⟩
            · show Steps p.tables e below (s₁.setTop (mkF m 53 #[.val (.int p1), .val (.int p1), .val (.int (p1 ||| (32 : Int32))), .val (.int (1 : Int32)), .val (.int (p1 - (48 : Int32))), .val (.int (0 : Int32)), .unset] [(.int (95 : Int32)), (.int p1)])) _
              refine XS.icmpNo X0.here hx rfl (hb hby own_d4_53) rfl (teq hc17).2 ?_
              show Steps p.tables e below (s₁.setTop (mkF m 56 #[.val (.int p1), .val (.int p1), .val (.int (p1 ||| (32 : Int32))), .val (.int (1 : Int32)), .val (.int (p1 - (48 : Int32))), .val (.int (0 : Int32)), .unset] [])) _
              refine XS.iconst X0.here hx rfl (hb hby own_d4_56) ?_
              show Steps p.tables e below (s₁.setTop (mkF m 57 #[.val (.int p1), .val (.int p1), .val (.int (p1 ||| (32 : Int32))), .val (.int (1 : Int32)), .val (.int (p1 - (48 : Int32))), .val (.int (0 : Int32)), .unset] [(.int (1 : Int32))])) _
              refine XS.goto X0.here hx rfl (pc0 := 57) (pc' := 61) rfl (hb hby own_d4_57) (by decide) (by decide) ?_
              show Steps p.tables e below (s₁.setTop (mkF m 61 #[.val (.int p1), .val (.int p1), .val (.int (p1 ||| (32 : Int32))), .val (.int (1 : Int32)), .val (.int (p1 - (48 : Int32))), .val (.int (0 : Int32)), .unset] [(.int (1 : Int32))])) _
              refine XS.istore X0.here hx rfl (hb hby own_d4_61) rfl (l' := #[.val (.int p1), .val (.int p1), .val (.int (p1 ||| (32 : Int32))), .val (.int (1 : Int32)), .val (.int (p1 - (48 : Int32))), .val (.int (0 : Int32)), .val (.int (1 : Int32))]) rfl ?_
              show Steps p.tables e below (s₁.setTop (mkF m 63 #[.val (.int p1), .val (.int p1), .val (.int (p1 ||| (32 : Int32))), .val (.int (1 : Int32)), .val (.int (p1 - (48 : Int32))), .val (.int (0 : Int32)), .val (.int (1 : Int32))] [])) _
              refine XS.iloadN X0.here hx rfl (hb hby own_d4_63) rfl ?_
              show Steps p.tables e below (s₁.setTop (mkF m 64 #[.val (.int p1), .val (.int p1), .val (.int (p1 ||| (32 : Int32))), .val (.int (1 : Int32)), .val (.int (p1 - (48 : Int32))), .val (.int (0 : Int32)), .val (.int (1 : Int32))] [(.int (1 : Int32))])) _
              refine XS.ifYes X0.here hx rfl (pc0 := 64) (pc' := 77) rfl (hb hby own_d4_64) rfl ((if0 _ _).trans (feq (by decide : ¬ ((1 : Int32) = (0 : Int32)))).2) (by decide) (by decide) ?_
              show Steps p.tables e below (s₁.setTop (mkF m 77 #[.val (.int p1), .val (.int p1), .val (.int (p1 ||| (32 : Int32))), .val (.int (1 : Int32)), .val (.int (p1 - (48 : Int32))), .val (.int (0 : Int32)), .val (.int (1 : Int32))] [])) _
              refine XS.iconst X0.here hx rfl (hb hby own_d4_77) ?_
              show Steps p.tables e below (s₁.setTop (mkF m 78 #[.val (.int p1), .val (.int p1), .val (.int (p1 ||| (32 : Int32))), .val (.int (1 : Int32)), .val (.int (p1 - (48 : Int32))), .val (.int (0 : Int32)), .val (.int (1 : Int32))] [(.int (1 : Int32))])) _
              refine XS.goto X0.here hx rfl (pc0 := 78) (pc' := 82) rfl (hb hby own_d4_78) (by decide) (by decide) ?_
              show Steps p.tables e below (s₁.setTop (mkF m 82 #[.val (.int p1), .val (.int p1), .val (.int (p1 ||| (32 : Int32))), .val (.int (1 : Int32)), .val (.int (p1 - (48 : Int32))), .val (.int (0 : Int32)), .val (.int (1 : Int32))] [(.int (1 : Int32))])) _
              exact retN X0 hx (t := .boolean) Bd.returns (by simp) (hb hby own_d4_82) hr
            · show own_Q4 Z p1 h0 n0 _ s₁.heap _
              rw [e0]
              exact ⟨(by rw [own_f4, if_neg hc1, if_neg hc7, if_neg hc13, if_neg hc15, if_pos hc17]), N0, rfl⟩
          ·
            obtain ⟨fs, hr, hrun, hended, hW, hsame⟩ := X0.leave (v := some (.int (1 : Int32))) (fun h => by rw [Bd.returns] at h; cases h)
            refine ⟨_, _, k17 _ ?_, hrun, hended, _, _, rfl, ?_, ⟨_, rfl⟩, hW, hsame.mono (by decide) (by decide)⟩
            · show Steps p.tables e below (s₁.setTop (mkF m 53 #[.val (.int p1), .val (.int p1), .val (.int (p1 ||| (32 : Int32))), .val (.int (1 : Int32)), .val (.int (p1 - (48 : Int32))), .val (.int (0 : Int32)), .unset] [(.int (95 : Int32)), (.int p1)])) _
              refine XS.icmpYes X0.here hx rfl (pc0 := 53) (pc' := 60) rfl (hb hby own_d4_53) rfl (feq hc17).2 (by decide) (by decide) ?_
              show Steps p.tables e below (s₁.setTop (mkF m 60 #[.val (.int p1), .val (.int p1), .val (.int (p1 ||| (32 : Int32))), .val (.int (1 : Int32)), .val (.int (p1 - (48 : Int32))), .val (.int (0 : Int32)), .unset] [])) _
              refine XS.iconst X0.here hx rfl (hb hby own_d4_60) ?_
              show Steps p.tables e below (s₁.setTop (mkF m 61 #[.val (.int p1), .val (.int p1), .val (.int (p1 ||| (32 : Int32))), .val (.int (1 : Int32)), .val (.int (p1 - (48 : Int32))), .val (.int (0 : Int32)), .unset] [(.int (0 : Int32))])) _
              refine XS.istore X0.here hx rfl (hb hby own_d4_61) rfl (l' := #[.val (.int p1), .val (.int p1), .val (.int (p1 ||| (32 : Int32))), .val (.int (1 : Int32)), .val (.int (p1 - (48 : Int32))), .val (.int (0 : Int32)), .val (.int (0 : Int32))]) rfl ?_
              show Steps p.tables e below (s₁.setTop (mkF m 63 #[.val (.int p1), .val (.int p1), .val (.int (p1 ||| (32 : Int32))), .val (.int (1 : Int32)), .val (.int (p1 - (48 : Int32))), .val (.int (0 : Int32)), .val (.int (0 : Int32))] [])) _
              refine XS.iloadN X0.here hx rfl (hb hby own_d4_63) rfl ?_
              show Steps p.tables e below (s₁.setTop (mkF m 64 #[.val (.int p1), .val (.int p1), .val (.int (p1 ||| (32 : Int32))), .val (.int (1 : Int32)), .val (.int (p1 - (48 : Int32))), .val (.int (0 : Int32)), .val (.int (0 : Int32))] [(.int (1 : Int32))])) _
              refine XS.ifYes X0.here hx rfl (pc0 := 64) (pc' := 77) rfl (hb hby own_d4_64) rfl ((if0 _ _).trans (feq (by decide : ¬ ((1 : Int32) = (0 : Int32)))).2) (by decide) (by decide) ?_
              show Steps p.tables e below (s₁.setTop (mkF m 77 #[.val (.int p1), .val (.int p1), .val (.int (p1 ||| (32 : Int32))), .val (.int (1 : Int32)), .val (.int (p1 - (48 : Int32))), .val (.int (0 : Int32)), .val (.int (0 : Int32))] [])) _
              refine XS.iconst X0.here hx rfl (hb hby own_d4_77) ?_
              show Steps p.tables e below (s₁.setTop (mkF m 78 #[.val (.int p1), .val (.int p1), .val (.int (p1 ||| (32 : Int32))), .val (.int (1 : Int32)), .val (.int (p1 - (48 : Int32))), .val (.int (0 : Int32)), .val (.int (0 : Int32))] [(.int (1 : Int32))])) _
              refine XS.goto X0.here hx rfl (pc0 := 78) (pc' := 82) rfl (hb hby own_d4_78) (by decide) (by decide) ?_
              show Steps p.tables e below (s₁.setTop (mkF m 82 #[.val (.int p1), .val (.int p1), .val (.int (p1 ||| (32 : Int32))), .val (.int (1 : Int32)), .val (.int (p1 - (48 : Int32))), .val (.int (0 : Int32)), .val (.int (0 : Int32))] [(.int (1 : Int32))])) _
              exact retN X0 hx (t := .boolean) Bd.returns (by simp) (hb hby own_d4_82) hr
            · show own_Q4 Z p1 h0 n0 _ s₁.heap _
              rw [e0]
              exact ⟨(by rw [own_f4, if_neg hc1, if_neg hc7, if_neg hc13, if_neg hc15, if_neg hc17]), N0, rfl⟩
-- body 0
theorem own_ef0 (m : MethodId) (x0 : Int32) (x1 : Int32) : entryFrame m #[(.int x0), (.int x1)] maxLocals = mkF m 0 #[.val (.int x0), .val (.int x1), .unset, .unset, .unset, .unset] [] := by first | (simp [entryFrame, mkF, argsToLocals, Value.category, maxLocals]; done) | rfl
def own_f0 (p1 : Int32) (p2 : Int32) : Int32 := if (own_f1 (p1.toUInt32.toUInt16.toUInt32.toInt32)) = (own_f4 (p1.toUInt32.toUInt16.toUInt32.toInt32)) then (if (own_f1 ((p2 &&& (127 : Int32)).toUInt32.toUInt16.toUInt32.toInt32)) = (own_f4 ((p2 &&& (127 : Int32)).toUInt32.toUInt16.toUInt32.toInt32)) then (1 : Int32)
      else (0 : Int32))
    else if (own_f1 ((p2 &&& (127 : Int32)).toUInt32.toUInt16.toUInt32.toInt32)) = (own_f4 ((p2 &&& (127 : Int32)).toUInt32.toUInt16.toUInt32.toInt32)) then (0 : Int32)
      else (0 : Int32)
def own_Q0 (Z : State) (p1 : Int32) (p2 : Int32) (h0 : Heap) (n0 : Nat) (v : Option Value) (h : Heap) (L : List Loc) : Prop := v = some (.int (own_f0 p1 p2)) ∧ Fr n0 L
set_option maxRecDepth 65536 in
set_option maxHeartbeats 40000000 in
theorem own_rm0 (l : Launch) (Z : State) (a0 : Array Value) (hw : ∀ d ∈ tables_1, d.before a0 Z = true) (ws : List Jvm.Cond) (p1 : Int32) (p2 : Int32) (h0 : Heap) (n0 : Nat) (Z0 : n0 ≤ h0.size) :
    MetFree l x (head1 (Jvm.Cond.code x code maxLocals ret :: ws) room_1) (fun a U => a = #[(.int p1), (.int p2)] ∧ Z.Warmed39 U.vm ∧ U.heap = h0) (fun _ _ _ _ _ => True) (fun _ U o U' => ∃ v L, o = .returned v ∧ own_Q0 Z p1 p2 h0 n0 v U'.heap L ∧ FrameEnd U o U' L room_1.cells room_1.slots) := by
  refine MetFree.of_bodySF (plainFor_of_name own_pn41) hisR ?_
  intro p e s m args below meth c s₁ Bd hml0 hP hK
  obtain ⟨rfl, hZ, hh⟩ := hP
  have hx := Bd.exec
  have hby := Bd.bytes
  have hml : c.maxLocals = 6 := hml0
  have hown : s.vm.findClass "com/example/nanshe/nanshe/model/LabelNamesIsNameCharacterPinLaw" = some m.cls := findClass_of_methodNamed Bd.named
  have hnm := (name_of_methodNamed Bd.named Bd.method).1
  have X0 : Stand p l e room_1 s m #[(.int p1), (.int p2)] below meth c s₁ [] 0 0 := Stand.of_body Bd
  have e0 : s₁.heap = h0 := by rw [← hh, Bd.state]; rfl
  have N0 := Fr.nil n0
  have pre0 : ∀ t, Steps p.tables e below (s₁.setTop (mkF m 0 #[.val (.int p1), .val (.int p2), .unset, .unset, .unset, .unset] [])) t → Steps p.tables e below (s₁.setTop (entryFrame m #[(.int p1), (.int p2)] maxLocals)) t := fun t k => castTop (own_ef0 m p1 p2) k
  obtain ⟨v1, _, ⟨T1, L1, k1, n1⟩, -, X1, ⟨Lc1, hQ1, l1, y1, z1⟩, st1⟩ := Jvm.LawKit.callS X0 hx (y := (⟨"com/example/nanshe/nanshe/model/LabelNames", "isNameCharacter", "(C)Z"⟩ : MethodName)) hown (mvT hZ (hw _ (List.mem_of_getElem? (i := 0) rfl))) (mvT hZ (hw _ (List.mem_of_getElem? (i := 1) rfl))) (mvT hZ (hw _ (List.mem_of_getElem? (i := 2) rfl))) (mvT hZ (hw _ (List.mem_of_getElem? (i := 3) rfl))) (by decide) (backOf (W := 0) (own_rm1 l Z a0 hw [] (p1.toUInt32.toUInt16.toUInt32.toInt32) h0 n0 Z0) hZ (hw _ (List.mem_of_getElem? (i := 3) rfl)) (hw _ (List.mem_of_getElem? (i := 2) rfl)) (by decide) (by decide)) (g := (mkF m 10 #[.val (.int p1), .val (.int p2), .val (.int (p1.toUInt32.toUInt16.toUInt32.toInt32)), .val (.int ((p2 &&& (127 : Int32)).toUInt32.toUInt16.toUInt32.toInt32)), .unset, .unset] [(.int (p1.toUInt32.toUInt16.toUInt32.toInt32))])) rfl (by rw [hml]; rfl) (argsL := [(.int (p1.toUInt32.toUInt16.toUInt32.toInt32))]) (rest := []) (lenOf own_pd27 rfl) rfl (by show 2 * 0 + _ ≤ _; exact Nat.le_of_eq rfl) (hb hby at_10) (fun _ _ => ⟨rfl, e0, (by decide : 0 + 0 ≤ _), (by decide : 0 + 0 ≤ _)⟩)
  dsimp only [Pt.U, Pt.locs, Pt.cells, Pt.slots] at X1 l1 y1 z1 st1 hQ1
  subst l1 y1 z1
  obtain ⟨rfl, N1q, e1⟩ := hQ1
  have N2 := Fr.app N0 N1q
  obtain ⟨v3, _, ⟨T3, L3, k3, n3⟩, -, X3, ⟨Lc3, hQ3, l3, y3, z3⟩, st3⟩ := Jvm.LawKit.callS X1 hx (y := (⟨"com/example/nanshe/nanshe/model/LabelNamesIsNameCharacterPinLaw", "expected", "(C)Z"⟩ : MethodName)) hown (mvT hZ (hw _ (List.mem_of_getElem? (i := 10) rfl))) (mvT hZ (hw _ (List.mem_of_getElem? (i := 11) rfl))) (mvT hZ (hw _ (List.mem_of_getElem? (i := 12) rfl))) (mvT hZ (hw _ (List.mem_of_getElem? (i := 13) rfl))) (by decide) (backOf (W := 1) (own_rm4 l Z a0 hw [] (p1.toUInt32.toUInt16.toUInt32.toInt32) h0 n0 Z0) hZ (hw _ (List.mem_of_getElem? (i := 13) rfl)) (hw _ (List.mem_of_getElem? (i := 12) rfl)) (by decide) (by decide)) (g := (mkF m 14 #[.val (.int p1), .val (.int p2), .val (.int (p1.toUInt32.toUInt16.toUInt32.toInt32)), .val (.int ((p2 &&& (127 : Int32)).toUInt32.toUInt16.toUInt32.toInt32)), .unset, .unset] [(.int (p1.toUInt32.toUInt16.toUInt32.toInt32)), (.int (own_f1 (p1.toUInt32.toUInt16.toUInt32.toInt32)))])) rfl (by rw [hml]; rfl) (argsL := [(.int (p1.toUInt32.toUInt16.toUInt32.toInt32))]) (rest := [(.int (own_f1 (p1.toUInt32.toUInt16.toUInt32.toInt32)))]) (lenOf own_pd27 rfl) rfl (by show 2 * 0 + _ ≤ _; exact Nat.le_of_eq rfl) (hb hby at_14) (fun _ _ => ⟨rfl, e1, (by decide : 0 + 0 ≤ _), (by decide : 0 + 0 ≤ _)⟩)
  dsimp only [Pt.U, Pt.locs, Pt.cells, Pt.slots] at X3 l3 y3 z3 st3 hQ3
  subst l3 y3 z3
  obtain ⟨rfl, N3q, e3⟩ := hQ3
  have N4 := Fr.app N2 N3q
  have k5 : ∀ t, Steps p.tables e below (T3.setTop (mkF m 17 #[.val (.int p1), .val (.int p2), .val (.int (p1.toUInt32.toUInt16.toUInt32.toInt32)), .val (.int ((p2 &&& (127 : Int32)).toUInt32.toUInt16.toUInt32.toInt32)), .unset, .unset] [(.int (own_f4 (p1.toUInt32.toUInt16.toUInt32.toInt32))), (.int (own_f1 (p1.toUInt32.toUInt16.toUInt32.toInt32)))])) t → Steps p.tables e below (s₁.setTop (entryFrame m #[(.int p1), (.int p2)] maxLocals)) t := by
    intro t kt
    refine pre0 t ?_
    show Steps p.tables e below (s₁.setTop (mkF m 0 #[.val (.int p1), .val (.int p2), .unset, .unset, .unset, .unset] [])) _
    refine XS.iloadN X0.here hx rfl (hb hby at_0) rfl ?_
    show Steps p.tables e below (s₁.setTop (mkF m 1 #[.val (.int p1), .val (.int p2), .unset, .unset, .unset, .unset] [(.int p1)])) _
    refine XS.i2c X0.here hx rfl (hb hby at_1) rfl ?_
    show Steps p.tables e below (s₁.setTop (mkF m 2 #[.val (.int p1), .val (.int p2), .unset, .unset, .unset, .unset] [(.int (p1.toUInt32.toUInt16.toUInt32.toInt32))])) _
    refine XS.istoreN X0.here hx rfl (hb hby at_2) rfl (l' := #[.val (.int p1), .val (.int p2), .val (.int (p1.toUInt32.toUInt16.toUInt32.toInt32)), .unset, .unset, .unset]) rfl ?_
    show Steps p.tables e below (s₁.setTop (mkF m 3 #[.val (.int p1), .val (.int p2), .val (.int (p1.toUInt32.toUInt16.toUInt32.toInt32)), .unset, .unset, .unset] [])) _
    refine XS.iloadN X0.here hx rfl (hb hby at_3) rfl ?_
    show Steps p.tables e below (s₁.setTop (mkF m 4 #[.val (.int p1), .val (.int p2), .val (.int (p1.toUInt32.toUInt16.toUInt32.toInt32)), .unset, .unset, .unset] [(.int p2)])) _
    refine XS.bipush X0.here hx rfl (hb hby at_4) ?_
    show Steps p.tables e below (s₁.setTop (mkF m 6 #[.val (.int p1), .val (.int p2), .val (.int (p1.toUInt32.toUInt16.toUInt32.toInt32)), .unset, .unset, .unset] [(.int (127 : Int32)), (.int p2)])) _
    refine XS.iand X0.here hx rfl (hb hby at_6) rfl ?_
    show Steps p.tables e below (s₁.setTop (mkF m 7 #[.val (.int p1), .val (.int p2), .val (.int (p1.toUInt32.toUInt16.toUInt32.toInt32)), .unset, .unset, .unset] [(.int (p2 &&& (127 : Int32)))])) _
    refine XS.i2c X0.here hx rfl (hb hby at_7) rfl ?_
    show Steps p.tables e below (s₁.setTop (mkF m 8 #[.val (.int p1), .val (.int p2), .val (.int (p1.toUInt32.toUInt16.toUInt32.toInt32)), .unset, .unset, .unset] [(.int ((p2 &&& (127 : Int32)).toUInt32.toUInt16.toUInt32.toInt32))])) _
    refine XS.istoreN X0.here hx rfl (hb hby at_8) rfl (l' := #[.val (.int p1), .val (.int p2), .val (.int (p1.toUInt32.toUInt16.toUInt32.toInt32)), .val (.int ((p2 &&& (127 : Int32)).toUInt32.toUInt16.toUInt32.toInt32)), .unset, .unset]) rfl ?_
    show Steps p.tables e below (s₁.setTop (mkF m 9 #[.val (.int p1), .val (.int p2), .val (.int (p1.toUInt32.toUInt16.toUInt32.toInt32)), .val (.int ((p2 &&& (127 : Int32)).toUInt32.toUInt16.toUInt32.toInt32)), .unset, .unset] [])) _
    refine XS.iloadN X0.here hx rfl (hb hby at_9) rfl ?_
    show Steps p.tables e below (s₁.setTop (mkF m 10 #[.val (.int p1), .val (.int p2), .val (.int (p1.toUInt32.toUInt16.toUInt32.toInt32)), .val (.int ((p2 &&& (127 : Int32)).toUInt32.toUInt16.toUInt32.toInt32)), .unset, .unset] [(.int (p1.toUInt32.toUInt16.toUInt32.toInt32))])) _
    refine st1 _ ?_
    show Steps p.tables e below (T1.setTop (mkF m 13 #[.val (.int p1), .val (.int p2), .val (.int (p1.toUInt32.toUInt16.toUInt32.toInt32)), .val (.int ((p2 &&& (127 : Int32)).toUInt32.toUInt16.toUInt32.toInt32)), .unset, .unset] [(.int (own_f1 (p1.toUInt32.toUInt16.toUInt32.toInt32)))])) _
    refine XS.iloadN X1.here hx rfl (hb hby at_13) rfl ?_
    show Steps p.tables e below (T1.setTop (mkF m 14 #[.val (.int p1), .val (.int p2), .val (.int (p1.toUInt32.toUInt16.toUInt32.toInt32)), .val (.int ((p2 &&& (127 : Int32)).toUInt32.toUInt16.toUInt32.toInt32)), .unset, .unset] [(.int (p1.toUInt32.toUInt16.toUInt32.toInt32)), (.int (own_f1 (p1.toUInt32.toUInt16.toUInt32.toInt32)))])) _
    refine st3 _ ?_
    exact kt
  by_cases hc1 : (own_f1 (p1.toUInt32.toUInt16.toUInt32.toInt32)) = (own_f4 (p1.toUInt32.toUInt16.toUInt32.toInt32))
  ·
    obtain ⟨v6, _, ⟨T6, L6, k6, n6⟩, -, X6, ⟨Lc6, hQ6, l6, y6, z6⟩, st6⟩ := Jvm.LawKit.callS X3 hx (y := (⟨"com/example/nanshe/nanshe/model/LabelNames", "isNameCharacter", "(C)Z"⟩ : MethodName)) hown (mvT hZ (hw _ (List.mem_of_getElem? (i := 0) rfl))) (mvT hZ (hw _ (List.mem_of_getElem? (i := 1) rfl))) (mvT hZ (hw _ (List.mem_of_getElem? (i := 2) rfl))) (mvT hZ (hw _ (List.mem_of_getElem? (i := 3) rfl))) (by decide) (backOf (W := 0) (own_rm1 l Z a0 hw [] ((p2 &&& (127 : Int32)).toUInt32.toUInt16.toUInt32.toInt32) h0 n0 Z0) hZ (hw _ (List.mem_of_getElem? (i := 3) rfl)) (hw _ (List.mem_of_getElem? (i := 2) rfl)) (by decide) (by decide)) (g := (mkF m 28 #[.val (.int p1), .val (.int p2), .val (.int (p1.toUInt32.toUInt16.toUInt32.toInt32)), .val (.int ((p2 &&& (127 : Int32)).toUInt32.toUInt16.toUInt32.toInt32)), .val (.int (1 : Int32)), .unset] [(.int ((p2 &&& (127 : Int32)).toUInt32.toUInt16.toUInt32.toInt32))])) rfl (by rw [hml]; rfl) (argsL := [(.int ((p2 &&& (127 : Int32)).toUInt32.toUInt16.toUInt32.toInt32))]) (rest := []) (lenOf own_pd27 rfl) rfl (by show 2 * 0 + _ ≤ _; exact Nat.le_of_eq rfl) (hb hby at_28) (fun _ _ => ⟨rfl, e3, (by decide : 0 + 0 ≤ _), (by decide : 0 + 0 ≤ _)⟩)
    dsimp only [Pt.U, Pt.locs, Pt.cells, Pt.slots] at X6 l6 y6 z6 st6 hQ6
    subst l6 y6 z6
    obtain ⟨rfl, N6q, e6⟩ := hQ6
    have N7 := Fr.app N4 N6q
    obtain ⟨v8, _, ⟨T8, L8, k8, n8⟩, -, X8, ⟨Lc8, hQ8, l8, y8, z8⟩, st8⟩ := Jvm.LawKit.callS X6 hx (y := (⟨"com/example/nanshe/nanshe/model/LabelNamesIsNameCharacterPinLaw", "expected", "(C)Z"⟩ : MethodName)) hown (mvT hZ (hw _ (List.mem_of_getElem? (i := 10) rfl))) (mvT hZ (hw _ (List.mem_of_getElem? (i := 11) rfl))) (mvT hZ (hw _ (List.mem_of_getElem? (i := 12) rfl))) (mvT hZ (hw _ (List.mem_of_getElem? (i := 13) rfl))) (by decide) (backOf (W := 1) (own_rm4 l Z a0 hw [] ((p2 &&& (127 : Int32)).toUInt32.toUInt16.toUInt32.toInt32) h0 n0 Z0) hZ (hw _ (List.mem_of_getElem? (i := 13) rfl)) (hw _ (List.mem_of_getElem? (i := 12) rfl)) (by decide) (by decide)) (g := (mkF m 32 #[.val (.int p1), .val (.int p2), .val (.int (p1.toUInt32.toUInt16.toUInt32.toInt32)), .val (.int ((p2 &&& (127 : Int32)).toUInt32.toUInt16.toUInt32.toInt32)), .val (.int (1 : Int32)), .unset] [(.int ((p2 &&& (127 : Int32)).toUInt32.toUInt16.toUInt32.toInt32)), (.int (own_f1 ((p2 &&& (127 : Int32)).toUInt32.toUInt16.toUInt32.toInt32)))])) rfl (by rw [hml]; rfl) (argsL := [(.int ((p2 &&& (127 : Int32)).toUInt32.toUInt16.toUInt32.toInt32))]) (rest := [(.int (own_f1 ((p2 &&& (127 : Int32)).toUInt32.toUInt16.toUInt32.toInt32)))]) (lenOf own_pd27 rfl) rfl (by show 2 * 0 + _ ≤ _; exact Nat.le_of_eq rfl) (hb hby at_32) (fun _ _ => ⟨rfl, e6, (by decide : 0 + 0 ≤ _), (by decide : 0 + 0 ≤ _)⟩)
    dsimp only [Pt.U, Pt.locs, Pt.cells, Pt.slots] at X8 l8 y8 z8 st8 hQ8
    subst l8 y8 z8
    obtain ⟨rfl, N8q, e8⟩ := hQ8
    have N9 := Fr.app N7 N8q
    have k10 : ∀ t, Steps p.tables e below (T8.setTop (mkF m 35 #[.val (.int p1), .val (.int p2), .val (.int (p1.toUInt32.toUInt16.toUInt32.toInt32)), .val (.int ((p2 &&& (127 : Int32)).toUInt32.toUInt16.toUInt32.toInt32)), .val (.int (1 : Int32)), .unset] [(.int (own_f4 ((p2 &&& (127 : Int32)).toUInt32.toUInt16.toUInt32.toInt32))), (.int (own_f1 ((p2 &&& (127 : Int32)).toUInt32.toUInt16.toUInt32.toInt32)))])) t → Steps p.tables e below (s₁.setTop (entryFrame m #[(.int p1), (.int p2)] maxLocals)) t := by
      intro t kt
      refine k5 t ?_
      show Steps p.tables e below (T3.setTop (mkF m 17 #[.val (.int p1), .val (.int p2), .val (.int (p1.toUInt32.toUInt16.toUInt32.toInt32)), .val (.int ((p2 &&& (127 : Int32)).toUInt32.toUInt16.toUInt32.toInt32)), .unset, .unset] [(.int (own_f4 (p1.toUInt32.toUInt16.toUInt32.toInt32))), (.int (own_f1 (p1.toUInt32.toUInt16.toUInt32.toInt32)))])) _
      refine XS.icmpNo X3.here hx rfl (hb hby at_17) rfl (teq hc1).2 ?_
      show Steps p.tables e below (T3.setTop (mkF m 20 #[.val (.int p1), .val (.int p2), .val (.int (p1.toUInt32.toUInt16.toUInt32.toInt32)), .val (.int ((p2 &&& (127 : Int32)).toUInt32.toUInt16.toUInt32.toInt32)), .unset, .unset] [])) _
      refine XS.iconst X3.here hx rfl (hb hby at_20) ?_
      show Steps p.tables e below (T3.setTop (mkF m 21 #[.val (.int p1), .val (.int p2), .val (.int (p1.toUInt32.toUInt16.toUInt32.toInt32)), .val (.int ((p2 &&& (127 : Int32)).toUInt32.toUInt16.toUInt32.toInt32)), .unset, .unset] [(.int (1 : Int32))])) _
      refine XS.goto X3.here hx rfl (pc0 := 21) (pc' := 25) rfl (hb hby at_21) (by decide) (by decide) ?_
      show Steps p.tables e below (T3.setTop (mkF m 25 #[.val (.int p1), .val (.int p2), .val (.int (p1.toUInt32.toUInt16.toUInt32.toInt32)), .val (.int ((p2 &&& (127 : Int32)).toUInt32.toUInt16.toUInt32.toInt32)), .unset, .unset] [(.int (1 : Int32))])) _
      refine XS.istore X3.here hx rfl (hb hby at_25) rfl (l' := #[.val (.int p1), .val (.int p2), .val (.int (p1.toUInt32.toUInt16.toUInt32.toInt32)), .val (.int ((p2 &&& (127 : Int32)).toUInt32.toUInt16.toUInt32.toInt32)), .val (.int (1 : Int32)), .unset]) rfl ?_
      show Steps p.tables e below (T3.setTop (mkF m 27 #[.val (.int p1), .val (.int p2), .val (.int (p1.toUInt32.toUInt16.toUInt32.toInt32)), .val (.int ((p2 &&& (127 : Int32)).toUInt32.toUInt16.toUInt32.toInt32)), .val (.int (1 : Int32)), .unset] [])) _
      refine XS.iloadN X3.here hx rfl (hb hby at_27) rfl ?_
      show Steps p.tables e below (T3.setTop (mkF m 28 #[.val (.int p1), .val (.int p2), .val (.int (p1.toUInt32.toUInt16.toUInt32.toInt32)), .val (.int ((p2 &&& (127 : Int32)).toUInt32.toUInt16.toUInt32.toInt32)), .val (.int (1 : Int32)), .unset] [(.int ((p2 &&& (127 : Int32)).toUInt32.toUInt16.toUInt32.toInt32))])) _
      refine st6 _ ?_
      show Steps p.tables e below (T6.setTop (mkF m 31 #[.val (.int p1), .val (.int p2), .val (.int (p1.toUInt32.toUInt16.toUInt32.toInt32)), .val (.int ((p2 &&& (127 : Int32)).toUInt32.toUInt16.toUInt32.toInt32)), .val (.int (1 : Int32)), .unset] [(.int (own_f1 ((p2 &&& (127 : Int32)).toUInt32.toUInt16.toUInt32.toInt32)))])) _
      refine XS.iloadN X6.here hx rfl (hb hby at_31) rfl ?_
      show Steps p.tables e below (T6.setTop (mkF m 32 #[.val (.int p1), .val (.int p2), .val (.int (p1.toUInt32.toUInt16.toUInt32.toInt32)), .val (.int ((p2 &&& (127 : Int32)).toUInt32.toUInt16.toUInt32.toInt32)), .val (.int (1 : Int32)), .unset] [(.int ((p2 &&& (127 : Int32)).toUInt32.toUInt16.toUInt32.toInt32)), (.int (own_f1 ((p2 &&& (127 : Int32)).toUInt32.toUInt16.toUInt32.toInt32)))])) _
      refine st8 _ ?_
      exact kt
    by_cases hc2 : (own_f1 ((p2 &&& (127 : Int32)).toUInt32.toUInt16.toUInt32.toInt32)) = (own_f4 ((p2 &&& (127 : Int32)).toUInt32.toUInt16.toUInt32.toInt32))
    ·
      obtain ⟨fs, hr, hrun, hended, hW, hsame⟩ := X8.leave (v := some (.int (1 : Int32))) (fun h => by rw [Bd.returns] at h; cases h)
      refine ⟨_, _, k10 _ ?_, hrun, hended, _, _, rfl, ?_, ⟨_, rfl⟩, hW, hsame.mono (by decide) (by decide)⟩
      · show Steps p.tables e below (T8.setTop (mkF m 35 #[.val (.int p1), .val (.int p2), .val (.int (p1.toUInt32.toUInt16.toUInt32.toInt32)), .val (.int ((p2 &&& (127 : Int32)).toUInt32.toUInt16.toUInt32.toInt32)), .val (.int (1 : Int32)), .unset] [(.int (own_f4 ((p2 &&& (127 : Int32)).toUInt32.toUInt16.toUInt32.toInt32))), (.int (own_f1 ((p2 &&& (127 : Int32)).toUInt32.toUInt16.toUInt32.toInt32)))])) _
        refine XS.icmpNo X8.here hx rfl (hb hby at_35) rfl (teq hc2).2 ?_
        show Steps p.tables e below (T8.setTop (mkF m 38 #[.val (.int p1), .val (.int p2), .val (.int (p1.toUInt32.toUInt16.toUInt32.toInt32)), .val (.int ((p2 &&& (127 : Int32)).toUInt32.toUInt16.toUInt32.toInt32)), .val (.int (1 : Int32)), .unset] [])) _
        refine XS.iconst X8.here hx rfl (hb hby at_38) ?_
        show Steps p.tables e below (T8.setTop (mkF m 39 #[.val (.int p1), .val (.int p2), .val (.int (p1.toUInt32.toUInt16.toUInt32.toInt32)), .val (.int ((p2 &&& (127 : Int32)).toUInt32.toUInt16.toUInt32.toInt32)), .val (.int (1 : Int32)), .unset] [(.int (1 : Int32))])) _
        refine XS.goto X8.here hx rfl (pc0 := 39) (pc' := 43) rfl (hb hby at_39) (by decide) (by decide) ?_
        show Steps p.tables e below (T8.setTop (mkF m 43 #[.val (.int p1), .val (.int p2), .val (.int (p1.toUInt32.toUInt16.toUInt32.toInt32)), .val (.int ((p2 &&& (127 : Int32)).toUInt32.toUInt16.toUInt32.toInt32)), .val (.int (1 : Int32)), .unset] [(.int (1 : Int32))])) _
        refine XS.istore X8.here hx rfl (hb hby at_43) rfl (l' := #[.val (.int p1), .val (.int p2), .val (.int (p1.toUInt32.toUInt16.toUInt32.toInt32)), .val (.int ((p2 &&& (127 : Int32)).toUInt32.toUInt16.toUInt32.toInt32)), .val (.int (1 : Int32)), .val (.int (1 : Int32))]) rfl ?_
        show Steps p.tables e below (T8.setTop (mkF m 45 #[.val (.int p1), .val (.int p2), .val (.int (p1.toUInt32.toUInt16.toUInt32.toInt32)), .val (.int ((p2 &&& (127 : Int32)).toUInt32.toUInt16.toUInt32.toInt32)), .val (.int (1 : Int32)), .val (.int (1 : Int32))] [])) _
        refine XS.iload X8.here hx rfl (hb hby at_45) rfl ?_
        show Steps p.tables e below (T8.setTop (mkF m 47 #[.val (.int p1), .val (.int p2), .val (.int (p1.toUInt32.toUInt16.toUInt32.toInt32)), .val (.int ((p2 &&& (127 : Int32)).toUInt32.toUInt16.toUInt32.toInt32)), .val (.int (1 : Int32)), .val (.int (1 : Int32))] [(.int (1 : Int32))])) _
        refine XS.ifNo X8.here hx rfl (hb hby at_47) rfl ((if0 _ _).trans (feq (by decide : ¬ ((1 : Int32) = (0 : Int32)))).1) ?_
        show Steps p.tables e below (T8.setTop (mkF m 50 #[.val (.int p1), .val (.int p2), .val (.int (p1.toUInt32.toUInt16.toUInt32.toInt32)), .val (.int ((p2 &&& (127 : Int32)).toUInt32.toUInt16.toUInt32.toInt32)), .val (.int (1 : Int32)), .val (.int (1 : Int32))] [])) _
        refine XS.iload X8.here hx rfl (hb hby at_50) rfl ?_
        show Steps p.tables e below (T8.setTop (mkF m 52 #[.val (.int p1), .val (.int p2), .val (.int (p1.toUInt32.toUInt16.toUInt32.toInt32)), .val (.int ((p2 &&& (127 : Int32)).toUInt32.toUInt16.toUInt32.toInt32)), .val (.int (1 : Int32)), .val (.int (1 : Int32))] [(.int (1 : Int32))])) _
        refine XS.ifNo X8.here hx rfl (hb hby at_52) rfl ((if0 _ _).trans (feq (by decide : ¬ ((1 : Int32) = (0 : Int32)))).1) ?_
        show Steps p.tables e below (T8.setTop (mkF m 55 #[.val (.int p1), .val (.int p2), .val (.int (p1.toUInt32.toUInt16.toUInt32.toInt32)), .val (.int ((p2 &&& (127 : Int32)).toUInt32.toUInt16.toUInt32.toInt32)), .val (.int (1 : Int32)), .val (.int (1 : Int32))] [])) _
        refine XS.iconst X8.here hx rfl (hb hby at_55) ?_
        show Steps p.tables e below (T8.setTop (mkF m 56 #[.val (.int p1), .val (.int p2), .val (.int (p1.toUInt32.toUInt16.toUInt32.toInt32)), .val (.int ((p2 &&& (127 : Int32)).toUInt32.toUInt16.toUInt32.toInt32)), .val (.int (1 : Int32)), .val (.int (1 : Int32))] [(.int (1 : Int32))])) _
        refine XS.goto X8.here hx rfl (pc0 := 56) (pc' := 60) rfl (hb hby at_56) (by decide) (by decide) ?_
        show Steps p.tables e below (T8.setTop (mkF m 60 #[.val (.int p1), .val (.int p2), .val (.int (p1.toUInt32.toUInt16.toUInt32.toInt32)), .val (.int ((p2 &&& (127 : Int32)).toUInt32.toUInt16.toUInt32.toInt32)), .val (.int (1 : Int32)), .val (.int (1 : Int32))] [(.int (1 : Int32))])) _
        exact retN X8 hx (t := .boolean) Bd.returns (by simp) (hb hby at_60) hr
      · show own_Q0 Z p1 p2 h0 n0 _ T8.heap _
        rw [e8]
        exact ⟨(by rw [own_f0, if_pos hc1, if_pos hc2]), N9⟩
    ·
      obtain ⟨fs, hr, hrun, hended, hW, hsame⟩ := X8.leave (v := some (.int (0 : Int32))) (fun h => by rw [Bd.returns] at h; cases h)
      refine ⟨_, _, k10 _ ?_, hrun, hended, _, _, rfl, ?_, ⟨_, rfl⟩, hW, hsame.mono (by decide) (by decide)⟩
      · show Steps p.tables e below (T8.setTop (mkF m 35 #[.val (.int p1), .val (.int p2), .val (.int (p1.toUInt32.toUInt16.toUInt32.toInt32)), .val (.int ((p2 &&& (127 : Int32)).toUInt32.toUInt16.toUInt32.toInt32)), .val (.int (1 : Int32)), .unset] [(.int (own_f4 ((p2 &&& (127 : Int32)).toUInt32.toUInt16.toUInt32.toInt32))), (.int (own_f1 ((p2 &&& (127 : Int32)).toUInt32.toUInt16.toUInt32.toInt32)))])) _
        refine XS.icmpYes X8.here hx rfl (pc0 := 35) (pc' := 42) rfl (hb hby at_35) rfl (feq hc2).2 (by decide) (by decide) ?_
        show Steps p.tables e below (T8.setTop (mkF m 42 #[.val (.int p1), .val (.int p2), .val (.int (p1.toUInt32.toUInt16.toUInt32.toInt32)), .val (.int ((p2 &&& (127 : Int32)).toUInt32.toUInt16.toUInt32.toInt32)), .val (.int (1 : Int32)), .unset] [])) _
        refine XS.iconst X8.here hx rfl (hb hby at_42) ?_
        show Steps p.tables e below (T8.setTop (mkF m 43 #[.val (.int p1), .val (.int p2), .val (.int (p1.toUInt32.toUInt16.toUInt32.toInt32)), .val (.int ((p2 &&& (127 : Int32)).toUInt32.toUInt16.toUInt32.toInt32)), .val (.int (1 : Int32)), .unset] [(.int (0 : Int32))])) _
        refine XS.istore X8.here hx rfl (hb hby at_43) rfl (l' := #[.val (.int p1), .val (.int p2), .val (.int (p1.toUInt32.toUInt16.toUInt32.toInt32)), .val (.int ((p2 &&& (127 : Int32)).toUInt32.toUInt16.toUInt32.toInt32)), .val (.int (1 : Int32)), .val (.int (0 : Int32))]) rfl ?_
        show Steps p.tables e below (T8.setTop (mkF m 45 #[.val (.int p1), .val (.int p2), .val (.int (p1.toUInt32.toUInt16.toUInt32.toInt32)), .val (.int ((p2 &&& (127 : Int32)).toUInt32.toUInt16.toUInt32.toInt32)), .val (.int (1 : Int32)), .val (.int (0 : Int32))] [])) _
        refine XS.iload X8.here hx rfl (hb hby at_45) rfl ?_
        show Steps p.tables e below (T8.setTop (mkF m 47 #[.val (.int p1), .val (.int p2), .val (.int (p1.toUInt32.toUInt16.toUInt32.toInt32)), .val (.int ((p2 &&& (127 : Int32)).toUInt32.toUInt16.toUInt32.toInt32)), .val (.int (1 : Int32)), .val (.int (0 : Int32))] [(.int (1 : Int32))])) _
        refine XS.ifNo X8.here hx rfl (hb hby at_47) rfl ((if0 _ _).trans (feq (by decide : ¬ ((1 : Int32) = (0 : Int32)))).1) ?_
        show Steps p.tables e below (T8.setTop (mkF m 50 #[.val (.int p1), .val (.int p2), .val (.int (p1.toUInt32.toUInt16.toUInt32.toInt32)), .val (.int ((p2 &&& (127 : Int32)).toUInt32.toUInt16.toUInt32.toInt32)), .val (.int (1 : Int32)), .val (.int (0 : Int32))] [])) _
        refine XS.iload X8.here hx rfl (hb hby at_50) rfl ?_
        show Steps p.tables e below (T8.setTop (mkF m 52 #[.val (.int p1), .val (.int p2), .val (.int (p1.toUInt32.toUInt16.toUInt32.toInt32)), .val (.int ((p2 &&& (127 : Int32)).toUInt32.toUInt16.toUInt32.toInt32)), .val (.int (1 : Int32)), .val (.int (0 : Int32))] [(.int (0 : Int32))])) _
        refine XS.ifYes X8.here hx rfl (pc0 := 52) (pc' := 59) rfl (hb hby at_52) rfl ((if0 _ _).trans (teq (by decide : (0 : Int32) = (0 : Int32))).1) (by decide) (by decide) ?_
        show Steps p.tables e below (T8.setTop (mkF m 59 #[.val (.int p1), .val (.int p2), .val (.int (p1.toUInt32.toUInt16.toUInt32.toInt32)), .val (.int ((p2 &&& (127 : Int32)).toUInt32.toUInt16.toUInt32.toInt32)), .val (.int (1 : Int32)), .val (.int (0 : Int32))] [])) _
        refine XS.iconst X8.here hx rfl (hb hby at_59) ?_
        show Steps p.tables e below (T8.setTop (mkF m 60 #[.val (.int p1), .val (.int p2), .val (.int (p1.toUInt32.toUInt16.toUInt32.toInt32)), .val (.int ((p2 &&& (127 : Int32)).toUInt32.toUInt16.toUInt32.toInt32)), .val (.int (1 : Int32)), .val (.int (0 : Int32))] [(.int (0 : Int32))])) _
        exact retN X8 hx (t := .boolean) Bd.returns (by simp) (hb hby at_60) hr
      · show own_Q0 Z p1 p2 h0 n0 _ T8.heap _
        rw [e8]
        exact ⟨(by rw [own_f0, if_pos hc1, if_neg hc2]), N9⟩
  ·
    obtain ⟨v11, _, ⟨T11, L11, k11, n11⟩, -, X11, ⟨Lc11, hQ11, l11, y11, z11⟩, st11⟩ := Jvm.LawKit.callS X3 hx (y := (⟨"com/example/nanshe/nanshe/model/LabelNames", "isNameCharacter", "(C)Z"⟩ : MethodName)) hown (mvT hZ (hw _ (List.mem_of_getElem? (i := 0) rfl))) (mvT hZ (hw _ (List.mem_of_getElem? (i := 1) rfl))) (mvT hZ (hw _ (List.mem_of_getElem? (i := 2) rfl))) (mvT hZ (hw _ (List.mem_of_getElem? (i := 3) rfl))) (by decide) (backOf (W := 0) (own_rm1 l Z a0 hw [] ((p2 &&& (127 : Int32)).toUInt32.toUInt16.toUInt32.toInt32) h0 n0 Z0) hZ (hw _ (List.mem_of_getElem? (i := 3) rfl)) (hw _ (List.mem_of_getElem? (i := 2) rfl)) (by decide) (by decide)) (g := (mkF m 28 #[.val (.int p1), .val (.int p2), .val (.int (p1.toUInt32.toUInt16.toUInt32.toInt32)), .val (.int ((p2 &&& (127 : Int32)).toUInt32.toUInt16.toUInt32.toInt32)), .val (.int (0 : Int32)), .unset] [(.int ((p2 &&& (127 : Int32)).toUInt32.toUInt16.toUInt32.toInt32))])) rfl (by rw [hml]; rfl) (argsL := [(.int ((p2 &&& (127 : Int32)).toUInt32.toUInt16.toUInt32.toInt32))]) (rest := []) (lenOf own_pd27 rfl) rfl (by show 2 * 0 + _ ≤ _; exact Nat.le_of_eq rfl) (hb hby at_28) (fun _ _ => ⟨rfl, e3, (by decide : 0 + 0 ≤ _), (by decide : 0 + 0 ≤ _)⟩)
    dsimp only [Pt.U, Pt.locs, Pt.cells, Pt.slots] at X11 l11 y11 z11 st11 hQ11
    subst l11 y11 z11
    obtain ⟨rfl, N11q, e11⟩ := hQ11
    have N12 := Fr.app N4 N11q
    obtain ⟨v13, _, ⟨T13, L13, k13, n13⟩, -, X13, ⟨Lc13, hQ13, l13, y13, z13⟩, st13⟩ := Jvm.LawKit.callS X11 hx (y := (⟨"com/example/nanshe/nanshe/model/LabelNamesIsNameCharacterPinLaw", "expected", "(C)Z"⟩ : MethodName)) hown (mvT hZ (hw _ (List.mem_of_getElem? (i := 10) rfl))) (mvT hZ (hw _ (List.mem_of_getElem? (i := 11) rfl))) (mvT hZ (hw _ (List.mem_of_getElem? (i := 12) rfl))) (mvT hZ (hw _ (List.mem_of_getElem? (i := 13) rfl))) (by decide) (backOf (W := 1) (own_rm4 l Z a0 hw [] ((p2 &&& (127 : Int32)).toUInt32.toUInt16.toUInt32.toInt32) h0 n0 Z0) hZ (hw _ (List.mem_of_getElem? (i := 13) rfl)) (hw _ (List.mem_of_getElem? (i := 12) rfl)) (by decide) (by decide)) (g := (mkF m 32 #[.val (.int p1), .val (.int p2), .val (.int (p1.toUInt32.toUInt16.toUInt32.toInt32)), .val (.int ((p2 &&& (127 : Int32)).toUInt32.toUInt16.toUInt32.toInt32)), .val (.int (0 : Int32)), .unset] [(.int ((p2 &&& (127 : Int32)).toUInt32.toUInt16.toUInt32.toInt32)), (.int (own_f1 ((p2 &&& (127 : Int32)).toUInt32.toUInt16.toUInt32.toInt32)))])) rfl (by rw [hml]; rfl) (argsL := [(.int ((p2 &&& (127 : Int32)).toUInt32.toUInt16.toUInt32.toInt32))]) (rest := [(.int (own_f1 ((p2 &&& (127 : Int32)).toUInt32.toUInt16.toUInt32.toInt32)))]) (lenOf own_pd27 rfl) rfl (by show 2 * 0 + _ ≤ _; exact Nat.le_of_eq rfl) (hb hby at_32) (fun _ _ => ⟨rfl, e11, (by decide : 0 + 0 ≤ _), (by decide : 0 + 0 ≤ _)⟩)
    dsimp only [Pt.U, Pt.locs, Pt.cells, Pt.slots] at X13 l13 y13 z13 st13 hQ13
    subst l13 y13 z13
    obtain ⟨rfl, N13q, e13⟩ := hQ13
    have N14 := Fr.app N12 N13q
    have k15 : ∀ t, Steps p.tables e below (T13.setTop (mkF m 35 #[.val (.int p1), .val (.int p2), .val (.int (p1.toUInt32.toUInt16.toUInt32.toInt32)), .val (.int ((p2 &&& (127 : Int32)).toUInt32.toUInt16.toUInt32.toInt32)), .val (.int (0 : Int32)), .unset] [(.int (own_f4 ((p2 &&& (127 : Int32)).toUInt32.toUInt16.toUInt32.toInt32))), (.int (own_f1 ((p2 &&& (127 : Int32)).toUInt32.toUInt16.toUInt32.toInt32)))])) t → Steps p.tables e below (s₁.setTop (entryFrame m #[(.int p1), (.int p2)] maxLocals)) t := by
      intro t kt
      refine k5 t ?_
      show Steps p.tables e below (T3.setTop (mkF m 17 #[.val (.int p1), .val (.int p2), .val (.int (p1.toUInt32.toUInt16.toUInt32.toInt32)), .val (.int ((p2 &&& (127 : Int32)).toUInt32.toUInt16.toUInt32.toInt32)), .unset, .unset] [(.int (own_f4 (p1.toUInt32.toUInt16.toUInt32.toInt32))), (.int (own_f1 (p1.toUInt32.toUInt16.toUInt32.toInt32)))])) _
      refine XS.icmpYes X3.here hx rfl (pc0 := 17) (pc' := 24) rfl (hb hby at_17) rfl (feq hc1).2 (by decide) (by decide) ?_
      show Steps p.tables e below (T3.setTop (mkF m 24 #[.val (.int p1), .val (.int p2), .val (.int (p1.toUInt32.toUInt16.toUInt32.toInt32)), .val (.int ((p2 &&& (127 : Int32)).toUInt32.toUInt16.toUInt32.toInt32)), .unset, .unset] [])) _
      refine XS.iconst X3.here hx rfl (hb hby at_24) ?_
      show Steps p.tables e below (T3.setTop (mkF m 25 #[.val (.int p1), .val (.int p2), .val (.int (p1.toUInt32.toUInt16.toUInt32.toInt32)), .val (.int ((p2 &&& (127 : Int32)).toUInt32.toUInt16.toUInt32.toInt32)), .unset, .unset] [(.int (0 : Int32))])) _
      refine XS.istore X3.here hx rfl (hb hby at_25) rfl (l' := #[.val (.int p1), .val (.int p2), .val (.int (p1.toUInt32.toUInt16.toUInt32.toInt32)), .val (.int ((p2 &&& (127 : Int32)).toUInt32.toUInt16.toUInt32.toInt32)), .val (.int (0 : Int32)), .unset]) rfl ?_
      show Steps p.tables e below (T3.setTop (mkF m 27 #[.val (.int p1), .val (.int p2), .val (.int (p1.toUInt32.toUInt16.toUInt32.toInt32)), .val (.int ((p2 &&& (127 : Int32)).toUInt32.toUInt16.toUInt32.toInt32)), .val (.int (0 : Int32)), .unset] [])) _
      refine XS.iloadN X3.here hx rfl (hb hby at_27) rfl ?_
      show Steps p.tables e below (T3.setTop (mkF m 28 #[.val (.int p1), .val (.int p2), .val (.int (p1.toUInt32.toUInt16.toUInt32.toInt32)), .val (.int ((p2 &&& (127 : Int32)).toUInt32.toUInt16.toUInt32.toInt32)), .val (.int (0 : Int32)), .unset] [(.int ((p2 &&& (127 : Int32)).toUInt32.toUInt16.toUInt32.toInt32))])) _
      refine st11 _ ?_
      show Steps p.tables e below (T11.setTop (mkF m 31 #[.val (.int p1), .val (.int p2), .val (.int (p1.toUInt32.toUInt16.toUInt32.toInt32)), .val (.int ((p2 &&& (127 : Int32)).toUInt32.toUInt16.toUInt32.toInt32)), .val (.int (0 : Int32)), .unset] [(.int (own_f1 ((p2 &&& (127 : Int32)).toUInt32.toUInt16.toUInt32.toInt32)))])) _
      refine XS.iloadN X11.here hx rfl (hb hby at_31) rfl ?_
      show Steps p.tables e below (T11.setTop (mkF m 32 #[.val (.int p1), .val (.int p2), .val (.int (p1.toUInt32.toUInt16.toUInt32.toInt32)), .val (.int ((p2 &&& (127 : Int32)).toUInt32.toUInt16.toUInt32.toInt32)), .val (.int (0 : Int32)), .unset] [(.int ((p2 &&& (127 : Int32)).toUInt32.toUInt16.toUInt32.toInt32)), (.int (own_f1 ((p2 &&& (127 : Int32)).toUInt32.toUInt16.toUInt32.toInt32)))])) _
      refine st13 _ ?_
      exact kt
    by_cases hc3 : (own_f1 ((p2 &&& (127 : Int32)).toUInt32.toUInt16.toUInt32.toInt32)) = (own_f4 ((p2 &&& (127 : Int32)).toUInt32.toUInt16.toUInt32.toInt32))
    ·
      obtain ⟨fs, hr, hrun, hended, hW, hsame⟩ := X13.leave (v := some (.int (0 : Int32))) (fun h => by rw [Bd.returns] at h; cases h)
      refine ⟨_, _, k15 _ ?_, hrun, hended, _, _, rfl, ?_, ⟨_, rfl⟩, hW, hsame.mono (by decide) (by decide)⟩
      · show Steps p.tables e below (T13.setTop (mkF m 35 #[.val (.int p1), .val (.int p2), .val (.int (p1.toUInt32.toUInt16.toUInt32.toInt32)), .val (.int ((p2 &&& (127 : Int32)).toUInt32.toUInt16.toUInt32.toInt32)), .val (.int (0 : Int32)), .unset] [(.int (own_f4 ((p2 &&& (127 : Int32)).toUInt32.toUInt16.toUInt32.toInt32))), (.int (own_f1 ((p2 &&& (127 : Int32)).toUInt32.toUInt16.toUInt32.toInt32)))])) _
        refine XS.icmpNo X13.here hx rfl (hb hby at_35) rfl (teq hc3).2 ?_
        show Steps p.tables e below (T13.setTop (mkF m 38 #[.val (.int p1), .val (.int p2), .val (.int (p1.toUInt32.toUInt16.toUInt32.toInt32)), .val (.int ((p2 &&& (127 : Int32)).toUInt32.toUInt16.toUInt32.toInt32)), .val (.int (0 : Int32)), .unset] [])) _
        refine XS.iconst X13.here hx rfl (hb hby at_38) ?_
        show Steps p.tables e below (T13.setTop (mkF m 39 #[.val (.int p1), .val (.int p2), .val (.int (p1.toUInt32.toUInt16.toUInt32.toInt32)), .val (.int ((p2 &&& (127 : Int32)).toUInt32.toUInt16.toUInt32.toInt32)), .val (.int (0 : Int32)), .unset] [(.int (1 : Int32))])) _
        refine XS.goto X13.here hx rfl (pc0 := 39) (pc' := 43) rfl (hb hby at_39) (by decide) (by decide) ?_
        show Steps p.tables e below (T13.setTop (mkF m 43 #[.val (.int p1), .val (.int p2), .val (.int (p1.toUInt32.toUInt16.toUInt32.toInt32)), .val (.int ((p2 &&& (127 : Int32)).toUInt32.toUInt16.toUInt32.toInt32)), .val (.int (0 : Int32)), .unset] [(.int (1 : Int32))])) _
        refine XS.istore X13.here hx rfl (hb hby at_43) rfl (l' := #[.val (.int p1), .val (.int p2), .val (.int (p1.toUInt32.toUInt16.toUInt32.toInt32)), .val (.int ((p2 &&& (127 : Int32)).toUInt32.toUInt16.toUInt32.toInt32)), .val (.int (0 : Int32)), .val (.int (1 : Int32))]) rfl ?_
        show Steps p.tables e below (T13.setTop (mkF m 45 #[.val (.int p1), .val (.int p2), .val (.int (p1.toUInt32.toUInt16.toUInt32.toInt32)), .val (.int ((p2 &&& (127 : Int32)).toUInt32.toUInt16.toUInt32.toInt32)), .val (.int (0 : Int32)), .val (.int (1 : Int32))] [])) _
        refine XS.iload X13.here hx rfl (hb hby at_45) rfl ?_
        show Steps p.tables e below (T13.setTop (mkF m 47 #[.val (.int p1), .val (.int p2), .val (.int (p1.toUInt32.toUInt16.toUInt32.toInt32)), .val (.int ((p2 &&& (127 : Int32)).toUInt32.toUInt16.toUInt32.toInt32)), .val (.int (0 : Int32)), .val (.int (1 : Int32))] [(.int (0 : Int32))])) _
        refine XS.ifYes X13.here hx rfl (pc0 := 47) (pc' := 59) rfl (hb hby at_47) rfl ((if0 _ _).trans (teq (by decide : (0 : Int32) = (0 : Int32))).1) (by decide) (by decide) ?_
        show Steps p.tables e below (T13.setTop (mkF m 59 #[.val (.int p1), .val (.int p2), .val (.int (p1.toUInt32.toUInt16.toUInt32.toInt32)), .val (.int ((p2 &&& (127 : Int32)).toUInt32.toUInt16.toUInt32.toInt32)), .val (.int (0 : Int32)), .val (.int (1 : Int32))] [])) _
        refine XS.iconst X13.here hx rfl (hb hby at_59) ?_
        show Steps p.tables e below (T13.setTop (mkF m 60 #[.val (.int p1), .val (.int p2), .val (.int (p1.toUInt32.toUInt16.toUInt32.toInt32)), .val (.int ((p2 &&& (127 : Int32)).toUInt32.toUInt16.toUInt32.toInt32)), .val (.int (0 : Int32)), .val (.int (1 : Int32))] [(.int (0 : Int32))])) _
        exact retN X13 hx (t := .boolean) Bd.returns (by simp) (hb hby at_60) hr
      · show own_Q0 Z p1 p2 h0 n0 _ T13.heap _
        rw [e13]
        exact ⟨(by rw [own_f0, if_neg hc1, if_pos hc3]), N14⟩
    ·
      obtain ⟨fs, hr, hrun, hended, hW, hsame⟩ := X13.leave (v := some (.int (0 : Int32))) (fun h => by rw [Bd.returns] at h; cases h)
      refine ⟨_, _, k15 _ ?_, hrun, hended, _, _, rfl, ?_, ⟨_, rfl⟩, hW, hsame.mono (by decide) (by decide)⟩
      · show Steps p.tables e below (T13.setTop (mkF m 35 #[.val (.int p1), .val (.int p2), .val (.int (p1.toUInt32.toUInt16.toUInt32.toInt32)), .val (.int ((p2 &&& (127 : Int32)).toUInt32.toUInt16.toUInt32.toInt32)), .val (.int (0 : Int32)), .unset] [(.int (own_f4 ((p2 &&& (127 : Int32)).toUInt32.toUInt16.toUInt32.toInt32))), (.int (own_f1 ((p2 &&& (127 : Int32)).toUInt32.toUInt16.toUInt32.toInt32)))])) _
        refine XS.icmpYes X13.here hx rfl (pc0 := 35) (pc' := 42) rfl (hb hby at_35) rfl (feq hc3).2 (by decide) (by decide) ?_
        show Steps p.tables e below (T13.setTop (mkF m 42 #[.val (.int p1), .val (.int p2), .val (.int (p1.toUInt32.toUInt16.toUInt32.toInt32)), .val (.int ((p2 &&& (127 : Int32)).toUInt32.toUInt16.toUInt32.toInt32)), .val (.int (0 : Int32)), .unset] [])) _
        refine XS.iconst X13.here hx rfl (hb hby at_42) ?_
        show Steps p.tables e below (T13.setTop (mkF m 43 #[.val (.int p1), .val (.int p2), .val (.int (p1.toUInt32.toUInt16.toUInt32.toInt32)), .val (.int ((p2 &&& (127 : Int32)).toUInt32.toUInt16.toUInt32.toInt32)), .val (.int (0 : Int32)), .unset] [(.int (0 : Int32))])) _
        refine XS.istore X13.here hx rfl (hb hby at_43) rfl (l' := #[.val (.int p1), .val (.int p2), .val (.int (p1.toUInt32.toUInt16.toUInt32.toInt32)), .val (.int ((p2 &&& (127 : Int32)).toUInt32.toUInt16.toUInt32.toInt32)), .val (.int (0 : Int32)), .val (.int (0 : Int32))]) rfl ?_
        show Steps p.tables e below (T13.setTop (mkF m 45 #[.val (.int p1), .val (.int p2), .val (.int (p1.toUInt32.toUInt16.toUInt32.toInt32)), .val (.int ((p2 &&& (127 : Int32)).toUInt32.toUInt16.toUInt32.toInt32)), .val (.int (0 : Int32)), .val (.int (0 : Int32))] [])) _
        refine XS.iload X13.here hx rfl (hb hby at_45) rfl ?_
        show Steps p.tables e below (T13.setTop (mkF m 47 #[.val (.int p1), .val (.int p2), .val (.int (p1.toUInt32.toUInt16.toUInt32.toInt32)), .val (.int ((p2 &&& (127 : Int32)).toUInt32.toUInt16.toUInt32.toInt32)), .val (.int (0 : Int32)), .val (.int (0 : Int32))] [(.int (0 : Int32))])) _
        refine XS.ifYes X13.here hx rfl (pc0 := 47) (pc' := 59) rfl (hb hby at_47) rfl ((if0 _ _).trans (teq (by decide : (0 : Int32) = (0 : Int32))).1) (by decide) (by decide) ?_
        show Steps p.tables e below (T13.setTop (mkF m 59 #[.val (.int p1), .val (.int p2), .val (.int (p1.toUInt32.toUInt16.toUInt32.toInt32)), .val (.int ((p2 &&& (127 : Int32)).toUInt32.toUInt16.toUInt32.toInt32)), .val (.int (0 : Int32)), .val (.int (0 : Int32))] [])) _
        refine XS.iconst X13.here hx rfl (hb hby at_59) ?_
        show Steps p.tables e below (T13.setTop (mkF m 60 #[.val (.int p1), .val (.int p2), .val (.int (p1.toUInt32.toUInt16.toUInt32.toInt32)), .val (.int ((p2 &&& (127 : Int32)).toUInt32.toUInt16.toUInt32.toInt32)), .val (.int (0 : Int32)), .val (.int (0 : Int32))] [(.int (0 : Int32))])) _
        exact retN X13 hx (t := .boolean) Bd.returns (by simp) (hb hby at_60) hr
      · show own_Q0 Z p1 p2 h0 n0 _ T13.heap _
        rw [e13]
        exact ⟨(by rw [own_f0, if_neg hc1, if_neg hc3]), N14⟩
theorem own_or64 : ∀ r : Fin 64, r.val ||| 32 = r.val + 32 - 32 * (r.val / 32 % 2) := by decide +kernel
theorem own_orN (n : Nat) : n ||| 32 = n + 32 - 32 * (n / 32 % 2) := by
  have h1 : n = 2 ^ 6 * (n / 64) + n % 64 := by omega
  have h2 : n % 64 < 64 := Nat.mod_lt _ (by decide)
  have h3 := own_or64 ⟨n % 64, h2⟩
  have h4 : n % 64 ||| 32 < 2 ^ 6 := Nat.or_lt_two_pow h2 (by decide)
  have h5 : n ||| 32 = 2 ^ 6 * (n / 64) + (n % 64 ||| 32) := by
    conv => lhs; rw [h1]
    rw [Nat.two_pow_add_eq_or_of_lt h2, Nat.or_assoc, ← Nat.two_pow_add_eq_or_of_lt h4]
  simp only at h3
  rw [h5, h3]
  omega
theorem own_orI (c : Int32) (h0 : 0 ≤ c.toInt) : (c ||| 32).toInt = c.toInt + 32 - 32 * (c.toInt / 32 % 2) := by
  have hb := c.toBitVec.isLt
  have e : (c ||| 32).toBitVec.toNat = c.toBitVec.toNat ||| 32 := by
    show (c.toBitVec ||| (32 : Int32).toBitVec).toNat = _
    rw [BitVec.toNat_or]; rfl
  rw [own_orN] at e
  have e1 : c.toInt = c.toBitVec.toInt := rfl
  have e2 : (c ||| 32).toInt = (c ||| 32).toBitVec.toInt := rfl
  rw [BitVec.toInt_eq_toNat_cond] at e1 e2
  rw [e] at e2
  split at e1 <;> split at e2 <;> omega
theorem own_lits : (32 : Int32).toInt = 32 ∧ (48 : Int32).toInt = 48 ∧ (57 : Int32).toInt = 57 ∧ (65 : Int32).toInt = 65 ∧ (90 : Int32).toInt = 90 ∧ (97 : Int32).toInt = 97 ∧ (122 : Int32).toInt = 122 ∧ (95 : Int32).toInt = 95 ∧ (10 : Int32).toInt = 10 ∧ (0 : Int32).toInt = 0 := by decide
theorem own_eqi (a b : Int32) : (a = b) = (a.toInt = b.toInt) := by rw [Int32.toInt_inj]
theorem own_L2 (c : Int32) : own_f2 c = if (65 ≤ c.toInt ∧ c.toInt ≤ 90) ∨ (97 ≤ c.toInt ∧ c.toInt ≤ 122) then 1 else 0 := by
  obtain ⟨e1, e2, e3, e4, e5, e6, e7, e8, e9, e0⟩ := own_lits
  unfold own_f2
  simp only [Int32.lt_iff_toInt_lt, e4, e5, e6, e7]
  repeat' split
  all_goals first | rfl | omega
theorem own_L3 (c : Int32) : own_f3 c = if 48 ≤ c.toInt ∧ c.toInt ≤ 57 then 1 else 0 := by
  obtain ⟨e1, e2, e3, e4, e5, e6, e7, e8, e9, e0⟩ := own_lits
  unfold own_f3
  simp only [Int32.lt_iff_toInt_lt, e2, e3]
  repeat' split
  all_goals first | rfl | omega
theorem own_z (P : Prop) [Decidable P] : ((if P then (1 : Int32) else 0) = 0) = ¬ P := by
  split <;> simp_all
theorem own_key (c : Int32) (h0 : 0 ≤ c.toInt) (h1 : c.toInt < 65536) : own_f1 c = own_f4 c := by
  obtain ⟨e1, e2, e3, e4, e5, e6, e7, e8, e9, e0⟩ := own_lits
  have eo := own_orI c h0
  have es : (c - 48).toInt = c.toInt - 48 := by have := c_isub c 48; have := rng32 (c - 48); omega
  unfold own_f1 own_f4
  simp only [own_L2, own_L3, own_z, own_eqi c, Int32.lt_iff_toInt_lt, eo, es, e6, e7, e8, e9, e0]
  repeat' split
  all_goals first | rfl | omega
theorem own_law (p1 p2 : Int32) : own_f0 p1 p2 = 1 := by
  unfold own_f0
  rw [if_pos (own_key _ (c_i2c p1).2.1 (c_i2c p1).2.2), if_pos (own_key _ (c_i2c _).2.1 (c_i2c _).2.2)]
set_option maxRecDepth 65536 in
set_option maxHeartbeats 40000000 in
theorem comes_1 {Post : Tables → Env → Array Value → State → Outcome → State → Prop} (hpost : ∀ tb e args s v u, (limb_1_1.after args s (.returned v) u = true ∧ limb_1_2.after args s (.returned v) u = true ∧ True) → FrameEnd s (.returned v) u (Jvm.fieldLocs frame_1_writes args s ++ Jvm.arrayLocs frame_1_arrays args s ++ Jvm.staticLocs frame_1_statics s) 0 0 → Post tb e args s (.returned v) u) :
    ArmFor flags0 classFile x code maxLocals ret World_1 tables_1 room_1 Calls_1 rest_1 Pre_1 Post := by
  intro l hfl _ _ p e ha hc hk s m args below hf hA hF happ hP
  obtain ⟨hcalls, hrest, hpre⟩ := hP
  obtain ⟨-, -, -, hnamed, -, -, -, hat⟩ := (Spec.applies_iff hf).mp happ
  obtain ⟨hg, hn⟩ := and_e (Cond.before_iff.mp (show (Jvm.Cond.and given_1 narrow_1).before args s = true from hpre))
  obtain ⟨gg1, gg2⟩ := and_e hg
  obtain ⟨gg3, gg4⟩ := and_e gg2
  obtain ⟨w0, w1, rfl⟩ : ∃ w0 w1 : Value, args = #[w0, w1] := by
    have hs : args.size = 2 := by simpa [Cond.value, given_1] using gg1
    obtain ⟨L⟩ := args
    match L, hs with
    | [w0, w1], _ => exact ⟨w0, w1, rfl⟩
  have hw := fun d (hd : d ∈ tables_1) => atoms_spec (ws := Jvm.Cond.code x code maxLocals ret :: tables_1) hat d (List.mem_cons_of_mem _ hd)
  have hfit : Fit s := fun {y c} hc i hi => by
    obtain ⟨ha, rfl⟩ := Array.getElem?_eq_some_iff.mp hc
    have q := List.all_eq_true.mp ((Array.all_eq_true_iff_forall_mem.mp hF) _ (Array.getElem_mem ha)) i (List.mem_range.mpr hi)
    simpa [Array.getElem?_eq_getElem hi] using q
  obtain ⟨i0, ei0⟩ := is_v gg3
  obtain rfl : w0 = (.int i0) := Option.some.inj ei0
  obtain ⟨i1, ei1⟩ := is_v gg4
  obtain rfl : w1 = (.int i1) := Option.some.inj ei1
  obtain ⟨n, o, h1, h2, h3, _, L, rfl, ⟨rfl, N⟩, hq⟩ := own_rm0 l s _ hw tables_1 i0 i1 s.heap s.heap.size (Nat.le_refl _) p e ha hc hk s m _ below hf ((Spec.applies_iff_loose hf).mp happ).1 ⟨rfl, State.Warmed39.refl s, rfl⟩ trivial
  refine ⟨n, _, h1, h2, h3, hpost _ _ _ _ _ _ ⟨Cond.after_iff.mpr rfl, Cond.after_iff.mpr (eq_i res_at (Term.int_eval (1)) (congrArg Value.int (own_law i0 i1))), trivial⟩ ⟨hq.1, hq.2.1, (hq.2.2.sift fun y hy => Or.inr (N y hy)).mono (by decide) (by decide)⟩⟩
theorem main_1_1 : Claimed_1_1 := comes_1 fun _ _ _ _ _ _ h hF => ⟨h.1, hF⟩
theorem main_1_2 : Claimed_1_2 := comes_1 fun _ _ _ _ _ _ h hF => ⟨h.2.1, hF⟩
end Jvm.Pilot.@@N@@
namespace Jvm.Pilot.@@N@@
open Jvm Jvm.ClassFile Sem Op Lib Jvm.Free Jvm.Stand Jvm.Pilot.@@N@@.Jvm.D
/-! MADE BY PROGRAM (witnessworld.py) out of the Statement's table words and the real class files: 9 classes; the members and pool entries that the words name. The judged class is class 1, her method 1. -/
namespace start1
open Jvm.ClassFile
def u (s : String) : CpInfo := .utf8 (stringToUtf16 s)
/-- a pool by its gaps: so many unusable entries, then the entry; so many at the end -/
def gap : Nat → List CpInfo → List CpInfo
  | 0, r => r
  | n + 1, r => .unusable :: gap n r
def poolList (es : List (Nat × CpInfo)) (last : Nat) : List CpInfo := es.foldr (fun e r => gap e.1 (e.2 :: r)) (gap last [])
def pool (es : List (Nat × CpInfo)) (last : Nat) : Array CpInfo := ⟨poolList es last⟩
def fileOf (pool : Array CpInfo) (this : Nat) (attrs : Array Attribute := #[]) (ms : Array MethodInfo := #[]) (fl : Nat := 33) (sup : Nat := 0) (ifs : Array Nat := #[]) (fds : Array FieldInfo := #[]) : ClassFile where
  minorVersion := 0
  majorVersion := 65
  constantPool := pool
  accessFlags := fl
  thisClass := this
  superClass := sup
  interfaces := ifs
  fields := fds
  methods := ms
  attributes := attrs
def plain (name : String) (sup : Option ClassId) : Class where
  name := name
  kind := .ordinary
  loader := none
  accessFlags := 33
  super := sup
  interfaces := #[]
  cf := none
  fields := #[]
  methods := #[]
  instanceTypes := #[]
  staticTypes := #[]
  resolved := #[]
  callSites := []
  init := .initialized
  statics := none
  mirror := none

def pool0 : Array CpInfo := pool [(5, u "<init>"), (0, u "()V"), (1, .class_ 10), (1, u "java/lang/Object")] 113

def k0m0 : Method := { name := "<init>", desc := "()V", sig := { parameters := [], returnType := none }, accessFlags := 1, code := none }
/-- java/lang/Object -/
def k0 : Class := { plain "java/lang/Object" none with
  accessFlags := 33
  interfaces := #[]
  cf := some (fileOf pool0 8 #[] #[{ accessFlags := 1, nameIndex := 5, descriptorIndex := 6, attributes := #[] }] 33 0 #[] #[])
  fields := #[]
  methods := #[k0m0]
  instanceTypes := #[]
  staticTypes := #[]
  resolved := Array.replicate 124 none
  statics := none }

def pool1 : Array CpInfo := pool [(2, .class_ 4), (1, u "java/lang/Object"), (0, u "<init>"), (0, u "()V"), (0, .methodref 8 9), (0, .class_ 10), (0, .nameAndType 11 12), (0, u "com/example/nanshe/nanshe/model/LabelNames"), (0, u "isNameCharacter"), (0, u "(C)Z"), (0, .methodref 14 15), (0, .class_ 16), (0, .nameAndType 17 12), (0, u "com/example/nanshe/nanshe/model/LabelNamesIsNameCharacterPinLaw"), (0, u "expected"), (2, u "law"), (0, u "(II)Z")] 3

def k1m0 : Method := { name := "<init>", desc := "()V", sig := { parameters := [], returnType := none }, accessFlags := 2, code := none }
def k1c1 : Code := { maxStack := 2, maxLocals := 6, code := code, exceptionTable := #[], attributes := #[] }
def k1m1 : Method := { name := "law", desc := "(II)Z", sig := { parameters := [.int, .int], returnType := some .boolean }, accessFlags := 9, code := some k1c1 }
def k1c2 : Code := { maxStack := 2, maxLocals := 7, code := method_3_code, exceptionTable := #[], attributes := #[] }
def k1m2 : Method := { name := "expected", desc := "(C)Z", sig := { parameters := [.char], returnType := some .boolean }, accessFlags := 10, code := some k1c2 }
/-- com/example/nanshe/nanshe/model/LabelNamesIsNameCharacterPinLaw -/
def k1 : Class := { plain "com/example/nanshe/nanshe/model/LabelNamesIsNameCharacterPinLaw" (some 0) with
  accessFlags := 49
  interfaces := #[]
  cf := some (fileOf pool1 14 #[] #[{ accessFlags := 2, nameIndex := 5, descriptorIndex := 6, attributes := #[] }, { accessFlags := 9, nameIndex := 20, descriptorIndex := 21, attributes := #[] }, { accessFlags := 10, nameIndex := 17, descriptorIndex := 12, attributes := #[] }] 49 2 #[] #[])
  fields := #[]
  methods := #[k1m0, k1m1, k1m2]
  instanceTypes := #[]
  staticTypes := #[]
  resolved := Array.replicate 25 none
  statics := none }

def pool2 : Array CpInfo := pool [(2, .class_ 4), (1, u "java/lang/Object"), (0, u "<init>"), (0, u "()V"), (1, .class_ 10), (1, u "com/example/nanshe/nanshe/model/LabelNames"), (45, .methodref 8 57), (0, .nameAndType 58 59), (0, u "isLetter"), (0, u "(C)Z"), (0, .methodref 8 61), (0, .nameAndType 62 59), (0, u "isDigit"), (10, u "isNameCharacter"), (22, u "RULE"), (0, u "Ljava/lang/String;")] 49

def k2m0 : Method := { name := "<init>", desc := "()V", sig := { parameters := [], returnType := none }, accessFlags := 2, code := none }
def k2c1 : Code := { maxStack := 2, maxLocals := 1, code := prog_29_method_3_code, exceptionTable := #[], attributes := #[] }
def k2m1 : Method := { name := "isNameCharacter", desc := "(C)Z", sig := { parameters := [.char], returnType := some .boolean }, accessFlags := 8, code := some k2c1 }
def k2c2 : Code := { maxStack := 2, maxLocals := 1, code := prog_29_method_4_code, exceptionTable := #[], attributes := #[] }
def k2m2 : Method := { name := "isDigit", desc := "(C)Z", sig := { parameters := [.char], returnType := some .boolean }, accessFlags := 8, code := some k2c2 }
def k2c3 : Code := { maxStack := 2, maxLocals := 1, code := prog_29_method_6_code, exceptionTable := #[], attributes := #[] }
def k2m3 : Method := { name := "isLetter", desc := "(C)Z", sig := { parameters := [.char], returnType := some .boolean }, accessFlags := 10, code := some k2c3 }
/-- com/example/nanshe/nanshe/model/LabelNames -/
def k2 : Class := { plain "com/example/nanshe/nanshe/model/LabelNames" (some 0) with
  accessFlags := 48
  interfaces := #[]
  cf := some (fileOf pool2 8 #[] #[{ accessFlags := 2, nameIndex := 5, descriptorIndex := 6, attributes := #[] }, { accessFlags := 8, nameIndex := 73, descriptorIndex := 59, attributes := #[] }, { accessFlags := 8, nameIndex := 62, descriptorIndex := 59, attributes := #[] }, { accessFlags := 10, nameIndex := 58, descriptorIndex := 59, attributes := #[] }] 48 2 #[] #[{ accessFlags := 26, nameIndex := 96, descriptorIndex := 97, attributes := #[] }])
  fields := #[{ name := "RULE", type := (.object "java/lang/String"), accessFlags := 26, slot := 0, constantValue := 0 }]
  methods := #[k2m0, k2m1, k2m2, k2m3]
  instanceTypes := #[]
  staticTypes := #[(.object "java/lang/String")]
  resolved := Array.replicate 147 none
  statics := none }

def pool3 : Array CpInfo := pool [(1, u "java/lang/Cloneable"), (0, .class_ 1), (0, u "java/lang/Object"), (0, .class_ 3)] 3

/-- java/lang/Cloneable -/
def k3 : Class := { plain "java/lang/Cloneable" (some 0) with
  accessFlags := 1537
  interfaces := #[]
  cf := some (fileOf pool3 2 #[] #[] 1537 4 #[] #[])
  fields := #[]
  methods := #[]
  instanceTypes := #[]
  staticTypes := #[]
  resolved := Array.replicate 8 none
  statics := none }

def pool4 : Array CpInfo := pool [(1, u "java/io/Serializable"), (0, .class_ 1), (0, u "java/lang/Object"), (0, .class_ 3)] 3

/-- java/io/Serializable -/
def k4 : Class := { plain "java/io/Serializable" (some 0) with
  accessFlags := 1537
  interfaces := #[]
  cf := some (fileOf pool4 2 #[] #[] 1537 4 #[] #[])
  fields := #[]
  methods := #[]
  instanceTypes := #[]
  staticTypes := #[]
  resolved := Array.replicate 8 none
  statics := none }

/-- the primitive byte -/
def k5 : Class := { plain "byte" none with kind := .primitive 'B', accessFlags := 0x411 }
/-- [B -/
def k6 : Class := { plain "[B" (some 0) with kind := .array 5 .byte, interfaces := #[3, 4], accessFlags := 1041 }

/-- the primitive int -/
def k7 : Class := { plain "int" none with kind := .primitive 'I', accessFlags := 0x411 }
/-- [I -/
def k8 : Class := { plain "[I" (some 0) with kind := .array 7 .int, interfaces := #[3, 4], accessFlags := 1041 }

def heap : Heap := #[]
def classes : Array Class := #[k0, k1, k2, k3, k4, k5, k6, k7, k8]
def interned : List (Array UInt16 × Addr) := []
def slotsUsed : Nat := 0
def theMethod : MethodId := ⟨1, 1⟩
def args0 : Array Value := #[.int 65, .int 95]
def aboutOver (below : List Frame) : State where
  vm := { classes := classes, interned := interned.toArray }
  heap := heap
  slotsUsed := slotsUsed
  threads := #[{ frames := .invoking theMethod args0 :: below }]
def below0 : List Frame := [.native { method := ⟨0, 0⟩, args := #[] }]
def about1 : State := aboutOver below0
def p0 : Program := .bare "" "" ""
def e0 : Env := launch0.env 0 0 0
theorem w_frames : about1.frames = Frame.invoking theMethod args0 :: below0 := rfl
set_option maxRecDepth 65536 in
theorem w_args : argsFit about1.vm theMethod args0 = true := by decide +kernel
set_option maxRecDepth 65536 in
theorem w_heap : heapFits about1 = true := by decide +kernel
set_option maxRecDepth 65536 in
theorem w_runnable : about1.curStatus? = some .runnable := by decide +kernel
set_option maxRecDepth 65536 in
theorem w_alone : about1.alone = true := by decide +kernel
set_option maxRecDepth 65536 in
theorem w_named : about1.methodNamed? x = some theMethod := by decide +kernel
set_option maxRecDepth 65536 in
theorem w_hears : about1.hears theMethod below0 = true := by decide +kernel
set_option maxRecDepth 65536 in
theorem w_ripe : about1.ripe theMethod args0 below0 = true := by decide +kernel
theorem w_running : about1.status = .running := rfl
set_option maxRecDepth 65536 in
theorem w_room : about1.hasRoom e0.platform room_1 = true :=
  launch0.hasRoom_least _ room_1 (by decide +kernel) (by decide +kernel) (by decide +kernel) (by decide +kernel) (by decide +kernel) (by decide +kernel)
theorem allAtoms_all (ts : List Jvm.Cond) (a : Array Jvm.Value) (st : Jvm.State) : (allAtoms ts).before a st = ts.all (fun c => c.before a st) := by
  induction ts with
  | nil => rfl
  | cons c t ih =>
    show (Jvm.Cond.and c (allAtoms t)).before a st = _
    rw [Jvm.Cond.before_and, ih, List.all_cons]
def words1 : List Jvm.Cond := Jvm.Cond.code x code maxLocals ret :: tables_1
/-- a 'code' word, met by the world's own term for the bytes: nothing is compared byte by byte -/
theorem code_word {y : MethodName} {bytes : ByteArray} {mx : Nat} {rt : Option FieldType} {a : Array Value} {s : State} {m : MethodId} {meth : Method} {c : Code} (h1 : s.methodNamed? y = some m) (h2 : s.vm.method? m = some meth) (h3 : meth.code = some c) (h4 : c.code = bytes)
    (h5 : (c.maxLocals == mx && c.exceptionTable.isEmpty && decide (c.maxStack ≤ mostOperands) && decide (meth.sig.returnType = rt) && !meth.locks && decide (parseMethodDescriptor y.desc = some meth.sig)) = true) : (Jvm.Cond.code y bytes mx rt).before a s = true := by
  simp only [Bool.and_eq_true, beq_iff_eq, Bool.not_eq_true', decide_eq_true_eq] at h5
  obtain ⟨⟨⟨⟨⟨g1, g2⟩, g3⟩, g4⟩, g5⟩, g6⟩ := h5
  simp [Cond.before, Cond.holds, Cond.value, h1, h2, h3, h4, g1, g2, g3, g4, g5, g6]
def isCode : Jvm.Cond → Bool
  | .code _ _ _ _ => true
  | _ => false
theorem all_split {L : List Jvm.Cond} {P : Jvm.Cond → Bool} (h1 : L.all (fun c => isCode c || P c) = true) (h2 : ∀ c ∈ L.filter isCode, P c = true) : L.all P = true := by
  refine List.all_eq_true.mpr fun c hc => ?_
  have h := List.all_eq_true.mp h1 c hc
  rcases Bool.eq_false_or_eq_true (isCode c) with hi | hi
  · exact h2 c (List.mem_filter.mpr ⟨hc, hi⟩)
  · simpa [hi] using h
set_option maxRecDepth 65536 in
theorem w_c0 : (Jvm.Cond.code x code maxLocals ret).before args0 about1 = true := code_word (m := ⟨1, 1⟩) (meth := k1m1) (c := k1c1) (by decide +kernel) rfl rfl rfl (by decide +kernel)
set_option maxRecDepth 65536 in
theorem w_c1 : (Jvm.Cond.code ({ cls := "com/example/nanshe/nanshe/model/LabelNames", name := "isNameCharacter", desc := "(C)Z" } : Jvm.MethodName) prog_29_method_3_code (1 : Nat) (Option.some Jvm.ClassFile.FieldType.boolean)).before args0 about1 = true := code_word (m := ⟨2, 1⟩) (meth := k2m1) (c := k2c1) (by decide +kernel) rfl rfl rfl (by decide +kernel)
set_option maxRecDepth 65536 in
theorem w_c2 : (Jvm.Cond.code ({ cls := "com/example/nanshe/nanshe/model/LabelNames", name := "isLetter", desc := "(C)Z" } : Jvm.MethodName) prog_29_method_6_code (1 : Nat) (Option.some Jvm.ClassFile.FieldType.boolean)).before args0 about1 = true := code_word (m := ⟨2, 3⟩) (meth := k2m3) (c := k2c3) (by decide +kernel) rfl rfl rfl (by decide +kernel)
set_option maxRecDepth 65536 in
theorem w_c3 : (Jvm.Cond.code ({ cls := "com/example/nanshe/nanshe/model/LabelNames", name := "isDigit", desc := "(C)Z" } : Jvm.MethodName) prog_29_method_4_code (1 : Nat) (Option.some Jvm.ClassFile.FieldType.boolean)).before args0 about1 = true := code_word (m := ⟨2, 2⟩) (meth := k2m2) (c := k2c2) (by decide +kernel) rfl rfl rfl (by decide +kernel)
set_option maxRecDepth 65536 in
theorem w_c4 : (Jvm.Cond.code ({ cls := "com/example/nanshe/nanshe/model/LabelNamesIsNameCharacterPinLaw", name := "expected", desc := "(C)Z" } : Jvm.MethodName) method_3_code (7 : Nat) (Option.some Jvm.ClassFile.FieldType.boolean)).before args0 about1 = true := code_word (m := ⟨1, 2⟩) (meth := k1m2) (c := k1c2) (by decide +kernel) rfl rfl rfl (by decide +kernel)
def codes1 : List Jvm.Cond := [Jvm.Cond.code x code maxLocals ret, Jvm.Cond.code ({ cls := "com/example/nanshe/nanshe/model/LabelNames", name := "isNameCharacter", desc := "(C)Z" } : Jvm.MethodName) prog_29_method_3_code (1 : Nat) (Option.some Jvm.ClassFile.FieldType.boolean), Jvm.Cond.code ({ cls := "com/example/nanshe/nanshe/model/LabelNames", name := "isLetter", desc := "(C)Z" } : Jvm.MethodName) prog_29_method_6_code (1 : Nat) (Option.some Jvm.ClassFile.FieldType.boolean), Jvm.Cond.code ({ cls := "com/example/nanshe/nanshe/model/LabelNames", name := "isDigit", desc := "(C)Z" } : Jvm.MethodName) prog_29_method_4_code (1 : Nat) (Option.some Jvm.ClassFile.FieldType.boolean), Jvm.Cond.code ({ cls := "com/example/nanshe/nanshe/model/LabelNamesIsNameCharacterPinLaw", name := "expected", desc := "(C)Z" } : Jvm.MethodName) method_3_code (7 : Nat) (Option.some Jvm.ClassFile.FieldType.boolean)]
set_option maxRecDepth 65536 in
theorem codes_eq : words1.filter isCode = codes1 := rfl
theorem w_codes : ∀ c ∈ words1.filter isCode, c.before args0 about1 = true := by
  rw [codes_eq]
  intro c hc
  simp only [codes1, List.mem_cons, List.not_mem_nil, or_false] at hc
  rcases hc with rfl | rfl | rfl | rfl | rfl
  · exact w_c0
  · exact w_c1
  · exact w_c2
  · exact w_c3
  · exact w_c4
set_option maxRecDepth 65536 in
theorem w_t1 : words1.all (fun c => isCode c || c.before args0 about1) = true := by decide +kernel
theorem w_tables : (allAtoms (Jvm.Cond.code x code maxLocals ret :: tables_1)).before args0 about1 = true := by
  rw [allAtoms_all]
  show words1.all (fun c => c.before args0 about1) = true
  refine all_split ?_ w_codes
  rw [w_t1]
set_option maxRecDepth 65536 in
theorem w_case : (Jvm.Cond.and given_1 narrow_1).before args0 about1 = true := by decide +kernel
theorem w_applies : (headSpec (Jvm.Cond.code x code maxLocals ret :: tables_1) room_1).applies x e0.platform about1 = true :=
  (Spec.applies_iff w_frames).mpr ⟨w_running, w_runnable, w_alone, w_named, w_hears, w_ripe, w_room, w_tables⟩
theorem atStart : AtStart classFile x code maxLocals ret World_1 tables_1 room_1 Calls_1 rest_1 Pre_1 launch0 p0 e0 about1 theMethod args0 below0 :=
  ⟨lists_1, trivial, launch0.admits_env _ _ _, launch0.least_env, fairChoices_fair.cas, fairChoices_fair.clock, w_frames, w_args, w_heap, w_applies, trivial, trivial, w_case⟩
end start1
theorem witness_1 : WitnessClaimed_1 := ⟨start1.p0, start1.e0, start1.about1, start1.theMethod, start1.args0, start1.below0, start1.atStart⟩
end Jvm.Pilot.@@N@@
